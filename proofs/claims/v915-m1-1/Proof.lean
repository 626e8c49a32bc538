import JvmDerived
import JvmDerived.Pilot.@@N@@Statement
import JvmDerived.Pilot.@@N@@Code
set_option linter.unusedVariables false
set_option linter.unusedSimpArgs false

namespace Jvm.Own
open Sem ClassFile Op Lib Jvm.Stand Jvm.Free Jvm.LawKit Jvm.RoadKit
def Go (p : Program) (e : Env) (below : List Frame) (G : State → Outcome → Prop) (σ : State) : Prop := ∃ s₂ o, Steps p.tables e below σ s₂ ∧ s₂.status = .running ∧ Ended s₂ below o ∧ G s₂ o
theorem Go.step {p : Program} {e : Env} {below : List Frame} {G : State → Outcome → Prop} {σ σ' : State} (h : ∀ t, Steps p.tables e below σ' t → Steps p.tables e below σ t) (k : Go p e below G σ') : Go p e below G σ := by
  obtain ⟨s₂, o, h1, h2⟩ := k
  exact ⟨s₂, o, h _ h1, h2⟩
def RetG (s : State) (Q : Option Value → Heap → List Loc → Prop) (cells slots : Nat) (s₂ : State) (o : Outcome) : Prop := ∃ v L, o = .returned v ∧ Q v s₂.heap L ∧ FrameEnd s o s₂ L cells slots
section
variable {p : Program} {l : Launch} {e : Env} {R : Room} {s : State} {m : MethodId} {args : Array Value} {below : List Frame} {meth : Method} {c : Code} {T : State} {locs : List Loc} {k n : Nat} {G : State → Outcome → Prop} {code : ByteArray} {pc : Nat} {Ls : Array Slot} {st : List Value} {Z : State} {a0 : Array Value} {h : Heap} {n0 : Nat}
theorem Go.leave (X : Stand p l e R s m args below meth c T locs k n) {v : Option Value} (hv : meth.sig.returnType = none → v = none) (hlocks : meth.locks = false) {Q : Option Value → Heap → List Loc → Prop} {cells slots : Nat} {σ : State} (eT : T.heap = h) (hq : Q v h locs) (hk : k ≤ cells) (hn : n ≤ slots)
    (st : ∀ fs, (∀ (f : JFrame) (acts : List Action), f.method = m → f.locked = none → f.entered = [] → (doReturn e (T.setTop f) acts v).1 = T.setFrames fs) → Steps p.tables e below σ (T.setFrames fs)) : Go p e below (RetG s Q cells slots) σ := by
  obtain ⟨fs, hr, hrun, hended, hW, hsame⟩ := X.leave (v := v) hv hlocks
  subst eT
  exact ⟨_, _, st fs hr, hrun, hended, _, _, rfl, hq, ⟨_, rfl⟩, hW, hsame.mono hk hn⟩
/-- null or some object -/
def Rf (v : Value) : Prop := v = .null ∨ ∃ a, v = .ref a
theorem Rf.is {v : Value} (r : Rf v) : v.isRef = true := by rcases r with rfl | ⟨a, rfl⟩ <;> rfl
theorem Rf.cat {v : Value} (r : Rf v) : v.category = 1 := by rcases r with rfl | ⟨a, rfl⟩ <;> rfl
theorem Rf.nar {v : Value} (r : Rf v) {c : String} : narrow (.object c) v = v := by rcases r with rfl | ⟨a, rfl⟩ <;> rfl
theorem Rf.fit {v : Value} (r : Rf v) {c : String} : fits (.object c) v = true := by rcases r with rfl | ⟨a, rfl⟩ <;> rfl
theorem Rf.store {v : Value} (r : Rf v) {ls ls' : Array Slot} {i : Nat} {o : Slot} (hold : ls[i]? = some o) (ho : One o) (hl : ls.setIfInBounds i (.val v) = ls') : storeLocals ls i v = some ls' := by rw [XS.store1 hold ho r.cat, hl]
theorem Rf.of {v : Value} (h : v.isRef = true) : Rf v := ref_cases h
theorem selOf {U : State} {as : Array Value} {y : MethodName} {n : Nat} (wi : (Cond.instantiable y.cls n).before as U = true) (wp : (Cond.privateMethod y).before #[] U = true) (wm : (Cond.instanceMethod y).before as U = true) (hy : y.cls ≠ "java/lang/invoke/MethodHandle" ∧ y.cls ≠ "java/lang/invoke/VarHandle") : (Cond.selects y.cls y y).before as U = true := by
  obtain ⟨c, k, h1, h2, -, h4, -⟩ := Cond.instantiable_spec wi
  exact selects_self_of_private h1 h2 (Bool.or_eq_false_iff.mp h4).1 (Cond.privateMethod_at wp) wm hy
theorem g_iload (X : Stand p l e R s m args below meth c T locs k n) (hx : p.tables.exec = Jvm.exec) (hby : c.code = code) {j : Nat} {v : Int32} (hd : decode code pc = .ok (.iload j, 2)) (hl : Ls[j]? = some (.val (.int v))) (K : Go p e below G (T.setTop (mkF m (pc + 2) Ls (.int v :: st)))) : Go p e below G (T.setTop (mkF m pc Ls st)) := Go.step (fun t q => XS.iload X.here hx rfl (hb hby hd) hl q) K
theorem g_iloadN (X : Stand p l e R s m args below meth c T locs k n) (hx : p.tables.exec = Jvm.exec) (hby : c.code = code) {j : Fin 4} {v : Int32} (hd : decode code pc = .ok (.iload_n j, 1)) (hl : Ls[j.val]? = some (.val (.int v))) (K : Go p e below G (T.setTop (mkF m (pc + 1) Ls (.int v :: st)))) : Go p e below G (T.setTop (mkF m pc Ls st)) := Go.step (fun t q => XS.iloadN X.here hx rfl (hb hby hd) hl q) K
theorem g_lload (X : Stand p l e R s m args below meth c T locs k n) (hx : p.tables.exec = Jvm.exec) (hby : c.code = code) {j : Nat} {v : Int64} (hd : decode code pc = .ok (.lload j, 2)) (hl : Ls[j]? = some (.val (.long v))) (K : Go p e below G (T.setTop (mkF m (pc + 2) Ls (.long v :: st)))) : Go p e below G (T.setTop (mkF m pc Ls st)) := Go.step (fun t q => XS.lload X.here hx rfl (hb hby hd) hl q) K
theorem g_lloadN (X : Stand p l e R s m args below meth c T locs k n) (hx : p.tables.exec = Jvm.exec) (hby : c.code = code) {j : Fin 4} {v : Int64} (hd : decode code pc = .ok (.lload_n j, 1)) (hl : Ls[j.val]? = some (.val (.long v))) (K : Go p e below G (T.setTop (mkF m (pc + 1) Ls (.long v :: st)))) : Go p e below G (T.setTop (mkF m pc Ls st)) := Go.step (fun t q => XS.lloadN X.here hx rfl (hb hby hd) hl q) K
theorem g_aload (X : Stand p l e R s m args below meth c T locs k n) (hx : p.tables.exec = Jvm.exec) (hby : c.code = code) {j : Nat} {v : Value} (hd : decode code pc = .ok (.aload j, 2)) (hl : Ls[j]? = some (.val v)) (hv : v.isRef = true) (K : Go p e below G (T.setTop (mkF m (pc + 2) Ls (v :: st)))) : Go p e below G (T.setTop (mkF m pc Ls st)) := Go.step (fun t q => XS.aload X.here hx rfl (hb hby hd) hl hv q) K
theorem g_aloadN (X : Stand p l e R s m args below meth c T locs k n) (hx : p.tables.exec = Jvm.exec) (hby : c.code = code) {j : Fin 4} {v : Value} (hd : decode code pc = .ok (.aload_n j, 1)) (hl : Ls[j.val]? = some (.val v)) (hv : v.isRef = true) (K : Go p e below G (T.setTop (mkF m (pc + 1) Ls (v :: st)))) : Go p e below G (T.setTop (mkF m pc Ls st)) := Go.step (fun t q => XS.aloadN X.here hx rfl (hb hby hd) hl hv q) K
theorem g_istore (X : Stand p l e R s m args below meth c T locs k n) (hx : p.tables.exec = Jvm.exec) (hby : c.code = code) {j : Nat} {x : Int32} {rest : List Value} {l' : Array Slot} (hd : decode code pc = .ok (.istore j, 2)) (hl : storeLocals Ls j (.int x) = some l') (K : Go p e below G (T.setTop (mkF m (pc + 2) l' rest))) : Go p e below G (T.setTop (mkF m pc Ls (.int x :: rest))) := Go.step (fun t q => XS.istore X.here hx rfl (hb hby hd) rfl hl q) K
theorem g_istoreN (X : Stand p l e R s m args below meth c T locs k n) (hx : p.tables.exec = Jvm.exec) (hby : c.code = code) {j : Fin 4} {x : Int32} {rest : List Value} {l' : Array Slot} (hd : decode code pc = .ok (.istore_n j, 1)) (hl : storeLocals Ls j.val (.int x) = some l') (K : Go p e below G (T.setTop (mkF m (pc + 1) l' rest))) : Go p e below G (T.setTop (mkF m pc Ls (.int x :: rest))) := Go.step (fun t q => XS.istoreN X.here hx rfl (hb hby hd) rfl hl q) K
theorem g_lstore (X : Stand p l e R s m args below meth c T locs k n) (hx : p.tables.exec = Jvm.exec) (hby : c.code = code) {j : Nat} {x : Int64} {rest : List Value} {l' : Array Slot} (hd : decode code pc = .ok (.lstore j, 2)) (hl : storeLocals Ls j (.long x) = some l') (K : Go p e below G (T.setTop (mkF m (pc + 2) l' rest))) : Go p e below G (T.setTop (mkF m pc Ls (.long x :: rest))) := Go.step (fun t q => XS.lstore X.here hx rfl (hb hby hd) rfl hl q) K
theorem g_lstoreN (X : Stand p l e R s m args below meth c T locs k n) (hx : p.tables.exec = Jvm.exec) (hby : c.code = code) {j : Fin 4} {x : Int64} {rest : List Value} {l' : Array Slot} (hd : decode code pc = .ok (.lstore_n j, 1)) (hl : storeLocals Ls j.val (.long x) = some l') (K : Go p e below G (T.setTop (mkF m (pc + 1) l' rest))) : Go p e below G (T.setTop (mkF m pc Ls (.long x :: rest))) := Go.step (fun t q => XS.lstoreN X.here hx rfl (hb hby hd) rfl hl q) K
theorem g_astore (X : Stand p l e R s m args below meth c T locs k n) (hx : p.tables.exec = Jvm.exec) (hby : c.code = code) {j : Nat} {x : Value} {rest : List Value} {l' : Array Slot} (hd : decode code pc = .ok (.astore j, 2)) (hv : x.isRef = true) (hl : storeLocals Ls j x = some l') (K : Go p e below G (T.setTop (mkF m (pc + 2) l' rest))) : Go p e below G (T.setTop (mkF m pc Ls (x :: rest))) := Go.step (fun t q => XS.astore X.here hx rfl (hb hby hd) rfl hv hl q) K
theorem g_astoreN (X : Stand p l e R s m args below meth c T locs k n) (hx : p.tables.exec = Jvm.exec) (hby : c.code = code) {j : Fin 4} {x : Value} {rest : List Value} {l' : Array Slot} (hd : decode code pc = .ok (.astore_n j, 1)) (hv : x.isRef = true) (hl : storeLocals Ls j.val x = some l') (K : Go p e below G (T.setTop (mkF m (pc + 1) l' rest))) : Go p e below G (T.setTop (mkF m pc Ls (x :: rest))) := Go.step (fun t q => XS.astoreN X.here hx rfl (hb hby hd) rfl hv hl q) K
theorem g_iconst (X : Stand p l e R s m args below meth c T locs k n) (hx : p.tables.exec = Jvm.exec) (hby : c.code = code) {i : Int} (v : Int32) (hd : decode code pc = .ok (.iconst i, 1)) (hv : Int32.ofInt i = v) (K : Go p e below G (T.setTop (mkF m (pc + 1) Ls (.int v :: st)))) : Go p e below G (T.setTop (mkF m pc Ls st)) := Go.step (fun t q => XS.iconst X.here hx rfl (hb hby hd) (by rw [hv]; exact q)) K
theorem g_bipush (X : Stand p l e R s m args below meth c T locs k n) (hx : p.tables.exec = Jvm.exec) (hby : c.code = code) {i : Int} (v : Int32) (hd : decode code pc = .ok (.bipush i, 2)) (hv : (Int8.ofInt i).toInt32 = v) (K : Go p e below G (T.setTop (mkF m (pc + 2) Ls (.int v :: st)))) : Go p e below G (T.setTop (mkF m pc Ls st)) := Go.step (fun t q => XS.bipush X.here hx rfl (hb hby hd) (by rw [hv]; exact q)) K
theorem g_sipush (X : Stand p l e R s m args below meth c T locs k n) (hx : p.tables.exec = Jvm.exec) (hby : c.code = code) {i : Int} (v : Int32) (hd : decode code pc = .ok (.sipush i, 3)) (hv : (Int16.ofInt i).toInt32 = v) (K : Go p e below G (T.setTop (mkF m (pc + 3) Ls (.int v :: st)))) : Go p e below G (T.setTop (mkF m pc Ls st)) := Go.step (fun t q => XS.sipush X.here hx rfl (hb hby hd) (by rw [hv]; exact q)) K
theorem g_lconst (X : Stand p l e R s m args below meth c T locs k n) (hx : p.tables.exec = Jvm.exec) (hby : c.code = code) {j : Fin 2} (v : Int64) (hd : decode code pc = .ok (.lconst j, 1)) (hv : Int64.ofNat j = v) (K : Go p e below G (T.setTop (mkF m (pc + 1) Ls (.long v :: st)))) : Go p e below G (T.setTop (mkF m pc Ls st)) := Go.step (fun t q => XS.lconst X.here hx rfl (hb hby hd) (by rw [hv]; exact q)) K
theorem g_topI {x : Int32} (y : Int32) (q : x = y) {rest : List Value} (K : Go p e below G (T.setTop (mkF m pc Ls (.int y :: rest)))) : Go p e below G (T.setTop (mkF m pc Ls (.int x :: rest))) := q ▸ K
theorem g_topJ {x : Int64} (y : Int64) (q : x = y) {rest : List Value} (K : Go p e below G (T.setTop (mkF m pc Ls (.long y :: rest)))) : Go p e below G (T.setTop (mkF m pc Ls (.long x :: rest))) := q ▸ K
theorem g_at {ls ls' : Array Slot} {st' : List Value} (pc' : Nat) (h1 : pc = pc') (h2 : ls = ls') (h3 : st = st') (K : Go p e below G (T.setTop (mkF m pc' ls' st'))) : Go p e below G (T.setTop (mkF m pc ls st)) := h1 ▸ h2 ▸ h3 ▸ K
theorem g_aconst_null (X : Stand p l e R s m args below meth c T locs k n) (hx : p.tables.exec = Jvm.exec) (hby : c.code = code)  (hd : decode code pc = .ok (.aconst_null, 1)) (K : Go p e below G (T.setTop (mkF m (pc + 1) Ls (.null :: st)))) : Go p e below G (T.setTop (mkF m pc Ls st)) := Go.step (fun t q => XS.aconstNull X.here hx rfl (hb hby hd)  q) K
theorem g_iadd (X : Stand p l e R s m args below meth c T locs k n) (hx : p.tables.exec = Jvm.exec) (hby : c.code = code) {x y : Int32} {rest : List Value} (hd : decode code pc = .ok (.iadd, 1)) (K : Go p e below G (T.setTop (mkF m (pc + 1) Ls (.int (x + y) :: rest)))) : Go p e below G (T.setTop (mkF m pc Ls (.int y :: .int x :: rest))) := Go.step (fun t q => XS.iadd X.here hx rfl (hb hby hd) rfl q) K
theorem g_ladd (X : Stand p l e R s m args below meth c T locs k n) (hx : p.tables.exec = Jvm.exec) (hby : c.code = code) {x y : Int64} {rest : List Value} (hd : decode code pc = .ok (.ladd, 1)) (K : Go p e below G (T.setTop (mkF m (pc + 1) Ls (.long (x + y) :: rest)))) : Go p e below G (T.setTop (mkF m pc Ls (.long y :: .long x :: rest))) := Go.step (fun t q => XS.ladd X.here hx rfl (hb hby hd) rfl q) K
theorem g_isub (X : Stand p l e R s m args below meth c T locs k n) (hx : p.tables.exec = Jvm.exec) (hby : c.code = code) {x y : Int32} {rest : List Value} (hd : decode code pc = .ok (.isub, 1)) (K : Go p e below G (T.setTop (mkF m (pc + 1) Ls (.int (x - y) :: rest)))) : Go p e below G (T.setTop (mkF m pc Ls (.int y :: .int x :: rest))) := Go.step (fun t q => XS.isub X.here hx rfl (hb hby hd) rfl q) K
theorem g_lsub (X : Stand p l e R s m args below meth c T locs k n) (hx : p.tables.exec = Jvm.exec) (hby : c.code = code) {x y : Int64} {rest : List Value} (hd : decode code pc = .ok (.lsub, 1)) (K : Go p e below G (T.setTop (mkF m (pc + 1) Ls (.long (x - y) :: rest)))) : Go p e below G (T.setTop (mkF m pc Ls (.long y :: .long x :: rest))) := Go.step (fun t q => XS.lsub X.here hx rfl (hb hby hd) rfl q) K
theorem g_imul (X : Stand p l e R s m args below meth c T locs k n) (hx : p.tables.exec = Jvm.exec) (hby : c.code = code) {x y : Int32} {rest : List Value} (hd : decode code pc = .ok (.imul, 1)) (K : Go p e below G (T.setTop (mkF m (pc + 1) Ls (.int (x * y) :: rest)))) : Go p e below G (T.setTop (mkF m pc Ls (.int y :: .int x :: rest))) := Go.step (fun t q => XS.imul X.here hx rfl (hb hby hd) rfl q) K
theorem g_lmul (X : Stand p l e R s m args below meth c T locs k n) (hx : p.tables.exec = Jvm.exec) (hby : c.code = code) {x y : Int64} {rest : List Value} (hd : decode code pc = .ok (.lmul, 1)) (K : Go p e below G (T.setTop (mkF m (pc + 1) Ls (.long (x * y) :: rest)))) : Go p e below G (T.setTop (mkF m pc Ls (.long y :: .long x :: rest))) := Go.step (fun t q => XS.lmul X.here hx rfl (hb hby hd) rfl q) K
theorem g_iand (X : Stand p l e R s m args below meth c T locs k n) (hx : p.tables.exec = Jvm.exec) (hby : c.code = code) {x y : Int32} {rest : List Value} (hd : decode code pc = .ok (.iand, 1)) (K : Go p e below G (T.setTop (mkF m (pc + 1) Ls (.int (x &&& y) :: rest)))) : Go p e below G (T.setTop (mkF m pc Ls (.int y :: .int x :: rest))) := Go.step (fun t q => XS.iand X.here hx rfl (hb hby hd) rfl q) K
theorem g_land (X : Stand p l e R s m args below meth c T locs k n) (hx : p.tables.exec = Jvm.exec) (hby : c.code = code) {x y : Int64} {rest : List Value} (hd : decode code pc = .ok (.land, 1)) (K : Go p e below G (T.setTop (mkF m (pc + 1) Ls (.long (x &&& y) :: rest)))) : Go p e below G (T.setTop (mkF m pc Ls (.long y :: .long x :: rest))) := Go.step (fun t q => XS.land X.here hx rfl (hb hby hd) rfl q) K
theorem g_ior (X : Stand p l e R s m args below meth c T locs k n) (hx : p.tables.exec = Jvm.exec) (hby : c.code = code) {x y : Int32} {rest : List Value} (hd : decode code pc = .ok (.ior, 1)) (K : Go p e below G (T.setTop (mkF m (pc + 1) Ls (.int (x ||| y) :: rest)))) : Go p e below G (T.setTop (mkF m pc Ls (.int y :: .int x :: rest))) := Go.step (fun t q => XS.ior X.here hx rfl (hb hby hd) rfl q) K
theorem g_lor (X : Stand p l e R s m args below meth c T locs k n) (hx : p.tables.exec = Jvm.exec) (hby : c.code = code) {x y : Int64} {rest : List Value} (hd : decode code pc = .ok (.lor, 1)) (K : Go p e below G (T.setTop (mkF m (pc + 1) Ls (.long (x ||| y) :: rest)))) : Go p e below G (T.setTop (mkF m pc Ls (.long y :: .long x :: rest))) := Go.step (fun t q => XS.lor X.here hx rfl (hb hby hd) rfl q) K
theorem g_ixor (X : Stand p l e R s m args below meth c T locs k n) (hx : p.tables.exec = Jvm.exec) (hby : c.code = code) {x y : Int32} {rest : List Value} (hd : decode code pc = .ok (.ixor, 1)) (K : Go p e below G (T.setTop (mkF m (pc + 1) Ls (.int (x ^^^ y) :: rest)))) : Go p e below G (T.setTop (mkF m pc Ls (.int y :: .int x :: rest))) := Go.step (fun t q => XS.ixor X.here hx rfl (hb hby hd) rfl q) K
theorem g_lxor (X : Stand p l e R s m args below meth c T locs k n) (hx : p.tables.exec = Jvm.exec) (hby : c.code = code) {x y : Int64} {rest : List Value} (hd : decode code pc = .ok (.lxor, 1)) (K : Go p e below G (T.setTop (mkF m (pc + 1) Ls (.long (x ^^^ y) :: rest)))) : Go p e below G (T.setTop (mkF m pc Ls (.long y :: .long x :: rest))) := Go.step (fun t q => XS.lxor X.here hx rfl (hb hby hd) rfl q) K
theorem g_ishl (X : Stand p l e R s m args below meth c T locs k n) (hx : p.tables.exec = Jvm.exec) (hby : c.code = code) {x y : Int32} {rest : List Value} (hd : decode code pc = .ok (.ishl, 1)) (K : Go p e below G (T.setTop (mkF m (pc + 1) Ls (.int (x <<< (y &&& 31)) :: rest)))) : Go p e below G (T.setTop (mkF m pc Ls (.int y :: .int x :: rest))) := Go.step (fun t q => XS.ishl X.here hx rfl (hb hby hd) rfl q) K
theorem g_ishr (X : Stand p l e R s m args below meth c T locs k n) (hx : p.tables.exec = Jvm.exec) (hby : c.code = code) {x y : Int32} {rest : List Value} (hd : decode code pc = .ok (.ishr, 1)) (K : Go p e below G (T.setTop (mkF m (pc + 1) Ls (.int (x >>> (y &&& 31)) :: rest)))) : Go p e below G (T.setTop (mkF m pc Ls (.int y :: .int x :: rest))) := Go.step (fun t q => XS.ishr X.here hx rfl (hb hby hd) rfl q) K
theorem g_iushr (X : Stand p l e R s m args below meth c T locs k n) (hx : p.tables.exec = Jvm.exec) (hby : c.code = code) {x y : Int32} {rest : List Value} (hd : decode code pc = .ok (.iushr, 1)) (K : Go p e below G (T.setTop (mkF m (pc + 1) Ls (.int ((x.toUInt32 >>> (y &&& 31).toUInt32).toInt32) :: rest)))) : Go p e below G (T.setTop (mkF m pc Ls (.int y :: .int x :: rest))) := Go.step (fun t q => XS.iushr X.here hx rfl (hb hby hd) rfl q) K
theorem g_lshl (X : Stand p l e R s m args below meth c T locs k n) (hx : p.tables.exec = Jvm.exec) (hby : c.code = code) {x : Int64} {y : Int32} {rest : List Value} (hd : decode code pc = .ok (.lshl, 1)) (K : Go p e below G (T.setTop (mkF m (pc + 1) Ls (.long (x <<< (y &&& 0x3f).toInt64) :: rest)))) : Go p e below G (T.setTop (mkF m pc Ls (.int y :: .long x :: rest))) := Go.step (fun t q => XS.lshl X.here hx rfl (hb hby hd) rfl q) K
theorem g_lshr (X : Stand p l e R s m args below meth c T locs k n) (hx : p.tables.exec = Jvm.exec) (hby : c.code = code) {x : Int64} {y : Int32} {rest : List Value} (hd : decode code pc = .ok (.lshr, 1)) (K : Go p e below G (T.setTop (mkF m (pc + 1) Ls (.long (x >>> (y &&& 0x3f).toInt64) :: rest)))) : Go p e below G (T.setTop (mkF m pc Ls (.int y :: .long x :: rest))) := Go.step (fun t q => XS.lshr X.here hx rfl (hb hby hd) rfl q) K
theorem g_lushr (X : Stand p l e R s m args below meth c T locs k n) (hx : p.tables.exec = Jvm.exec) (hby : c.code = code) {x : Int64} {y : Int32} {rest : List Value} (hd : decode code pc = .ok (.lushr, 1)) (K : Go p e below G (T.setTop (mkF m (pc + 1) Ls (.long ((x.toUInt64 >>> (y &&& 0x3f).toInt64.toUInt64).toInt64) :: rest)))) : Go p e below G (T.setTop (mkF m pc Ls (.int y :: .long x :: rest))) := Go.step (fun t q => XS.lushr X.here hx rfl (hb hby hd) rfl q) K
theorem g_ineg (X : Stand p l e R s m args below meth c T locs k n) (hx : p.tables.exec = Jvm.exec) (hby : c.code = code) {x : Int32} {rest : List Value} (hd : decode code pc = .ok (.ineg, 1)) (K : Go p e below G (T.setTop (mkF m (pc + 1) Ls (.int (-x) :: rest)))) : Go p e below G (T.setTop (mkF m pc Ls (.int x :: rest))) := Go.step (fun t q => XS.ineg X.here hx rfl (hb hby hd) rfl q) K
theorem g_lneg (X : Stand p l e R s m args below meth c T locs k n) (hx : p.tables.exec = Jvm.exec) (hby : c.code = code) {x : Int64} {rest : List Value} (hd : decode code pc = .ok (.lneg, 1)) (K : Go p e below G (T.setTop (mkF m (pc + 1) Ls (.long (-x) :: rest)))) : Go p e below G (T.setTop (mkF m pc Ls (.long x :: rest))) := Go.step (fun t q => XS.lneg X.here hx rfl (hb hby hd) rfl q) K
theorem g_i2l (X : Stand p l e R s m args below meth c T locs k n) (hx : p.tables.exec = Jvm.exec) (hby : c.code = code) {x : Int32} {rest : List Value} (hd : decode code pc = .ok (.i2l, 1)) (K : Go p e below G (T.setTop (mkF m (pc + 1) Ls (.long (x.toInt64) :: rest)))) : Go p e below G (T.setTop (mkF m pc Ls (.int x :: rest))) := Go.step (fun t q => XS.i2l X.here hx rfl (hb hby hd) rfl q) K
theorem g_l2i (X : Stand p l e R s m args below meth c T locs k n) (hx : p.tables.exec = Jvm.exec) (hby : c.code = code) {x : Int64} {rest : List Value} (hd : decode code pc = .ok (.l2i, 1)) (K : Go p e below G (T.setTop (mkF m (pc + 1) Ls (.int (x.toInt32) :: rest)))) : Go p e below G (T.setTop (mkF m pc Ls (.long x :: rest))) := Go.step (fun t q => XS.l2i X.here hx rfl (hb hby hd) rfl q) K
theorem g_i2b (X : Stand p l e R s m args below meth c T locs k n) (hx : p.tables.exec = Jvm.exec) (hby : c.code = code) {x : Int32} {rest : List Value} (hd : decode code pc = .ok (.i2b, 1)) (K : Go p e below G (T.setTop (mkF m (pc + 1) Ls (.int (x.toInt8.toInt32) :: rest)))) : Go p e below G (T.setTop (mkF m pc Ls (.int x :: rest))) := Go.step (fun t q => XS.i2b X.here hx rfl (hb hby hd) rfl q) K
theorem g_i2s (X : Stand p l e R s m args below meth c T locs k n) (hx : p.tables.exec = Jvm.exec) (hby : c.code = code) {x : Int32} {rest : List Value} (hd : decode code pc = .ok (.i2s, 1)) (K : Go p e below G (T.setTop (mkF m (pc + 1) Ls (.int (x.toInt16.toInt32) :: rest)))) : Go p e below G (T.setTop (mkF m pc Ls (.int x :: rest))) := Go.step (fun t q => XS.i2s X.here hx rfl (hb hby hd) rfl q) K
theorem g_i2c (X : Stand p l e R s m args below meth c T locs k n) (hx : p.tables.exec = Jvm.exec) (hby : c.code = code) {x : Int32} {rest : List Value} (hd : decode code pc = .ok (.i2c, 1)) (K : Go p e below G (T.setTop (mkF m (pc + 1) Ls (.int (x.toUInt32.toUInt16.toUInt32.toInt32) :: rest)))) : Go p e below G (T.setTop (mkF m pc Ls (.int x :: rest))) := Go.step (fun t q => XS.i2c X.here hx rfl (hb hby hd) rfl q) K
theorem g_lcmp (X : Stand p l e R s m args below meth c T locs k n) (hx : p.tables.exec = Jvm.exec) (hby : c.code = code) {x y : Int64} {rest : List Value} (hd : decode code pc = .ok (.lcmp, 1)) (K : Go p e below G (T.setTop (mkF m (pc + 1) Ls (.int (lcmpW x y) :: rest)))) : Go p e below G (T.setTop (mkF m pc Ls (.long y :: .long x :: rest))) := Go.step (fun t q => XS.lcmp X.here hx rfl (hb hby hd) rfl q) K
theorem g_idiv (X : Stand p l e R s m args below meth c T locs k n) (hx : p.tables.exec = Jvm.exec) (hby : c.code = code) {x y : Int32} {rest : List Value} (hd : decode code pc = .ok (.idiv, 1)) (hy : y ≠ 0) (K : Go p e below G (T.setTop (mkF m (pc + 1) Ls (.int (x / y) :: rest)))) : Go p e below G (T.setTop (mkF m pc Ls (.int y :: .int x :: rest))) := Go.step (fun t q => XS.idiv X.here hx rfl (hb hby hd) rfl hy q) K
theorem g_irem (X : Stand p l e R s m args below meth c T locs k n) (hx : p.tables.exec = Jvm.exec) (hby : c.code = code) {x y : Int32} {rest : List Value} (hd : decode code pc = .ok (.irem, 1)) (hy : y ≠ 0) (K : Go p e below G (T.setTop (mkF m (pc + 1) Ls (.int (x % y) :: rest)))) : Go p e below G (T.setTop (mkF m pc Ls (.int y :: .int x :: rest))) := Go.step (fun t q => iremM X hx rfl (hb hby hd) rfl hy q) K
theorem g_iinc (X : Stand p l e R s m args below meth c T locs k n) (hx : p.tables.exec = Jvm.exec) (hby : c.code = code) {j : Nat} {cst : Int} {x : Int32} {l' : Array Slot} (v : Int32) (hd : decode code pc = .ok (.iinc j cst, 3)) (hl : Ls[j]? = some (.val (.int x))) (hv : x + Int32.ofInt cst = v) (hl' : storeLocals Ls j (.int v) = some l') (K : Go p e below G (T.setTop (mkF m (pc + 3) l' st))) : Go p e below G (T.setTop (mkF m pc Ls st)) := Go.step (fun t q => XS.iinc X.here hx rfl (hb hby hd) hl (by rw [hv]; exact hl') q) K
theorem g_dup (X : Stand p l e R s m args below meth c T locs k n) (hx : p.tables.exec = Jvm.exec) (hby : c.code = code) {x : Value} {rest : List Value} (hd : decode code pc = .ok (.dup, 1)) (hc : x.category = 1) (K : Go p e below G (T.setTop (mkF m (pc + 1) Ls (x :: x :: rest)))) : Go p e below G (T.setTop (mkF m pc Ls (x :: rest))) := Go.step (fun t q => XS.dup X.here hx rfl (hb hby hd) rfl hc q) K
theorem g_dup_x1 (X : Stand p l e R s m args below meth c T locs k n) (hx : p.tables.exec = Jvm.exec) (hby : c.code = code) {x y : Value} {rest : List Value} (hd : decode code pc = .ok (.dup_x1, 1)) (hc : x.category = 1) (hc2 : y.category = 1) (K : Go p e below G (T.setTop (mkF m (pc + 1) Ls (x :: y :: x :: rest)))) : Go p e below G (T.setTop (mkF m pc Ls (x :: y :: rest))) := Go.step (fun t q => XS.dupX1 X.here hx rfl (hb hby hd) rfl hc hc2 q) K
theorem g_pop (X : Stand p l e R s m args below meth c T locs k n) (hx : p.tables.exec = Jvm.exec) (hby : c.code = code) {x : Value} {rest : List Value} (hd : decode code pc = .ok (.pop, 1)) (hc : x.category = 1) (K : Go p e below G (T.setTop (mkF m (pc + 1) Ls rest))) : Go p e below G (T.setTop (mkF m pc Ls (x :: rest))) := Go.step (fun t q => XS.pop X.here hx rfl (hb hby hd) rfl hc q) K
theorem g_dup2 (X : Stand p l e R s m args below meth c T locs k n) (hx : p.tables.exec = Jvm.exec) (hby : c.code = code) {x y : Value} {rest : List Value} (hd : decode code pc = .ok (.dup2, 1)) (hc : x.category = 1) (hc2 : y.category = 1) (K : Go p e below G (T.setTop (mkF m (pc + 1) Ls (x :: y :: x :: y :: rest)))) : Go p e below G (T.setTop (mkF m pc Ls (x :: y :: rest))) := Go.step (fun t q => XT.dup2 X.here hx rfl (hb hby hd) rfl hc hc2 q) K
theorem g_dup2L (X : Stand p l e R s m args below meth c T locs k n) (hx : p.tables.exec = Jvm.exec) (hby : c.code = code) {x : Int64} {rest : List Value} (hd : decode code pc = .ok (.dup2, 1)) (K : Go p e below G (T.setTop (mkF m (pc + 1) Ls (.long x :: .long x :: rest)))) : Go p e below G (T.setTop (mkF m pc Ls (.long x :: rest))) := Go.step (fun t q => XT.dup2L X.here hx rfl (hb hby hd) rfl q) K
theorem g_pop2J (X : Stand p l e R s m args below meth c T locs k n) (hx : p.tables.exec = Jvm.exec) (hby : c.code = code) {x : Int64} {rest : List Value} (hd : decode code pc = .ok (.pop2, 1)) (K : Go p e below G (T.setTop (mkF m (pc + 1) Ls rest))) : Go p e below G (T.setTop (mkF m pc Ls (.long x :: rest))) := Go.step (fun t q => by
  have hd' := hb hby hd
  show Steps p.tables e below (T.setTop { method := m, pc := pc, locals := Ls, stack := .long x :: rest, locked := none }) t
  jvm_step X.here [X.here.top, hx, hd', Value.category]
  exact q) K
theorem g_goto (X : Stand p l e R s m args below meth c T locs k n) (hx : p.tables.exec = Jvm.exec) (hby : c.code = code) {d : Int} (pc' : Nat) (hd : decode code pc = .ok (.goto d, 3)) (ho : 0 ≤ (pc : Int) + d) (hp : ((pc : Int) + d).toNat = pc') (K : Go p e below G (T.setTop (mkF m pc' Ls st))) : Go p e below G (T.setTop (mkF m pc Ls st)) := Go.step (fun t q => XS.goto X.here hx rfl (pc0 := pc) (pc' := pc') rfl (hb hby hd) ho hp q) K
theorem g_ifY (X : Stand p l e R s m args below meth c T locs k n) (hx : p.tables.exec = Jvm.exec) (hby : c.code = code) {cd : ClassFile.Cond} {x : Int32} {rest : List Value} {d : Int} (pc' : Nat) (hd : decode code pc = .ok (.ifCond cd d, 3)) (hc : if_icmp.holds cd x 0 = true) (ho : 0 ≤ (pc : Int) + d) (hp : ((pc : Int) + d).toNat = pc') (K : Go p e below G (T.setTop (mkF m pc' Ls rest))) : Go p e below G (T.setTop (mkF m pc Ls (.int x :: rest))) := Go.step (fun t q => XS.ifYes X.here hx rfl (pc0 := pc) (pc' := pc') rfl (hb hby hd) rfl ((if0 _ _).trans hc) ho hp q) K
theorem g_ifN (X : Stand p l e R s m args below meth c T locs k n) (hx : p.tables.exec = Jvm.exec) (hby : c.code = code) {cd : ClassFile.Cond} {x : Int32} {rest : List Value} {d : Int} (hd : decode code pc = .ok (.ifCond cd d, 3)) (hc : if_icmp.holds cd x 0 = false) (K : Go p e below G (T.setTop (mkF m (pc + 3) Ls rest))) : Go p e below G (T.setTop (mkF m pc Ls (.int x :: rest))) := Go.step (fun t q => XS.ifNo X.here hx rfl (hb hby hd) rfl ((if0 _ _).trans hc) q) K
theorem g_icY (X : Stand p l e R s m args below meth c T locs k n) (hx : p.tables.exec = Jvm.exec) (hby : c.code = code) {cd : ClassFile.Cond} {x y : Int32} {rest : List Value} {d : Int} (pc' : Nat) (hd : decode code pc = .ok (.if_icmp cd d, 3)) (hc : if_icmp.holds cd x y = true) (ho : 0 ≤ (pc : Int) + d) (hp : ((pc : Int) + d).toNat = pc') (K : Go p e below G (T.setTop (mkF m pc' Ls rest))) : Go p e below G (T.setTop (mkF m pc Ls (.int y :: .int x :: rest))) := Go.step (fun t q => XS.icmpYes X.here hx rfl (pc0 := pc) (pc' := pc') rfl (hb hby hd) rfl hc ho hp q) K
theorem g_icN (X : Stand p l e R s m args below meth c T locs k n) (hx : p.tables.exec = Jvm.exec) (hby : c.code = code) {cd : ClassFile.Cond} {x y : Int32} {rest : List Value} {d : Int} (hd : decode code pc = .ok (.if_icmp cd d, 3)) (hc : if_icmp.holds cd x y = false) (K : Go p e below G (T.setTop (mkF m (pc + 3) Ls rest))) : Go p e below G (T.setTop (mkF m pc Ls (.int y :: .int x :: rest))) := Go.step (fun t q => XS.icmpNo X.here hx rfl (hb hby hd) rfl hc q) K
theorem g_acmp (X : Stand p l e R s m args below meth c T locs k n) (hx : p.tables.exec = Jvm.exec) (hby : c.code = code) {cd : ACond} {x y : Value} (h1 : x.isRef = true) (h2 : y.isRef = true) {rest : List Value} {d : Int} (pc' : Nat) (same : Bool) (hd : decode code pc = .ok (.if_acmp cd d, 3)) (hq : decide (x = y) = same) (ho : 0 ≤ (pc : Int) + d) (hp : pc' = if acV cd same = true then ((pc : Int) + d).toNat else pc + 3) (K : Go p e below G (T.setTop (mkF m pc' Ls rest))) : Go p e below G (T.setTop (mkF m pc Ls (y :: x :: rest))) := Go.step (fun t q => Jvm.RoadKit.acmp (g := mkF m pc Ls (y :: x :: rest)) X hx rfl h1 h2 (pc0 := pc) (pc' := pc') (same := same) rfl (hb hby hd) rfl hq ho hp q) K
theorem g_ifnullY (X : Stand p l e R s m args below meth c T locs k n) (hx : p.tables.exec = Jvm.exec) (hby : c.code = code) {rest : List Value} {d : Int} (pc' : Nat) (hd : decode code pc = .ok (.ifnull d, 3)) (ho : 0 ≤ (pc : Int) + d) (hp : ((pc : Int) + d).toNat = pc') (K : Go p e below G (T.setTop (mkF m pc' Ls rest))) : Go p e below G (T.setTop (mkF m pc Ls (.null :: rest))) := Go.step (fun t q => XS.ifnullYes X.here hx rfl (pc0 := pc) (pc' := pc') rfl (hb hby hd) rfl ho hp q) K
theorem g_ifnullN (X : Stand p l e R s m args below meth c T locs k n) (hx : p.tables.exec = Jvm.exec) (hby : c.code = code) {b : Addr} {rest : List Value} {d : Int} (hd : decode code pc = .ok (.ifnull d, 3)) (K : Go p e below G (T.setTop (mkF m (pc + 3) Ls rest))) : Go p e below G (T.setTop (mkF m pc Ls (.ref b :: rest))) := Go.step (fun t q => XS.ifnullNo X.here hx rfl (hb hby hd) rfl q) K
theorem g_ifnonnullY (X : Stand p l e R s m args below meth c T locs k n) (hx : p.tables.exec = Jvm.exec) (hby : c.code = code) {b : Addr} {rest : List Value} {d : Int} (pc' : Nat) (hd : decode code pc = .ok (.ifnonnull d, 3)) (ho : 0 ≤ (pc : Int) + d) (hp : ((pc : Int) + d).toNat = pc') (K : Go p e below G (T.setTop (mkF m pc' Ls rest))) : Go p e below G (T.setTop (mkF m pc Ls (.ref b :: rest))) := Go.step (fun t q => XS.ifnonnullYes X.here hx rfl (pc0 := pc) (pc' := pc') rfl (hb hby hd) rfl ho hp q) K
theorem g_ifnonnullN (X : Stand p l e R s m args below meth c T locs k n) (hx : p.tables.exec = Jvm.exec) (hby : c.code = code) {rest : List Value} {d : Int} (hd : decode code pc = .ok (.ifnonnull d, 3)) (K : Go p e below G (T.setTop (mkF m (pc + 3) Ls rest))) : Go p e below G (T.setTop (mkF m pc Ls (.null :: rest))) := Go.step (fun t q => XS.ifnonnullNo X.here hx rfl (hb hby hd) rfl q) K
theorem g_ldcI (X : Stand p l e R s m args below meth c T locs k n) (hx : p.tables.exec = Jvm.exec) (hby : c.code = code) (hZ : Z.Warmed39 s.vm) {own : String} (hown : s.vm.findClass own = some m.cls) {index : Nat} {v : Int32} (w : (Cond.constant own index v).before a0 Z = true) (hd : decode code pc = .ok (.ldc index, 2)) (K : Go p e below G (T.setTop (mkF m (pc + 2) Ls (.int v :: st)))) : Go p e below G (T.setTop (mkF m pc Ls st)) := Go.step (fun t q => X.ldcInt hx hown (mvT hZ w) (g := mkF m pc Ls st) rfl (hb hby hd) t q) K
theorem g_ldcwI (X : Stand p l e R s m args below meth c T locs k n) (hx : p.tables.exec = Jvm.exec) (hby : c.code = code) (hZ : Z.Warmed39 s.vm) {own : String} (hown : s.vm.findClass own = some m.cls) {index : Nat} {v : Int32} (w : (Cond.constant own index v).before a0 Z = true) (hd : decode code pc = .ok (.ldc_w index, 3)) (K : Go p e below G (T.setTop (mkF m (pc + 3) Ls (.int v :: st)))) : Go p e below G (T.setTop (mkF m pc Ls st)) := Go.step (fun t q => X.ldcwInt hx hown (mvT hZ w) (g := mkF m pc Ls st) rfl (hb hby hd) t q) K
theorem g_ldc2J (X : Stand p l e R s m args below meth c T locs k n) (hx : p.tables.exec = Jvm.exec) (hby : c.code = code) (hZ : Z.Warmed39 s.vm) {own : String} (hown : s.vm.findClass own = some m.cls) {index : Nat} {v : Int64} (w : (Cond.constantLong own index v).before a0 Z = true) (hd : decode code pc = .ok (.ldc2_w index, 3)) (K : Go p e below G (T.setTop (mkF m (pc + 3) Ls (.long v :: st)))) : Go p e below G (T.setTop (mkF m pc Ls st)) := Go.step (fun t q => X.ldc2Long hx hown (mvT hZ w) (g := mkF m pc Ls st) rfl (hb hby hd) t q) K
theorem g_getF (X : Stand p l e R s m args below meth c T locs k n) (hx : p.tables.exec = Jvm.exec) (hby : c.code = code) (hZ : Z.Warmed39 s.vm) {own : String} (hown : s.vm.findClass own = some m.cls) {R0 O f d host : String} {index : Nat} (w : (Cond.fieldLink own index R0 f d).before a0 Z = true ∨ (Cond.fieldLinkNest own index R0 f d host).before a0 Z = true) (via : Via Z R0 O f d) (eT : T.heap = h) {a : Addr} {v : Value} (F : Fld Z h a O f d v) {rest : List Value} (hd : decode code pc = .ok (.getfield index, 3)) (K : ∀ T', Stand p l e R s m args below meth c T' locs k n → T'.heap = h → Go p e below G (T'.setTop (mkF m (pc + 3) Ls (v :: rest)))) : Go p e below G (T.setTop (mkF m pc Ls (.ref a :: rest))) := by
  obtain ⟨T', X', e', q⟩ := getF X hx hZ hown w via eT F (g := mkF m pc Ls (.ref a :: rest)) rfl rfl (hb hby hd)
  exact Go.step q (K T' X' e')
theorem g_getS (X : Stand p l e R s m args below meth c T locs k n) (hx : p.tables.exec = Jvm.exec) (hby : c.code = code) (hZ : Z.Warmed39 s.vm) {own : String} (hown : s.vm.findClass own = some m.cls) {R0 O f d host : String} {index : Nat} (w : (Cond.fieldLink own index R0 f d).before a0 Z = true ∨ (Cond.fieldLinkNest own index R0 f d host).before a0 Z = true) (via : Via Z R0 O f d) (eT : T.heap = h) {v : Value} (F : Sta Z h O f d v) (hd : decode code pc = .ok (.getstatic index, 3)) (K : ∀ T', Stand p l e R s m args below meth c T' locs k n → T'.heap = h → Go p e below G (T'.setTop (mkF m (pc + 3) Ls (v :: st)))) : Go p e below G (T.setTop (mkF m pc Ls st)) := by
  obtain ⟨T', X', e', q⟩ := getS2 X hx hZ hown w via eT F (g := mkF m pc Ls st) rfl (hb hby hd)
  exact Go.step q (K T' X' e')
theorem g_putF (X : Stand p l e R s m args below meth c T locs k n) (hx : p.tables.exec = Jvm.exec) (hby : c.code = code) (hZ : Z.Warmed39 s.vm) {own : String} (hown : s.vm.findClass own = some m.cls) {R0 O f d host : String} {index : Nat} (w : (Cond.fieldLink own index R0 f d).before a0 Z = true ∨ (Cond.fieldLinkNest own index R0 f d host).before a0 Z = true) (via : Via Z R0 O f d) (eT : T.heap = h) {C : String} {kk : Nat} {a : Addr} {v old : Value} (F : Fld Z h a O f d old) (E : Exa Z h a C) (L : (Cond.lays C O f d).before a0 Z = true ∨ ((Cond.laysFinal C O f d).before a0 Z = true ∧ own = O ∧ meth.name = "<init>")) (wi : (Cond.instantiable C kk).before a0 Z = true) (ty : FieldType) (hty : parseFieldDescriptor d = some ty) (hn : narrow ty v = v) (hf : fits ty v = true) (N : Fr n0 locs) (ga : n0 ≤ a) {rest : List Value} (hd : decode code pc = .ok (.putfield index, 3)) (K : ∀ T' h', Stand p l e R s m args below meth c T' (locs ++ [⟨a, Jvm.RoadKit.slotOf Z O f d⟩]) k n → T'.heap = h' → Wr h h' a (Jvm.RoadKit.slotOf Z O f d) v → Fld Z h' a O f d v → Fr n0 (locs ++ [⟨a, Jvm.RoadKit.slotOf Z O f d⟩]) → Go p e below G (T'.setTop (mkF m (pc + 3) Ls rest))) : Go p e below G (T.setTop (mkF m pc Ls (v :: .ref a :: rest))) := by
  obtain ⟨T', h', X', e', W, q⟩ := putF X hx hZ hown w via eT F E L wi hty hn hf (g := mkF m pc Ls (v :: .ref a :: rest)) rfl rfl (hb hby hd)
  exact Go.step q (K T' h' X' e' W (F.same W) (Fr.snoc X' N ga))
theorem g_putFN (X : Stand p l e R s m args below meth c T locs k n) (hx : p.tables.exec = Jvm.exec) (hby : c.code = code) (hZ : Z.Warmed39 s.vm) {own : String} (hown : s.vm.findClass own = some m.cls) {R0 O f d : String} {index : Nat} (w : (Cond.fieldLink own index R0 f d).before a0 Z = true) (via : Via Z R0 O f d) (eT : T.heap = h) {C : String} {kk : Nat} {a : Addr} {v old : Value} (F : Fld Z h a O f d old) (E : Exa Z h a C) (L : (Cond.lays C O f d).before a0 Z = true ∨ ((Cond.laysFinal C O f d).before a0 Z = true ∧ own = O ∧ meth.name = "<init>")) (wi : (Cond.instantiable C kk).before a0 Z = true) (ty : FieldType) (hty : parseFieldDescriptor d = some ty) (v' : Value) (hn : narrow ty v = v') (hf : fits ty v' = true) (N : Fr n0 locs) (ga : n0 ≤ a) {rest : List Value} (hd : decode code pc = .ok (.putfield index, 3)) (K : ∀ T' h', Stand p l e R s m args below meth c T' (locs ++ [⟨a, Jvm.RoadKit.slotOf Z O f d⟩]) k n → T'.heap = h' → Wr h h' a (Jvm.RoadKit.slotOf Z O f d) v' → Fld Z h' a O f d v' → Fr n0 (locs ++ [⟨a, Jvm.RoadKit.slotOf Z O f d⟩]) → Go p e below G (T'.setTop (mkF m (pc + 3) Ls rest))) : Go p e below G (T.setTop (mkF m pc Ls (v :: .ref a :: rest))) := by
  obtain ⟨T', h', X', e', W, q⟩ := putFN X hx hZ hown w via eT F E L wi hty hn hf (g := mkF m pc Ls (v :: .ref a :: rest)) rfl rfl (hb hby hd)
  exact Go.step q (K T' h' X' e' W (F.same W) (Fr.snoc X' N ga))
theorem g_new (X : Stand p l e R s m args below meth c T locs k n) (hx : p.tables.exec = Jvm.exec) (hby : c.code = code) (hZ : Z.Warmed39 s.vm) {own : String} (hown : s.vm.findClass own = some m.cls) {C : String} {index j : Nat} (w : (Cond.classLink own index C).before a0 Z = true) (wi : (Cond.instantiable C j).before a0 Z = true) (wz : (Cond.initialized C).before a0 Z = true) (eT : T.heap = h) (hc : k + 1 ≤ R.cells) (hl : n + j ≤ R.slots) (hd : decode code pc = .ok (.new index, 3)) (K : ∀ T' h' x, h.size = x → Stand p l e R s m args below meth c T' locs (k + 1) (n + j) → T'.heap = h' → Ext h h' → Exa Z h' x C → (∀ {O nm d : String} {ty : FieldType}, Laid Z a0 C O nm d → parseFieldDescriptor d = some ty → Fld Z h' x O nm d (defaultValue ty)) → Go p e below G (T'.setTop (mkF m (pc + 3) Ls (.ref x :: st)))) : Go p e below G (T.setTop (mkF m pc Ls st)) := by
  obtain ⟨T', h', X', e', E, A, D, -, q⟩ := newO X hx hZ hown w wi wz eT (g := mkF m pc Ls st) rfl (hb hby hd) hc hl
  exact Go.step q (K T' h' _ rfl X' e' E A D)
theorem g_newarray (X : Stand p l e R s m args below meth c T locs k n) (hx : p.tables.exec = Jvm.exec) (hby : c.code = code) (hZ : Z.Warmed39 s.vm) {aty : ArrayType} (w : (Cond.arrayClass (newarray.typeOf aty)).before a0 Z = true) (eT : T.heap = h) {z : Int32} {rest : List Value} (hn : ¬ z < 0) (cap : Nat) (hcap : z.toNatClampNeg ≤ cap) (hbig : cap * 8 ≤ 536870912) (hc : k + 1 ≤ R.cells) (hl : n + cap ≤ R.slots) (hd : decode code pc = .ok (.newarray aty, 2)) (K : ∀ T' h' kc x, h.size = x → Stand p l e R s m args below meth c T' locs (k + 1) (n + cap) → T'.heap = h' → Ext h h' → Arv Z h' x kc (newarray.typeOf aty) z (List.replicate cap (defaultValue (newarray.typeOf aty))) (defaultValue (newarray.typeOf aty)) → Go p e below G (T'.setTop (mkF m (pc + 2) Ls (.ref x :: rest)))) : Go p e below G (T.setTop (mkF m pc Ls (.int z :: rest))) := by
  obtain ⟨T', h', kc, X', e', E, A, q⟩ := newP X hx hZ w eT (g := mkF m pc Ls (.int z :: rest)) rfl (hb hby hd) rfl hn (cap := cap) hcap hbig hc hl
  exact Go.step q (K T' h' kc _ rfl X' e' E ((Arv.new A hn).pad (pad_rep [] _ cap)))
theorem g_iastore (X : Stand p l e R s m args below meth c T locs k n) (hx : p.tables.exec = Jvm.exec) (hby : c.code = code) (hZ : Z.Warmed39 s.vm) (eT : T.heap = h) {a : Addr} {kc : ClassId} {z : Int32} {vs : List Value} {dv : Value} (V : Arv Z h a kc .int z vs dv) {j : Int32} {x : Int32} (i : Nat) (hj : ¬ j < 0 ∧ j < z) (hi : j.toNatClampNeg = i) (hlen : i < vs.length) (N : Fr n0 locs) (ga : n0 ≤ a) {rest : List Value} (hd : decode code pc = .ok (.iastore, 1)) (K : ∀ T' h', Stand p l e R s m args below meth c T' (locs ++ [⟨a, j.toNatClampNeg⟩]) k n → T'.heap = h' → Wr h h' a j.toNatClampNeg (.int x) → Arv Z h' a kc .int z (vs.set i (.int x)) dv → Fr n0 (locs ++ [⟨a, j.toNatClampNeg⟩]) → Go p e below G (T'.setTop (mkF m (pc + 1) Ls rest))) : Go p e below G (T.setTop (mkF m pc Ls (.int x :: .int j :: .ref a :: rest))) := by
  obtain ⟨cl, Ar, q1, S, M, H, F⟩ := V
  obtain ⟨T', h', X', e', W, q⟩ := stI X hx hZ eT Ar (j := j) (inb_of S hj) (g := mkF m pc Ls (.int x :: .int j :: .ref a :: rest)) rfl rfl (hb hby hd)
  exact Go.step q (K T' h' X' e' W (Arv.set Ar q1 S M H F rfl W i hi hlen) (Fr.snoc X' N ga))
theorem g_castore (X : Stand p l e R s m args below meth c T locs k n) (hx : p.tables.exec = Jvm.exec) (hby : c.code = code) (hZ : Z.Warmed39 s.vm) (eT : T.heap = h) {a : Addr} {kc : ClassId} {z : Int32} {vs : List Value} {dv : Value} (V : Arv Z h a kc .char z vs dv) {j : Int32} {x : Int32} (i : Nat) (hj : ¬ j < 0 ∧ j < z) (hi : j.toNatClampNeg = i) (hlen : i < vs.length) (N : Fr n0 locs) (ga : n0 ≤ a) {rest : List Value} (hd : decode code pc = .ok (.castore, 1)) (K : ∀ T' h', Stand p l e R s m args below meth c T' (locs ++ [⟨a, j.toNatClampNeg⟩]) k n → T'.heap = h' → Wr h h' a j.toNatClampNeg (.int (nar .char x)) → Arv Z h' a kc .char z (vs.set i (.int (nar .char x))) dv → Fr n0 (locs ++ [⟨a, j.toNatClampNeg⟩]) → Go p e below G (T'.setTop (mkF m (pc + 1) Ls rest))) : Go p e below G (T.setTop (mkF m pc Ls (.int x :: .int j :: .ref a :: rest))) := by
  obtain ⟨cl, Ar, q1, S, M, H, F⟩ := V
  obtain ⟨T', h', X', e', W, q⟩ := stC X hx hZ eT Ar (j := j) (inb_of S hj) (g := mkF m pc Ls (.int x :: .int j :: .ref a :: rest)) rfl rfl (hb hby hd)
  exact Go.step q (K T' h' X' e' W (Arv.set Ar q1 S M H F (fits_nar_char _) W i hi hlen) (Fr.snoc X' N ga))
theorem g_sastore (X : Stand p l e R s m args below meth c T locs k n) (hx : p.tables.exec = Jvm.exec) (hby : c.code = code) (hZ : Z.Warmed39 s.vm) (eT : T.heap = h) {a : Addr} {kc : ClassId} {z : Int32} {vs : List Value} {dv : Value} (V : Arv Z h a kc .short z vs dv) {j : Int32} {x : Int32} (i : Nat) (hj : ¬ j < 0 ∧ j < z) (hi : j.toNatClampNeg = i) (hlen : i < vs.length) (N : Fr n0 locs) (ga : n0 ≤ a) {rest : List Value} (hd : decode code pc = .ok (.sastore, 1)) (K : ∀ T' h', Stand p l e R s m args below meth c T' (locs ++ [⟨a, j.toNatClampNeg⟩]) k n → T'.heap = h' → Wr h h' a j.toNatClampNeg (.int (nar .short x)) → Arv Z h' a kc .short z (vs.set i (.int (nar .short x))) dv → Fr n0 (locs ++ [⟨a, j.toNatClampNeg⟩]) → Go p e below G (T'.setTop (mkF m (pc + 1) Ls rest))) : Go p e below G (T.setTop (mkF m pc Ls (.int x :: .int j :: .ref a :: rest))) := by
  obtain ⟨cl, Ar, q1, S, M, H, F⟩ := V
  obtain ⟨T', h', X', e', W, q⟩ := stS X hx hZ eT Ar (j := j) (inb_of S hj) (g := mkF m pc Ls (.int x :: .int j :: .ref a :: rest)) rfl rfl (hb hby hd)
  exact Go.step q (K T' h' X' e' W (Arv.set Ar q1 S M H F (fits_nar_short _) W i hi hlen) (Fr.snoc X' N ga))
theorem g_bastore (X : Stand p l e R s m args below meth c T locs k n) (hx : p.tables.exec = Jvm.exec) (hby : c.code = code) (hZ : Z.Warmed39 s.vm) (eT : T.heap = h) {a : Addr} {kc : ClassId} {z : Int32} {vs : List Value} {dv : Value} (V : Arv Z h a kc .byte z vs dv) {j : Int32} {x : Int32} (i : Nat) (hj : ¬ j < 0 ∧ j < z) (hi : j.toNatClampNeg = i) (hlen : i < vs.length) (N : Fr n0 locs) (ga : n0 ≤ a) {rest : List Value} (hd : decode code pc = .ok (.bastore, 1)) (K : ∀ T' h', Stand p l e R s m args below meth c T' (locs ++ [⟨a, j.toNatClampNeg⟩]) k n → T'.heap = h' → Wr h h' a j.toNatClampNeg (.int (nar .byte x)) → Arv Z h' a kc .byte z (vs.set i (.int (nar .byte x))) dv → Fr n0 (locs ++ [⟨a, j.toNatClampNeg⟩]) → Go p e below G (T'.setTop (mkF m (pc + 1) Ls rest))) : Go p e below G (T.setTop (mkF m pc Ls (.int x :: .int j :: .ref a :: rest))) := by
  obtain ⟨cl, Ar, q1, S, M, H, F⟩ := V
  obtain ⟨T', h', X', e', W, q⟩ := stB X hx hZ eT Ar (j := j) (inb_of S hj) (g := mkF m pc Ls (.int x :: .int j :: .ref a :: rest)) rfl rfl (hb hby hd)
  exact Go.step q (K T' h' X' e' W (Arv.set Ar q1 S M H F (fits_nar_byte _) W i hi hlen) (Fr.snoc X' N ga))
theorem g_lastore (X : Stand p l e R s m args below meth c T locs k n) (hx : p.tables.exec = Jvm.exec) (hby : c.code = code) (hZ : Z.Warmed39 s.vm) (eT : T.heap = h) {a : Addr} {kc : ClassId} {z : Int32} {vs : List Value} {dv : Value} (V : Arv Z h a kc .long z vs dv) {j : Int32} {x : Int64} (i : Nat) (hj : ¬ j < 0 ∧ j < z) (hi : j.toNatClampNeg = i) (hlen : i < vs.length) (N : Fr n0 locs) (ga : n0 ≤ a) {rest : List Value} (hd : decode code pc = .ok (.lastore, 1)) (K : ∀ T' h', Stand p l e R s m args below meth c T' (locs ++ [⟨a, j.toNatClampNeg⟩]) k n → T'.heap = h' → Wr h h' a j.toNatClampNeg (.long x) → Arv Z h' a kc .long z (vs.set i (.long x)) dv → Fr n0 (locs ++ [⟨a, j.toNatClampNeg⟩]) → Go p e below G (T'.setTop (mkF m (pc + 1) Ls rest))) : Go p e below G (T.setTop (mkF m pc Ls (.long x :: .int j :: .ref a :: rest))) := by
  obtain ⟨cl, Ar, q1, S, M, H, F⟩ := V
  obtain ⟨T', h', X', e', W, q⟩ := stJ X hx hZ eT Ar (j := j) (inb_of S hj) (g := mkF m pc Ls (.long x :: .int j :: .ref a :: rest)) rfl rfl (hb hby hd)
  exact Go.step q (K T' h' X' e' W (Arv.set Ar q1 S M H F rfl W i hi hlen) (Fr.snoc X' N ga))
theorem g_iaload (X : Stand p l e R s m args below meth c T locs k n) (hx : p.tables.exec = Jvm.exec) (hby : c.code = code) (hZ : Z.Warmed39 s.vm) (eT : T.heap = h) {a : Addr} {kc : ClassId} {z : Int32} {vs : List Value} {dv : Value} (V : Arv Z h a kc .int z vs dv) {j : Int32} (v : Value) (hj : ¬ j < 0 ∧ j < z) (hv : vs.getD j.toNatClampNeg dv = v) {rest : List Value} (hd : decode code pc = .ok (.iaload, 1)) (K : Go p e below G (T.setTop (mkF m (pc + 1) Ls (v :: rest)))) : Go p e below G (T.setTop (mkF m pc Ls (.int j :: .ref a :: rest))) := by
  obtain ⟨cl, Ar, q1, S, M, H, F⟩ := V
  have hin := inb_of S hj
  exact Go.step (fun t q => X.iaload hx (j := j) (v := v) (by rw [eT]; exact Ar.1) (State.isArrayOf_alike hZ.alike Ar.2.1) Ar.2.2 hin (H.at hin hv) (g := mkF m pc Ls (.int j :: .ref a :: rest)) rfl rfl (hb hby hd) t q) K
theorem g_caload (X : Stand p l e R s m args below meth c T locs k n) (hx : p.tables.exec = Jvm.exec) (hby : c.code = code) (hZ : Z.Warmed39 s.vm) (eT : T.heap = h) {a : Addr} {kc : ClassId} {z : Int32} {vs : List Value} {dv : Value} (V : Arv Z h a kc .char z vs dv) {j : Int32} (v : Value) (hj : ¬ j < 0 ∧ j < z) (hv : vs.getD j.toNatClampNeg dv = v) {rest : List Value} (hd : decode code pc = .ok (.caload, 1)) (K : Go p e below G (T.setTop (mkF m (pc + 1) Ls (v :: rest)))) : Go p e below G (T.setTop (mkF m pc Ls (.int j :: .ref a :: rest))) := by
  obtain ⟨cl, Ar, q1, S, M, H, F⟩ := V
  have hin := inb_of S hj
  exact Go.step (fun t q => X.caload hx (j := j) (v := v) (by rw [eT]; exact Ar.1) (State.isArrayOf_alike hZ.alike Ar.2.1) Ar.2.2 hin (H.at hin hv) (g := mkF m pc Ls (.int j :: .ref a :: rest)) rfl rfl (hb hby hd) t q) K
theorem g_saload (X : Stand p l e R s m args below meth c T locs k n) (hx : p.tables.exec = Jvm.exec) (hby : c.code = code) (hZ : Z.Warmed39 s.vm) (eT : T.heap = h) {a : Addr} {kc : ClassId} {z : Int32} {vs : List Value} {dv : Value} (V : Arv Z h a kc .short z vs dv) {j : Int32} (v : Value) (hj : ¬ j < 0 ∧ j < z) (hv : vs.getD j.toNatClampNeg dv = v) {rest : List Value} (hd : decode code pc = .ok (.saload, 1)) (K : Go p e below G (T.setTop (mkF m (pc + 1) Ls (v :: rest)))) : Go p e below G (T.setTop (mkF m pc Ls (.int j :: .ref a :: rest))) := by
  obtain ⟨cl, Ar, q1, S, M, H, F⟩ := V
  have hin := inb_of S hj
  exact Go.step (fun t q => X.saload hx (j := j) (v := v) (by rw [eT]; exact Ar.1) (State.isArrayOf_alike hZ.alike Ar.2.1) Ar.2.2 hin (H.at hin hv) (g := mkF m pc Ls (.int j :: .ref a :: rest)) rfl rfl (hb hby hd) t q) K
theorem g_baload (X : Stand p l e R s m args below meth c T locs k n) (hx : p.tables.exec = Jvm.exec) (hby : c.code = code) (hZ : Z.Warmed39 s.vm) (eT : T.heap = h) {a : Addr} {kc : ClassId} {z : Int32} {vs : List Value} {dv : Value} (V : Arv Z h a kc .byte z vs dv) {j : Int32} (v : Value) (hj : ¬ j < 0 ∧ j < z) (hv : vs.getD j.toNatClampNeg dv = v) {rest : List Value} (hd : decode code pc = .ok (.baload, 1)) (K : Go p e below G (T.setTop (mkF m (pc + 1) Ls (v :: rest)))) : Go p e below G (T.setTop (mkF m pc Ls (.int j :: .ref a :: rest))) := by
  obtain ⟨cl, Ar, q1, S, M, H, F⟩ := V
  have hin := inb_of S hj
  exact Go.step (fun t q => X.baloadBytes hx (j := j) (v := v) (by rw [eT]; exact Ar.1) (State.isArrayOf_alike hZ.alike Ar.2.1) Ar.2.2 hin (H.at hin hv) (g := mkF m pc Ls (.int j :: .ref a :: rest)) rfl rfl (hb hby hd) t q) K
theorem g_laload (X : Stand p l e R s m args below meth c T locs k n) (hx : p.tables.exec = Jvm.exec) (hby : c.code = code) (hZ : Z.Warmed39 s.vm) (eT : T.heap = h) {a : Addr} {kc : ClassId} {z : Int32} {vs : List Value} {dv : Value} (V : Arv Z h a kc .long z vs dv) {j : Int32} (v : Value) (hj : ¬ j < 0 ∧ j < z) (hv : vs.getD j.toNatClampNeg dv = v) {rest : List Value} (hd : decode code pc = .ok (.laload, 1)) (K : Go p e below G (T.setTop (mkF m (pc + 1) Ls (v :: rest)))) : Go p e below G (T.setTop (mkF m pc Ls (.int j :: .ref a :: rest))) := by
  obtain ⟨cl, Ar, q1, S, M, H, F⟩ := V
  have hin := inb_of S hj
  exact Go.step (fun t q => X.laload hx (j := j) (v := v) (by rw [eT]; exact Ar.1) (State.isArrayOf_alike hZ.alike Ar.2.1) Ar.2.2 hin (H.at hin hv) (g := mkF m pc Ls (.int j :: .ref a :: rest)) rfl rfl (hb hby hd) t q) K
theorem g_aaload (X : Stand p l e R s m args below meth c T locs k n) (hx : p.tables.exec = Jvm.exec) (hby : c.code = code) (hZ : Z.Warmed39 s.vm) (eT : T.heap = h) {a : Addr} {kc : ClassId} {ty : FieldType} {z : Int32} {vs : List Value} {dv : Value} (V : Arv Z h a kc ty z vs dv) (hty : ty.isReference = true) {j : Int32} (v : Value) (hj : ¬ j < 0 ∧ j < z) (hv : vs.getD j.toNatClampNeg dv = v) {rest : List Value} (hd : decode code pc = .ok (.aaload, 1)) (K : Go p e below G (T.setTop (mkF m (pc + 1) Ls (v :: rest)))) : Go p e below G (T.setTop (mkF m pc Ls (.int j :: .ref a :: rest))) := by
  obtain ⟨cl, Ar, q1, S, M, H, F⟩ := V
  have hin := inb_of S hj
  exact Go.step (fun t q => X.aaload hx (j := j) (v := v) (by rw [eT]; exact Ar.1) (State.isArrayOf_alike hZ.alike Ar.2.1) hty Ar.2.2 hin (H.at hin hv) (g := mkF m pc Ls (.int j :: .ref a :: rest)) rfl rfl (hb hby hd) t q) K
theorem g_arraylength (X : Stand p l e R s m args below meth c T locs k n) (hx : p.tables.exec = Jvm.exec) (hby : c.code = code) (hZ : Z.Warmed39 s.vm) (eT : T.heap = h) {a : Addr} {kc : ClassId} {ty : FieldType} {z : Int32} {vs : List Value} {dv : Value} (V : Arv Z h a kc ty z vs dv) {rest : List Value} (hd : decode code pc = .ok (.arraylength, 1)) (K : Go p e below G (T.setTop (mkF m (pc + 1) Ls (.int z :: rest)))) : Go p e below G (T.setTop (mkF m pc Ls (.ref a :: rest))) := by
  obtain ⟨cl, Ar, q1, S, M, H, F⟩ := V
  refine Go.step (fun t q => X.arraylength hx (by rw [eT]; exact Ar.1) (State.isArrayOf_alike hZ.alike Ar.2.1) (g := mkF m pc Ls (.ref a :: rest)) rfl rfl (hb hby hd) t q) ?_
  rw [len_of S M]
  exact K
theorem g_checkcast (X : Stand p l e R s m args below meth c T locs k n) (hx : p.tables.exec = Jvm.exec) (hby : c.code = code) (hZ : Z.Warmed39 s.vm) {own : String} (hown : s.vm.findClass own = some m.cls) {C : String} {index : Nat} (w : (Cond.classLink own index C).before a0 Z = true) (eT : T.heap = h) {a : Addr} (I : Ins Z h a C true) {rest : List Value} (hd : decode code pc = .ok (.checkcast index, 3)) (K : ∀ T', Stand p l e R s m args below meth c T' locs k n → T'.heap = h → Go p e below G (T'.setTop (mkF m (pc + 3) Ls (.ref a :: rest)))) : Go p e below G (T.setTop (mkF m pc Ls (.ref a :: rest))) := by
  obtain ⟨T', X', e', q⟩ := castY X hx hZ hown w eT I (g := mkF m pc Ls (.ref a :: rest)) rfl rfl (hb hby hd)
  exact Go.step q (K T' X' e')
theorem g_instanceof (X : Stand p l e R s m args below meth c T locs k n) (hx : p.tables.exec = Jvm.exec) (hby : c.code = code) (hZ : Z.Warmed39 s.vm) {own : String} (hown : s.vm.findClass own = some m.cls) {C : String} {index : Nat} (w : (Cond.classLink own index C).before a0 Z = true) (eT : T.heap = h) {a : Addr} (I : Ins Z h a C true) {rest : List Value} (hd : decode code pc = .ok (.instanceof index, 3)) (K : ∀ T', Stand p l e R s m args below meth c T' locs k n → T'.heap = h → Go p e below G (T'.setTop (mkF m (pc + 3) Ls (.int 1 :: rest)))) : Go p e below G (T.setTop (mkF m pc Ls (.ref a :: rest))) := by
  obtain ⟨T', X', e', q⟩ := instY X hx hZ hown w eT I (g := mkF m pc Ls (.ref a :: rest)) rfl rfl (hb hby hd)
  exact Go.step q (K T' X' e')
theorem g_instNo (X : Stand p l e R s m args below meth c T locs k n) (hx : p.tables.exec = Jvm.exec) (hby : c.code = code) (hZ : Z.Warmed39 s.vm) {own : String} (hown : s.vm.findClass own = some m.cls) {C K : String} {index : Nat} (w : (Cond.classLink own index K).before a0 Z = true) (eT : T.heap = h) {a : Addr} (E : Exa Z h a C) (F : ∃ c t, Z.vm.findClass C = some c ∧ Z.vm.findClass K = some t ∧ Z.vm.assignable c t = false) {rest : List Value} (hd : decode code pc = .ok (.instanceof index, 3)) (K' : ∀ T', Stand p l e R s m args below meth c T' locs k n → T'.heap = h → Go p e below G (T'.setTop (mkF m (pc + 3) Ls (.int 0 :: rest)))) : Go p e below G (T.setTop (mkF m pc Ls (.ref a :: rest))) := by
  obtain ⟨T', X', e', q⟩ := instNo X hx hZ hown w eT E F (g := mkF m pc Ls (.ref a :: rest)) rfl rfl (hb hby hd)
  exact Go.step q (K' T' X' e')
theorem g_instanceofNull (X : Stand p l e R s m args below meth c T locs k n) (hx : p.tables.exec = Jvm.exec) (hby : c.code = code) {index : Nat} {rest : List Value} (hd : decode code pc = .ok (.instanceof index, 3)) (K : Go p e below G (T.setTop (mkF m (pc + 3) Ls (.int 0 :: rest)))) : Go p e below G (T.setTop (mkF m pc Ls (.null :: rest))) := Go.step (fun t q => X.instanceofNull hx (g := mkF m pc Ls (.null :: rest)) rfl rfl (hb hby hd) t q) K
theorem g_checkcastNull (X : Stand p l e R s m args below meth c T locs k n) (hx : p.tables.exec = Jvm.exec) (hby : c.code = code) {index : Nat} {rest : List Value} (hd : decode code pc = .ok (.checkcast index, 3)) (K : Go p e below G (T.setTop (mkF m (pc + 3) Ls (.null :: rest)))) : Go p e below G (T.setTop (mkF m pc Ls (.null :: rest))) := Go.step (fun t q => X.checkcastNull hx (g := mkF m pc Ls (.null :: rest)) rfl rfl (hb hby hd) t q) K
theorem g_initO (X : Stand p l e R s m args below meth c T locs k n) (hx : p.tables.exec = Jvm.exec) (hby : c.code = code) (hZ : Z.Warmed39 s.vm) {own : String} (hown : s.vm.findClass own = some m.cls) {idx : Nat} (w1 : (Cond.methodLink own idx Lib.objectInit).before a0 Z = true) (w2 : (Cond.instanceMethod Lib.objectInit).before a0 Z = true) (w3 : (Cond.code Lib.objectInit ⟨#[0xb1]⟩ 1 none).before a0 Z = true) (eT : T.heap = h) (hsize : Ls.size = c.maxLocals) {a : Addr} {rest : List Value} (hf : 1 ≤ R.frames) (hl : (rest.map fun v => v.category).sum + 12 ≤ R.locals) (hd : decode code pc = .ok (.invokespecial idx, 3)) (K : ∀ T', Stand p l e R s m args below meth c T' locs k n → T'.heap = h → Go p e below G (T'.setTop (mkF m (pc + 3) Ls rest))) : Go p e below G (T.setTop (mkF m pc Ls (.ref a :: rest))) := by
  obtain ⟨T', X', e', q⟩ := initO X hx hZ hown w1 w2 w3 eT (g := mkF m pc Ls (.ref a :: rest)) rfl hsize rfl (hb hby hd) hf (W := (rest.map fun v => v.category).sum) (by show 2 * 0 + _ ≤ _; omega) hl
  exact Go.step q (K T' X' e')
theorem g_static (X : Stand p l e R s m args below meth c T locs k n) (hx : p.tables.exec = Jvm.exec) (hby : c.code = code) (hZ : Z.Warmed39 s.vm) {own : String} (hown : s.vm.findClass own = some m.cls) {index : Nat} {y : MethodName} {bytes : ByteArray} {maxL : Nat} {ret : Option FieldType} {rm : Room} {as' : Array Value} {Q : Option Value → Heap → List Loc → Prop} (hM : MetFree l y (head1 [Cond.code y bytes maxL ret] rm) (fun a U => a = as' ∧ Z.Warmed39 U.vm ∧ U.heap = h) (fun _ _ _ _ _ => True) (fun _ U o U' => RetG U Q rm.cells rm.slots U' o)) (wl : (Cond.methodLink own index y).before a0 Z = true) (ws : (Cond.static y).before a0 Z = true) (wz : (Cond.initialized y.cls).before a0 Z = true) (wc : (Cond.code y bytes maxL ret).before a0 Z = true) (hy : y.cls ≠ "java/lang/invoke/MethodHandle" ∧ y.cls ≠ "java/lang/invoke/VarHandle") (eT : T.heap = h) (hsize : Ls.size = c.maxLocals) (argsL : List Value) {rest : List Value} (hlen : ∀ sig, parseMethodDescriptor y.desc = some sig → argsL.length = sig.parameters.length) (has : argsL.toArray = as') (hst : st = argsL.reverse ++ rest) (hf : rm.frames + 1 ≤ R.frames) (hl : (rest.map fun v => v.category).sum + (maxL + 11) + rm.locals ≤ R.locals) (hc : k + rm.cells ≤ R.cells) (hs : n + rm.slots ≤ R.slots) (hd : decode code pc = .ok (.invokestatic index, 3)) (K : ∀ v T' L, Stand p l e R s m args below meth c T' (locs ++ L) (k + rm.cells) (n + rm.slots) → Q v T'.heap L → Go p e below G (T'.setTop (mkF m (pc + 3) Ls (v.toList ++ rest)))) : Go p e below G (T.setTop (mkF m pc Ls st)) := by
  obtain ⟨v, _, ⟨T', L', k', n'⟩, -, X', ⟨L, hq, l1, l2, l3⟩, q⟩ := Jvm.LawKit.callS X hx (y := y) hown (mvT hZ wl) (mvT hZ ws) (mvT hZ wz) (mvT hZ wc) hy (backOf (W := (rest.map fun v => v.category).sum) hM hZ wc wz hf hl) (g := mkF m pc Ls st) rfl hsize (argsL := argsL) (rest := rest) hlen hst (by show 2 * 0 + _ ≤ _; omega) (hb hby hd) (fun _ _ => ⟨has, eT, hc, hs⟩)
  dsimp only [Pt.U, Pt.locs, Pt.cells, Pt.slots] at X' l1 l2 l3 q hq
  subst l1 l2 l3
  exact Go.step q (K v T' L X' hq)
theorem g_special (X : Stand p l e R s m args below meth c T locs k n) (hx : p.tables.exec = Jvm.exec) (hby : c.code = code) (hZ : Z.Warmed39 s.vm) {own : String} (hown : s.vm.findClass own = some m.cls) {index : Nat} {y : MethodName} {bytes : ByteArray} {maxL : Nat} {ret : Option FieldType} {rm : Room} {as' : Array Value} {Q : Option Value → Heap → List Loc → Prop} (hM : MetFree l y (head1 [Cond.code y bytes maxL ret] rm) (fun a U => a = as' ∧ Z.Warmed39 U.vm ∧ U.heap = h) (fun _ _ _ _ _ => True) (fun _ U o U' => RetG U Q rm.cells rm.slots U' o)) (hy1 : y.name = "<init>") (hret : ret = none) (wl : (Cond.methodLink own index y).before a0 Z = true) (ws : (Cond.instanceMethod y).before a0 Z = true) (wz : (Cond.initialized y.cls).before a0 Z = true) (wc : (Cond.code y bytes maxL ret).before a0 Z = true) (hy : y.cls ≠ "java/lang/invoke/MethodHandle" ∧ y.cls ≠ "java/lang/invoke/VarHandle") (eT : T.heap = h) (hsize : Ls.size = c.maxLocals) {a : Addr} (argsL : List Value) {rest : List Value} (hlen : ∀ sig, parseMethodDescriptor y.desc = some sig → argsL.length = sig.parameters.length) (has : (.ref a :: argsL).toArray = as') (hst : st = argsL.reverse ++ .ref a :: rest) (hf : rm.frames + 1 ≤ R.frames) (hl : (rest.map fun v => v.category).sum + (maxL + 11) + rm.locals ≤ R.locals) (hc : k + rm.cells ≤ R.cells) (hs : n + rm.slots ≤ R.slots) (hd : decode code pc = .ok (.invokespecial index, 3)) (K : ∀ v T' L, Stand p l e R s m args below meth c T' (locs ++ L) (k + rm.cells) (n + rm.slots) → Q v T'.heap L → Go p e below G (T'.setTop (mkF m (pc + 3) Ls (v.toList ++ rest)))) : Go p e below G (T.setTop (mkF m pc Ls st)) := by
  subst hret
  obtain ⟨v, _, ⟨T', L', k', n'⟩, -, X', ⟨L, hq, l1, l2, l3⟩, q⟩ := X.specialBack hx (y := y) hy1 hown (mvT hZ wl) (mvT hZ ws) (mvT hZ wc) hy (backOf (W := (rest.map fun v => v.category).sum) hM hZ wc wz hf hl) (g := mkF m pc Ls st) rfl hsize (Steps.refl _) (a := a) (argsL := argsL) (rest := rest) hlen hst (by show 2 * 0 + _ ≤ _; omega) (hb hby hd) (fun _ _ => ⟨has, eT, hc, hs⟩)
  dsimp only [Pt.U, Pt.locs, Pt.cells, Pt.slots] at X' l1 l2 l3 q hq
  subst l1 l2 l3
  exact Go.step (fun t r => q.trans r) (K v T' L X' hq)
theorem g_virtual (X : Stand p l e R s m args below meth c T locs k n) (hx : p.tables.exec = Jvm.exec) (hby : c.code = code) (hZ : Z.Warmed39 s.vm) {own : String} (hown : s.vm.findClass own = some m.cls) {C : String} {index : Nat} {z : MethodName} {y : MethodName} {bytes : ByteArray} {maxL : Nat} {ret : Option FieldType} {rm : Room} {as' : Array Value} {Q : Option Value → Heap → List Loc → Prop} (hM : MetFree l y (head1 [Cond.code y bytes maxL ret] rm) (fun a U => a = as' ∧ Z.Warmed39 U.vm ∧ U.heap = h) (fun _ _ _ _ _ => True) (fun _ U o U' => RetG U Q rm.cells rm.slots U' o)) (wl : (Cond.methodLink own index z).before a0 Z = true) (wd : (Cond.declares z).before a0 Z = true) (hnf : NotFace s z) (wsel : (Cond.selects C z y).before a0 Z = true) (ws : (Cond.instanceMethod y).before a0 Z = true) (wz : (Cond.initialized y.cls).before a0 Z = true) (wc : (Cond.code y bytes maxL ret).before a0 Z = true) (hy : z.cls ≠ "java/lang/invoke/MethodHandle" ∧ z.cls ≠ "java/lang/invoke/VarHandle") (eT : T.heap = h) {a : Addr} (E : Exa Z h a C) (hsize : Ls.size = c.maxLocals) (argsL : List Value) {rest : List Value} (hlen : ∀ sig, parseMethodDescriptor z.desc = some sig → argsL.length = sig.parameters.length) (has : (.ref a :: argsL).toArray = as') (hst : st = argsL.reverse ++ .ref a :: rest) (hf : rm.frames + 1 ≤ R.frames) (hl : (rest.map fun v => v.category).sum + (maxL + 11) + rm.locals ≤ R.locals) (hc : k + rm.cells ≤ R.cells) (hs : n + rm.slots ≤ R.slots) (hd : decode code pc = .ok (.invokevirtual index, 3)) (K : ∀ v T' L, Stand p l e R s m args below meth c T' (locs ++ L) (k + rm.cells) (n + rm.slots) → Q v T'.heap L → Go p e below G (T'.setTop (mkF m (pc + 3) Ls (v.toList ++ rest)))) : Go p e below G (T.setTop (mkF m pc Ls st)) := by
  obtain ⟨cq, kq, qa, qb, qc⟩ := isOf hZ eT E
  obtain ⟨v, _, ⟨T', L', k', n'⟩, -, X', ⟨L, hq, l1, l2, l3⟩, q⟩ := X.virtualBack hx (y := z) (z := y) hown (mvT hZ wl) (mvT hZ wd) hnf (mvT hZ wsel) (mvT hZ ws) hy (backOf (W := (rest.map fun v => v.category).sum) hM hZ wc wz hf hl) qa qc (g := mkF m pc Ls st) rfl hsize (Steps.refl _) (argsL := argsL) (rest := rest) hlen hst (by show 2 * 0 + _ ≤ _; omega) (hb hby hd) (fun _ _ => ⟨has, eT, hc, hs⟩)
  dsimp only [Pt.U, Pt.locs, Pt.cells, Pt.slots] at X' l1 l2 l3 q hq
  subst l1 l2 l3
  exact Go.step (fun t r => q.trans r) (K v T' L X' hq)
theorem g_private (X : Stand p l e R s m args below meth c T locs k n) (hx : p.tables.exec = Jvm.exec) (hby : c.code = code) (hZ : Z.Warmed39 s.vm) {own : String} (hown : s.vm.findClass own = some m.cls) {index j : Nat} {y : MethodName} {bytes : ByteArray} {maxL : Nat} {ret : Option FieldType} {rm : Room} {as' : Array Value} {Q : Option Value → Heap → List Loc → Prop} (hM : MetFree l y (head1 [Cond.code y bytes maxL ret] rm) (fun a U => a = as' ∧ Z.Warmed39 U.vm ∧ U.heap = h) (fun _ _ _ _ _ => True) (fun _ U o U' => RetG U Q rm.cells rm.slots U' o)) (wl : (Cond.methodLink own index y).before a0 Z = true) (ws : (Cond.instanceMethod y).before a0 Z = true) (wi : (Cond.instantiable y.cls j).before a0 Z = true) (wp : (Cond.privateMethod y).before a0 Z = true) (wz : (Cond.initialized y.cls).before a0 Z = true) (wc : (Cond.code y bytes maxL ret).before a0 Z = true) (hy : y.cls ≠ "java/lang/invoke/MethodHandle" ∧ y.cls ≠ "java/lang/invoke/VarHandle") (eT : T.heap = h) {a : Addr} {C : String} (E : Exa Z h a C) (hsize : Ls.size = c.maxLocals) (argsL : List Value) {rest : List Value} (hlen : ∀ sig, parseMethodDescriptor y.desc = some sig → argsL.length = sig.parameters.length) (has : (.ref a :: argsL).toArray = as') (hst : st = argsL.reverse ++ .ref a :: rest) (hf : rm.frames + 1 ≤ R.frames) (hl : (rest.map fun v => v.category).sum + (maxL + 11) + rm.locals ≤ R.locals) (hc : k + rm.cells ≤ R.cells) (hs : n + rm.slots ≤ R.slots) (hd : decode code pc = .ok (.invokevirtual index, 3)) (K : ∀ v T' L, Stand p l e R s m args below meth c T' (locs ++ L) (k + rm.cells) (n + rm.slots) → Q v T'.heap L → Go p e below G (T'.setTop (mkF m (pc + 3) Ls (v.toList ++ rest)))) : Go p e below G (T.setTop (mkF m pc Ls st)) := by
  obtain ⟨cq, q1, q2⟩ := E.cell
  obtain ⟨v, _, ⟨T', L', k', n'⟩, -, X', ⟨L, hq, l1, l2, l3⟩, q⟩ := X.privateBack hx (y := y) hown (mvT hZ wl) (mvT hZ ws) (selOf (mvT hZ wi) (mvP hZ wp) (mvT hZ ws) hy) (Cond.privateMethod_at (mvP hZ wp (args := #[]))) (mvT hZ wc) hy (backOf (W := (rest.map fun v => v.category).sum) hM hZ wc wz hf hl) (g := mkF m pc Ls st) rfl hsize (Steps.refl _) (a := a) (by rw [eT]; exact q1) q2 (argsL := argsL) (rest := rest) hlen hst (by show 2 * 0 + _ ≤ _; omega) (hb hby hd) (fun _ _ => ⟨has, eT, hc, hs⟩)
  dsimp only [Pt.U, Pt.locs, Pt.cells, Pt.slots] at X' l1 l2 l3 q hq
  subst l1 l2 l3
  exact Go.step (fun t r => q.trans r) (K v T' L X' hq)
theorem g_interface (X : Stand p l e R s m args below meth c T locs k n) (hx : p.tables.exec = Jvm.exec) (hby : c.code = code) (hZ : Z.Warmed39 s.vm) {own : String} (hown : s.vm.findClass own = some m.cls) {C : String} {index count : Nat} {z : MethodName} {y : MethodName} {bytes : ByteArray} {maxL : Nat} {ret : Option FieldType} {rm : Room} {as' : Array Value} {Q : Option Value → Heap → List Loc → Prop} (hM : MetFree l y (head1 [Cond.code y bytes maxL ret] rm) (fun a U => a = as' ∧ Z.Warmed39 U.vm ∧ U.heap = h) (fun _ _ _ _ _ => True) (fun _ U o U' => RetG U Q rm.cells rm.slots U' o)) (wl : (Cond.methodLink own index z).before a0 Z = true) (wd : (Cond.declares z).before a0 Z = true) (wf : (Cond.interfaceMethod z.cls z.cls z.name z.desc).before a0 Z = true) (wsel : (Cond.selects C z y).before a0 Z = true) (ws : (Cond.instanceMethod y).before a0 Z = true) (wp : (Cond.publicMethod y).before a0 Z = true) (wu : (Cond.unhidden C z.name z.desc).before a0 Z = true) (wca : (Cond.castable C z.cls).before a0 Z = true) (wz : (Cond.initialized y.cls).before a0 Z = true) (wc : (Cond.code y bytes maxL ret).before a0 Z = true) (hy : z.cls ≠ "java/lang/invoke/MethodHandle" ∧ z.cls ≠ "java/lang/invoke/VarHandle") (eT : T.heap = h) {a : Addr} (E : Exa Z h a C) (hsize : Ls.size = c.maxLocals) (argsL : List Value) {rest : List Value} (hlen : ∀ sig, parseMethodDescriptor z.desc = some sig → argsL.length = sig.parameters.length) (has : (.ref a :: argsL).toArray = as') (hst : st = argsL.reverse ++ .ref a :: rest) (hf : rm.frames + 1 ≤ R.frames) (hl : (rest.map fun v => v.category).sum + (maxL + 11) + rm.locals ≤ R.locals) (hc : k + rm.cells ≤ R.cells) (hs : n + rm.slots ≤ R.slots) (hd : decode code pc = .ok (.invokeinterface index count, 5)) (K : ∀ v T' L, Stand p l e R s m args below meth c T' (locs ++ L) (k + rm.cells) (n + rm.slots) → Q v T'.heap L → Go p e below G (T'.setTop (mkF m (pc + 5) Ls (v.toList ++ rest)))) : Go p e below G (T.setTop (mkF m pc Ls st)) := by
  obtain ⟨cq, kq, qa, qb, qc⟩ := isOf hZ eT E
  obtain ⟨v, _, ⟨T', L', k', n'⟩, -, X', ⟨L, hq, l1, l2, l3⟩, q⟩ := X.interfaceBack hx (xi := z) (y := y) hown (mvT hZ wl) (mvT hZ wd) (mvT hZ wf (by simp [Cond.onTables, Cond.keepsFace, Cond.keeps, Cond.steady, Cond.faceAtom, hy.1, hy.2])) (mvT hZ wsel) (mvT hZ ws) (mvT hZ wp) (mvT hZ wu) (mvT hZ wca) hy (backOf (W := (rest.map fun v => v.category).sum) hM hZ wc wz hf hl) qa qb qc (g := mkF m pc Ls st) rfl hsize (Steps.refl _) (argsL := argsL) (rest := rest) hlen hst (by show 2 * 0 + _ ≤ _; omega) (hb hby hd) (fun _ _ => ⟨has, eT, hc, hs⟩)
  dsimp only [Pt.U, Pt.locs, Pt.cells, Pt.slots] at X' l1 l2 l3 q hq
  subst l1 l2 l3
  exact Go.step (fun t r => q.trans r) (K v T' L X' hq)
theorem g_ret (X : Stand p l e R s m args below meth c T locs k n) (hx : p.tables.exec = Jvm.exec) (hby : c.code = code) (hret : meth.sig.returnType = none) (hlocks : meth.locks = false) {Q : Option Value → Heap → List Loc → Prop} {cells slots : Nat} (hd : decode code pc = .ok (.return_, 1)) (eT : T.heap = h) (hk : k ≤ cells) (hn : n ≤ slots) (hq : Q none h locs) : Go p e below (RetG s Q cells slots) (T.setTop (mkF m pc Ls [])) := Go.leave X (v := none) (fun _ => rfl) hlocks eT hq hk hn (fun fs hr => X.returnOut hx hret (hb hby hd) hr)
theorem g_iret (X : Stand p l e R s m args below meth c T locs k n) (hx : p.tables.exec = Jvm.exec) (hby : c.code = code) {z : Int32} {rest : List Value} (hret : meth.sig.returnType = some .int) (hlocks : meth.locks = false) {Q : Option Value → Heap → List Loc → Prop} {cells slots : Nat} (hd : decode code pc = .ok (.ireturn, 1)) (eT : T.heap = h) (hk : k ≤ cells) (hn : n ≤ slots) (hq : Q (some (.int z)) h locs) : Go p e below (RetG s Q cells slots) (T.setTop (mkF m pc Ls (.int z :: rest))) := Go.leave X (v := some (.int z)) (fun q => by rw [hret] at q; cases q) hlocks eT hq hk hn (fun fs hr => retOut X hx (t := .int) hret rfl (Or.inl ⟨rfl, Or.inl rfl, z, rfl⟩) (hb hby hd) hr)
theorem g_nret (X : Stand p l e R s m args below meth c T locs k n) (hx : p.tables.exec = Jvm.exec) (hby : c.code = code) {z : Int32} {rest : List Value} {t : FieldType} (ht : t = .boolean ∨ t = .byte ∨ t = .char ∨ t = .short) (hret : meth.sig.returnType = some t) (hlocks : meth.locks = false) {Q : Option Value → Heap → List Loc → Prop} {cells slots : Nat} (hd : decode code pc = .ok (.ireturn, 1)) (eT : T.heap = h) (hk : k ≤ cells) (hn : n ≤ slots) (hq : Q (some (.int (nar t z))) h locs) : Go p e below (RetG s Q cells slots) (T.setTop (mkF m pc Ls (.int z :: rest))) := Go.leave X (v := some (.int (nar t z))) (fun q => by rw [hret] at q; cases q) hlocks eT hq hk hn (fun fs hr => retN X hx (t := t) hret ht (hb hby hd) hr)
theorem g_lret (X : Stand p l e R s m args below meth c T locs k n) (hx : p.tables.exec = Jvm.exec) (hby : c.code = code) {z : Int64} {rest : List Value} (hret : meth.sig.returnType = some .long) (hlocks : meth.locks = false) {Q : Option Value → Heap → List Loc → Prop} {cells slots : Nat} (hd : decode code pc = .ok (.lreturn, 1)) (eT : T.heap = h) (hk : k ≤ cells) (hn : n ≤ slots) (hq : Q (some (.long z)) h locs) : Go p e below (RetG s Q cells slots) (T.setTop (mkF m pc Ls (.long z :: rest))) := Go.leave X (v := some (.long z)) (fun q => by rw [hret] at q; cases q) hlocks eT hq hk hn (fun fs hr => retOut X hx (t := .long) hret rfl (Or.inr (Or.inl ⟨rfl, rfl, z, rfl⟩)) (hb hby hd) hr)
theorem g_aret (X : Stand p l e R s m args below meth c T locs k n) (hx : p.tables.exec = Jvm.exec) (hby : c.code = code) {z : Value} {rest : List Value} {t : FieldType} (ht : t.isReference = true) (hz : z.isRef = true) (hnar : narrow t z = z) (hret : meth.sig.returnType = some t) (hlocks : meth.locks = false) {Q : Option Value → Heap → List Loc → Prop} {cells slots : Nat} (hd : decode code pc = .ok (.areturn, 1)) (eT : T.heap = h) (hk : k ≤ cells) (hn : n ≤ slots) (hq : Q (some z) h locs) : Go p e below (RetG s Q cells slots) (T.setTop (mkF m pc Ls (z :: rest))) := Go.leave X (v := some z) (fun q => by rw [hret] at q; cases q) hlocks eT hq hk hn (fun fs hr => retOut X hx (t := t) hret hnar (Or.inr (Or.inr (Or.inr (Or.inr ⟨rfl, ht, hz⟩)))) (hb hby hd) hr)
end
end Jvm.Own

namespace Jvm.Pilot.@@N@@
open Jvm Jvm.ClassFile Sem Op Lib Jvm.Free Jvm.Stand Jvm.LawKit Jvm.RoadKit Bundle Jvm.Own Jvm.Pilot.@@N@@.Jvm.D


def own_sum (a b : Int64) : Int64 := if (9223372036854775807 : Int64) - a < b then 9223372036854775807 else a + b
theorem own_mask (x : Int64) : 0 ≤ (x &&& (9223372036854775807 : Int64)).toInt := by
  have := c_maskL x (9223372036854775807 : Int64) 63 (by decide) (by decide)
  rw [this]
  exact Int.emod_nonneg _ (by decide)
theorem own_half {a b : Int64} (ha : 0 ≤ a.toInt) (hb : 0 ≤ b.toInt) : own_sum a b = if a + b < 0 then (9223372036854775807 : Int64) else a + b := by
  unfold own_sum
  have h1 := c_lsub (9223372036854775807 : Int64) a
  have h2 := c_ladd a b
  have r1 := rng64 ((9223372036854775807 : Int64) - a)
  have r2 := rng64 (a + b)
  have r3 := rng64 a
  have r4 := rng64 b
  have e1 : (9223372036854775807 : Int64).toInt = 9223372036854775807 := rfl
  have e0 : (0 : Int64).toInt = 0 := rfl
  rw [e1] at h1
  have hiff : (9223372036854775807 : Int64) - a < b ↔ a + b < 0 := by
    rw [Int64.lt_iff_toInt_lt, Int64.lt_iff_toInt_lt, e0]; omega
  by_cases h : a + b < 0
  · rw [if_pos h, if_pos (hiff.mpr h)]
  · rw [if_neg h, if_neg (fun q => h (hiff.mp q))]
theorem own_neg {a b : Int64} (ha : 0 ≤ a.toInt) (hb : 0 ≤ b.toInt) (h : a + b < 0) : own_sum a b = (9223372036854775807 : Int64) ∧ own_sum b a = (9223372036854775807 : Int64) := by
  have h' : b + a < 0 := by rw [Int64.add_comm]; exact h
  exact ⟨by rw [own_half ha hb, if_pos h], by rw [own_half hb ha, if_pos h']⟩
theorem own_pos {a b : Int64} (ha : 0 ≤ a.toInt) (hb : 0 ≤ b.toInt) (h : ¬ a + b < 0) : own_sum a b = a + b ∧ own_sum b a = a + b := by
  have h' : ¬ b + a < 0 := by rw [Int64.add_comm]; exact h
  exact ⟨by rw [own_half ha hb, if_neg h], by rw [own_half hb ha, if_neg h', Int64.add_comm]⟩

theorem d1_0 : decode prog_42_method_5_code 0 = .ok (.lload_n 2, 1) := by decide +kernel
theorem d1_1 : decode prog_42_method_5_code 1 = .ok (.ldc2_w 68, 3) := by decide +kernel
theorem d1_4 : decode prog_42_method_5_code 4 = .ok (.lload_n 0, 1) := by decide +kernel
theorem d1_5 : decode prog_42_method_5_code 5 = .ok (.lsub, 1) := by decide +kernel
theorem d1_6 : decode prog_42_method_5_code 6 = .ok (.lcmp, 1) := by decide +kernel
theorem d1_7 : decode prog_42_method_5_code 7 = .ok (.ifCond .le 9, 3) := by decide +kernel
theorem d1_10 : decode prog_42_method_5_code 10 = .ok (.ldc2_w 68, 3) := by decide +kernel
theorem d1_13 : decode prog_42_method_5_code 13 = .ok (.goto 6, 3) := by decide +kernel
theorem d1_19 : decode prog_42_method_5_code 19 = .ok (.lreturn, 1) := by decide +kernel
theorem d1_16 : decode prog_42_method_5_code 16 = .ok (.lload_n 0, 1) := by decide +kernel
theorem d1_17 : decode prog_42_method_5_code 17 = .ok (.lload_n 2, 1) := by decide +kernel
theorem d1_18 : decode prog_42_method_5_code 18 = .ok (.ladd, 1) := by decide +kernel
theorem own_pn0 : plainName "com/example/usher/usher/governance/TokenUsage" = true := by first | (simp [plainName, overriddenIn]; done) | decide +kernel
def Q_sum (Z : State) (q1 : Int64) (q2 : Int64) (h0 : Heap) (n0 : Nat) (v : Option Value) (h : Heap) (L : List Loc) : Prop := v = some (.long (own_sum q1 q2)) ∧ Fr n0 L ∧ h = h0
set_option maxRecDepth 65536 in
set_option maxHeartbeats 40000000 in
theorem rm_sum (l : Launch) (Z : State) (a0 : Array Value) (hw : ∀ d ∈ tables_1, d.before a0 Z = true) (ws : List Jvm.Cond) (q1 : Int64) (q2 : Int64) (h0 : Heap) (n0 : Nat) (Z0 : n0 ≤ h0.size) :
    MetFree l (⟨"com/example/usher/usher/governance/TokenUsage", "sum", "(JJ)J"⟩ : MethodName) (head1 (Jvm.Cond.code (⟨"com/example/usher/usher/governance/TokenUsage", "sum", "(JJ)J"⟩ : MethodName) prog_42_method_5_code 4 (some .long) :: ws) ({ frames := 0, cells := 0, slots := 0, locals := 0 } : Room)) (fun a U => a = #[(.long q1), (.long q2)] ∧ Z.Warmed39 U.vm ∧ U.heap = h0) (fun _ _ _ _ _ => True) (fun _ U o U' => RetG U (Q_sum Z q1 q2 h0 n0) 0 0 U' o) := by
  refine MetFree.of_bodySF (plainFor_of_name own_pn0) hisR ?_
  intro p e s m args below meth c s₁ Bd hml0 hP hK
  obtain ⟨rfl, hZ, hh⟩ := hP
  have hx := Bd.exec
  have hby := Bd.bytes
  have hml : c.maxLocals = 4 := hml0
  have hown : s.vm.findClass "com/example/usher/usher/governance/TokenUsage" = some m.cls := findClass_of_methodNamed Bd.named
  have hnm := (name_of_methodNamed Bd.named Bd.method).1
  have X0 : Stand p l e ({ frames := 0, cells := 0, slots := 0, locals := 0 } : Room) s m #[(.long q1), (.long q2)] below meth c s₁ [] 0 0 := Stand.of_body Bd
  have e0 : s₁.heap = h0 := by rw [← hh, Bd.state]; rfl
  have N0 := Fr.nil n0
  have w5_ := hw _ (List.mem_of_getElem? (i := 5) rfl)
  show Go p e below (RetG s (Q_sum Z q1 q2 h0 n0) 0 0) (s₁.setTop (entryFrame m #[(.long q1), (.long q2)] 4))
  rw [show entryFrame m #[(.long q1), (.long q2)] 4 = mkF m 0 #[.val (.long q1), .second, .val (.long q2), .second] [] from by first | (simp [entryFrame, mkF, argsToLocals, Value.category]; done) | rfl]
  refine g_lloadN X0 hx hby d1_0 rfl ?_
  refine g_ldc2J X0 hx hby hZ hown w5_ d1_1 ?_
  refine g_lloadN X0 hx hby d1_4 rfl ?_
  refine g_lsub X0 hx hby d1_5 ?_
  refine g_lcmp X0 hx hby d1_6 ?_
  by_cases hc7_1 : ((9223372036854775807 : Int64) - q1) < q2
  · skip
    refine g_ifN X0 hx hby d1_7 (tlt ((lw_gt q2 ((9223372036854775807 : Int64) - q1)).mpr hc7_1)).2.2.2 ?_
    refine g_ldc2J X0 hx hby hZ hown w5_ d1_10 ?_
    refine g_goto X0 hx hby 19 d1_13 (by decide) (by decide) ?_
    refine g_lret X0 hx hby Bd.returns Bd.notSynchronized d1_19 e0 (by decide) (by decide) ?_
    show (Q_sum Z q1 q2 h0 n0) (some (.long (9223372036854775807 : Int64))) _ _
    exact ⟨by simp [own_sum, hc7_1], N0, rfl⟩
  · skip
    refine g_ifY X0 hx hby 16 d1_7 (flt (mt (lw_gt q2 ((9223372036854775807 : Int64) - q1)).mp hc7_1)).2.2.2 (by decide) (by decide) ?_
    refine g_lloadN X0 hx hby d1_16 rfl ?_
    refine g_lloadN X0 hx hby d1_17 rfl ?_
    refine g_ladd X0 hx hby d1_18 ?_
    refine g_lret X0 hx hby Bd.returns Bd.notSynchronized d1_19 e0 (by decide) (by decide) ?_
    show (Q_sum Z q1 q2 h0 n0) (some (.long (q1 + q2))) _ _
    exact ⟨by simp [own_sum, hc7_1], N0, rfl⟩

theorem own_pd0 : parseMethodDescriptor "(JJ)J" = some ⟨[.long, .long], some .long⟩ := by decide +kernel
theorem own_pn1 : plainName "com/example/usher/usher/governance/TokenUsageSumPinLaw" = true := by first | (simp [plainName, overriddenIn]; done) | decide +kernel
def Q_law (Z : State) (x : Int64) (y : Int64) (md : Int32) (h0 : Heap) (n0 : Nat) (v : Option Value) (h : Heap) (L : List Loc) : Prop := v = some (.int 1) ∧ Fr n0 L
set_option maxRecDepth 65536 in
set_option maxHeartbeats 40000000 in
theorem rm_law (l : Launch) (Z : State) (a0 : Array Value) (hw : ∀ d ∈ tables_1, d.before a0 Z = true) (ws : List Jvm.Cond) (x : Int64) (y : Int64) (md : Int32) (h0 : Heap) (n0 : Nat) (Z0 : n0 ≤ h0.size) :
    MetFree l Jvm.Pilot.@@N@@.x (head1 (Jvm.Cond.code Jvm.Pilot.@@N@@.x Jvm.Pilot.@@N@@.code Jvm.Pilot.@@N@@.maxLocals Jvm.Pilot.@@N@@.ret :: ws) room_1) (fun a U => a = #[(.long x), (.long y), (.int md)] ∧ Z.Warmed39 U.vm ∧ U.heap = h0) (fun _ _ _ _ _ => True) (fun _ U o U' => RetG U (Q_law Z x y md h0 n0) 0 0 U' o) := by
  refine MetFree.of_bodySF (plainFor_of_name own_pn1) hisR ?_
  intro p e s m args below meth c s₁ Bd hml0 hP hK
  obtain ⟨rfl, hZ, hh⟩ := hP
  have hx := Bd.exec
  have hby := Bd.bytes
  have hml : c.maxLocals = 17 := hml0
  have hown : s.vm.findClass "com/example/usher/usher/governance/TokenUsageSumPinLaw" = some m.cls := findClass_of_methodNamed Bd.named
  have hnm := (name_of_methodNamed Bd.named Bd.method).1
  have X0 : Stand p l e room_1 s m #[(.long x), (.long y), (.int md)] below meth c s₁ [] 0 0 := Stand.of_body Bd
  have e0 : s₁.heap = h0 := by rw [← hh, Bd.state]; rfl
  have N0 := Fr.nil n0
  have w0_ := hw _ (List.mem_of_getElem? (i := 0) rfl)
  have w1_ := hw _ (List.mem_of_getElem? (i := 1) rfl)
  have w2_ := hw _ (List.mem_of_getElem? (i := 2) rfl)
  have w3_ := hw _ (List.mem_of_getElem? (i := 3) rfl)
  have w4_ := hw _ (List.mem_of_getElem? (i := 4) rfl)
  show Go p e below (RetG s (Q_law Z x y md h0 n0) 0 0) (s₁.setTop (entryFrame m #[(.long x), (.long y), (.int md)] maxLocals))
  rw [show entryFrame m #[(.long x), (.long y), (.int md)] maxLocals = mkF m 0 #[.val (.long x), .second, .val (.long y), .second, .val (.int md), .unset, .unset, .unset, .unset, .unset, .unset, .unset, .unset, .unset, .unset, .unset, .unset] [] from by first | (simp [entryFrame, mkF, argsToLocals, Value.category, maxLocals]; done) | rfl]
  refine g_lloadN X0 hx hby at_0 rfl ?_
  refine g_ldc2J X0 hx hby hZ hown w0_ at_1 ?_
  refine g_land X0 hx hby at_4 ?_
  refine g_lstore X0 hx hby at_5 (l' := #[.val (.long x), .second, .val (.long y), .second, .val (.int md), .val (.long (x &&& (9223372036854775807 : Int64))), .second, .unset, .unset, .unset, .unset, .unset, .unset, .unset, .unset, .unset, .unset]) rfl ?_
  refine g_lloadN X0 hx hby at_7 rfl ?_
  refine g_ldc2J X0 hx hby hZ hown w0_ at_8 ?_
  refine g_land X0 hx hby at_11 ?_
  refine g_lstore X0 hx hby at_12 (l' := #[.val (.long x), .second, .val (.long y), .second, .val (.int md), .val (.long (x &&& (9223372036854775807 : Int64))), .second, .val (.long (y &&& (9223372036854775807 : Int64))), .second, .unset, .unset, .unset, .unset, .unset, .unset, .unset, .unset]) rfl ?_
  refine g_iload X0 hx hby at_14 rfl ?_
  refine g_iconst X0 hx hby (3 : Int32) at_16 rfl ?_
  refine g_iand X0 hx hby at_17 ?_
  refine g_iconst X0 hx hby (1 : Int32) at_18 rfl ?_
  by_cases hc19_1 : (md &&& (3 : Int32)) = (1 : Int32)
  · skip
    refine g_icN X0 hx hby at_19 (teq hc19_1).2 ?_
    refine g_iload X0 hx hby at_22 rfl ?_
    refine g_iconst X0 hx hby (2 : Int32) at_24 rfl ?_
    refine g_ishr X0 hx hby at_25 ?_
    refine g_iconst X0 hx hby (3 : Int32) at_26 rfl ?_
    refine g_iand X0 hx hby at_27 ?_
    refine g_i2l X0 hx hby at_28 ?_
    refine g_lconst X0 hx hby (1 : Int64) at_29 rfl ?_
    refine g_lsub X0 hx hby at_30 ?_
    refine g_lstore X0 hx hby at_31 (l' := #[.val (.long x), .second, .val (.long y), .second, .val (.int md), .val (.long (x &&& (9223372036854775807 : Int64))), .second, .val (.long (y &&& (9223372036854775807 : Int64))), .second, .val (.long ((((md >>> ((2 : Int32) &&& 31)) &&& (3 : Int32)).toInt64) - (1 : Int64))), .second, .unset, .unset, .unset, .unset, .unset, .unset]) rfl ?_
    refine g_ldc2J X0 hx hby hZ hown w0_ at_33 ?_
    refine g_lload X0 hx hby at_36 rfl ?_
    refine g_lsub X0 hx hby at_38 ?_
    refine g_at 39 rfl rfl rfl ?_
    refine g_lload X0 hx hby at_39 rfl ?_
    refine g_ladd X0 hx hby at_41 ?_
    refine g_ldc2J X0 hx hby hZ hown w0_ at_42 ?_
    refine g_land X0 hx hby at_45 ?_
    refine g_lstore X0 hx hby at_46 (l' := #[.val (.long x), .second, .val (.long y), .second, .val (.int md), .val (.long (x &&& (9223372036854775807 : Int64))), .second, .val (.long ((((9223372036854775807 : Int64) - (x &&& (9223372036854775807 : Int64))) + ((((md >>> ((2 : Int32) &&& 31)) &&& (3 : Int32)).toInt64) - (1 : Int64))) &&& (9223372036854775807 : Int64))), .second, .val (.long ((((md >>> ((2 : Int32) &&& 31)) &&& (3 : Int32)).toInt64) - (1 : Int64))), .second, .unset, .unset, .unset, .unset, .unset, .unset]) rfl ?_
    refine g_lload X0 hx hby at_48 rfl ?_
    refine g_lload X0 hx hby at_50 rfl ?_
    refine g_ladd X0 hx hby at_52 ?_
    refine g_lstore X0 hx hby at_53 (l' := #[.val (.long x), .second, .val (.long y), .second, .val (.int md), .val (.long (x &&& (9223372036854775807 : Int64))), .second, .val (.long ((((9223372036854775807 : Int64) - (x &&& (9223372036854775807 : Int64))) + ((((md >>> ((2 : Int32) &&& 31)) &&& (3 : Int32)).toInt64) - (1 : Int64))) &&& (9223372036854775807 : Int64))), .second, .val (.long ((x &&& (9223372036854775807 : Int64)) + ((((9223372036854775807 : Int64) - (x &&& (9223372036854775807 : Int64))) + ((((md >>> ((2 : Int32) &&& 31)) &&& (3 : Int32)).toInt64) - (1 : Int64))) &&& (9223372036854775807 : Int64)))), .second, .unset, .unset, .unset, .unset, .unset, .unset]) rfl ?_
    refine g_lload X0 hx hby at_55 rfl ?_
    refine g_lconst X0 hx hby (0 : Int64) at_57 rfl ?_
    refine g_lcmp X0 hx hby at_58 ?_
    by_cases hc59_2 : ((x &&& (9223372036854775807 : Int64)) + ((((9223372036854775807 : Int64) - (x &&& (9223372036854775807 : Int64))) + ((((md >>> ((2 : Int32) &&& 31)) &&& (3 : Int32)).toInt64) - (1 : Int64))) &&& (9223372036854775807 : Int64))) < (0 : Int64)
    · skip
      refine g_ifN X0 hx hby at_59 (tlt ((lw_lt ((x &&& (9223372036854775807 : Int64)) + ((((9223372036854775807 : Int64) - (x &&& (9223372036854775807 : Int64))) + ((((md >>> ((2 : Int32) &&& 31)) &&& (3 : Int32)).toInt64) - (1 : Int64))) &&& (9223372036854775807 : Int64))) (0 : Int64)).mpr hc59_2)).2.1 ?_
      refine g_ldc2J X0 hx hby hZ hown w0_ at_62 ?_
      refine g_lstore X0 hx hby at_65 (l' := #[.val (.long x), .second, .val (.long y), .second, .val (.int md), .val (.long (x &&& (9223372036854775807 : Int64))), .second, .val (.long ((((9223372036854775807 : Int64) - (x &&& (9223372036854775807 : Int64))) + ((((md >>> ((2 : Int32) &&& 31)) &&& (3 : Int32)).toInt64) - (1 : Int64))) &&& (9223372036854775807 : Int64))), .second, .val (.long ((x &&& (9223372036854775807 : Int64)) + ((((9223372036854775807 : Int64) - (x &&& (9223372036854775807 : Int64))) + ((((md >>> ((2 : Int32) &&& 31)) &&& (3 : Int32)).toInt64) - (1 : Int64))) &&& (9223372036854775807 : Int64)))), .second, .val (.long (9223372036854775807 : Int64)), .second, .unset, .unset, .unset, .unset]) rfl ?_
      refine g_goto X0 hx hby 74 at_67 (by decide) (by decide) ?_
      refine g_lload X0 hx hby at_74 rfl ?_
      refine g_lload X0 hx hby at_76 rfl ?_
      refine g_static X0 hx hby hZ hown (rm_sum l Z a0 hw [] (x &&& (9223372036854775807 : Int64)) ((((9223372036854775807 : Int64) - (x &&& (9223372036854775807 : Int64))) + ((((md >>> ((2 : Int32) &&& 31)) &&& (3 : Int32)).toInt64) - (1 : Int64))) &&& (9223372036854775807 : Int64)) h0 n0 Z0 ) w1_ w2_ w3_ w4_ (by decide) e0 (by rw [hml]; rfl) [(.long (x &&& (9223372036854775807 : Int64))), (.long ((((9223372036854775807 : Int64) - (x &&& (9223372036854775807 : Int64))) + ((((md >>> ((2 : Int32) &&& 31)) &&& (3 : Int32)).toInt64) - (1 : Int64))) &&& (9223372036854775807 : Int64)))] (lenOf own_pd0 rfl) rfl rfl (Nat.le_of_ble_eq_true rfl) (Nat.le_of_ble_eq_true rfl) (Nat.le_of_ble_eq_true rfl) (Nat.le_of_ble_eq_true rfl) at_78 (fun v3 T3 L3 X3 hQ3 => ?_)
      obtain ⟨rfl, N3q, eh3⟩ := hQ3
      have N3 := Fr.app N0 N3q
      refine g_lstore X3 hx hby at_81 (l' := #[.val (.long x), .second, .val (.long y), .second, .val (.int md), .val (.long (x &&& (9223372036854775807 : Int64))), .second, .val (.long ((((9223372036854775807 : Int64) - (x &&& (9223372036854775807 : Int64))) + ((((md >>> ((2 : Int32) &&& 31)) &&& (3 : Int32)).toInt64) - (1 : Int64))) &&& (9223372036854775807 : Int64))), .second, .val (.long ((x &&& (9223372036854775807 : Int64)) + ((((9223372036854775807 : Int64) - (x &&& (9223372036854775807 : Int64))) + ((((md >>> ((2 : Int32) &&& 31)) &&& (3 : Int32)).toInt64) - (1 : Int64))) &&& (9223372036854775807 : Int64)))), .second, .val (.long (9223372036854775807 : Int64)), .second, .val (.long (own_sum (x &&& (9223372036854775807 : Int64)) ((((9223372036854775807 : Int64) - (x &&& (9223372036854775807 : Int64))) + ((((md >>> ((2 : Int32) &&& 31)) &&& (3 : Int32)).toInt64) - (1 : Int64))) &&& (9223372036854775807 : Int64)))), .second, .unset, .unset]) rfl ?_
      refine g_lload X3 hx hby at_83 rfl ?_
      refine g_lload X3 hx hby at_85 rfl ?_
      refine g_static X3 hx hby hZ hown (rm_sum l Z a0 hw [] ((((9223372036854775807 : Int64) - (x &&& (9223372036854775807 : Int64))) + ((((md >>> ((2 : Int32) &&& 31)) &&& (3 : Int32)).toInt64) - (1 : Int64))) &&& (9223372036854775807 : Int64)) (x &&& (9223372036854775807 : Int64)) h0 n0 Z0 ) w1_ w2_ w3_ w4_ (by decide) eh3 (by rw [hml]; rfl) [(.long ((((9223372036854775807 : Int64) - (x &&& (9223372036854775807 : Int64))) + ((((md >>> ((2 : Int32) &&& 31)) &&& (3 : Int32)).toInt64) - (1 : Int64))) &&& (9223372036854775807 : Int64))), (.long (x &&& (9223372036854775807 : Int64)))] (lenOf own_pd0 rfl) rfl rfl (Nat.le_of_ble_eq_true rfl) (Nat.le_of_ble_eq_true rfl) (Nat.le_of_ble_eq_true rfl) (Nat.le_of_ble_eq_true rfl) at_87 (fun v4 T4 L4 X4 hQ4 => ?_)
      obtain ⟨rfl, N4q, eh4⟩ := hQ4
      have N4 := Fr.app N3 N4q
      refine g_lstore X4 hx hby at_90 (l' := #[.val (.long x), .second, .val (.long y), .second, .val (.int md), .val (.long (x &&& (9223372036854775807 : Int64))), .second, .val (.long ((((9223372036854775807 : Int64) - (x &&& (9223372036854775807 : Int64))) + ((((md >>> ((2 : Int32) &&& 31)) &&& (3 : Int32)).toInt64) - (1 : Int64))) &&& (9223372036854775807 : Int64))), .second, .val (.long ((x &&& (9223372036854775807 : Int64)) + ((((9223372036854775807 : Int64) - (x &&& (9223372036854775807 : Int64))) + ((((md >>> ((2 : Int32) &&& 31)) &&& (3 : Int32)).toInt64) - (1 : Int64))) &&& (9223372036854775807 : Int64)))), .second, .val (.long (9223372036854775807 : Int64)), .second, .val (.long (own_sum (x &&& (9223372036854775807 : Int64)) ((((9223372036854775807 : Int64) - (x &&& (9223372036854775807 : Int64))) + ((((md >>> ((2 : Int32) &&& 31)) &&& (3 : Int32)).toInt64) - (1 : Int64))) &&& (9223372036854775807 : Int64)))), .second, .val (.long (own_sum ((((9223372036854775807 : Int64) - (x &&& (9223372036854775807 : Int64))) + ((((md >>> ((2 : Int32) &&& 31)) &&& (3 : Int32)).toInt64) - (1 : Int64))) &&& (9223372036854775807 : Int64)) (x &&& (9223372036854775807 : Int64)))), .second]) rfl ?_
      refine g_lload X4 hx hby at_92 rfl ?_
      refine g_lload X4 hx hby at_94 rfl ?_
      refine g_lcmp X4 hx hby at_96 ?_
      refine g_ifN X4 hx hby at_97 (teq ((lw_eq (own_sum (x &&& (9223372036854775807 : Int64)) ((((9223372036854775807 : Int64) - (x &&& (9223372036854775807 : Int64))) + ((((md >>> ((2 : Int32) &&& 31)) &&& (3 : Int32)).toInt64) - (1 : Int64))) &&& (9223372036854775807 : Int64))) (9223372036854775807 : Int64)).mpr (((own_neg (own_mask _) (own_mask _) hc59_2).1) : (own_sum (x &&& (9223372036854775807 : Int64)) ((((9223372036854775807 : Int64) - (x &&& (9223372036854775807 : Int64))) + ((((md >>> ((2 : Int32) &&& 31)) &&& (3 : Int32)).toInt64) - (1 : Int64))) &&& (9223372036854775807 : Int64))) = (9223372036854775807 : Int64)))).2 ?_
      refine g_lload X4 hx hby at_100 rfl ?_
      refine g_lload X4 hx hby at_102 rfl ?_
      refine g_lcmp X4 hx hby at_104 ?_
      refine g_at 105 rfl rfl rfl ?_
      refine g_ifN X4 hx hby at_105 (teq ((lw_eq (own_sum ((((9223372036854775807 : Int64) - (x &&& (9223372036854775807 : Int64))) + ((((md >>> ((2 : Int32) &&& 31)) &&& (3 : Int32)).toInt64) - (1 : Int64))) &&& (9223372036854775807 : Int64)) (x &&& (9223372036854775807 : Int64))) (9223372036854775807 : Int64)).mpr (((own_neg (own_mask _) (own_mask _) hc59_2).2) : (own_sum ((((9223372036854775807 : Int64) - (x &&& (9223372036854775807 : Int64))) + ((((md >>> ((2 : Int32) &&& 31)) &&& (3 : Int32)).toInt64) - (1 : Int64))) &&& (9223372036854775807 : Int64)) (x &&& (9223372036854775807 : Int64))) = (9223372036854775807 : Int64)))).2 ?_
      refine g_iconst X4 hx hby (1 : Int32) at_108 rfl ?_
      refine g_goto X4 hx hby 113 at_109 (by decide) (by decide) ?_
      refine g_nret X4 hx hby (t := .boolean) (by simp) Bd.returns Bd.notSynchronized at_113 eh4 (by decide) (by decide) ?_
      show (Q_law Z x y md h0 n0) (some (.int (1 : Int32))) _ _
      exact ⟨rfl, N4⟩
    · skip
      refine g_ifY X0 hx hby 70 at_59 (flt (mt (lw_lt ((x &&& (9223372036854775807 : Int64)) + ((((9223372036854775807 : Int64) - (x &&& (9223372036854775807 : Int64))) + ((((md >>> ((2 : Int32) &&& 31)) &&& (3 : Int32)).toInt64) - (1 : Int64))) &&& (9223372036854775807 : Int64))) (0 : Int64)).mp hc59_2)).2.1 (by decide) (by decide) ?_
      refine g_lload X0 hx hby at_70 rfl ?_
      refine g_lstore X0 hx hby at_72 (l' := #[.val (.long x), .second, .val (.long y), .second, .val (.int md), .val (.long (x &&& (9223372036854775807 : Int64))), .second, .val (.long ((((9223372036854775807 : Int64) - (x &&& (9223372036854775807 : Int64))) + ((((md >>> ((2 : Int32) &&& 31)) &&& (3 : Int32)).toInt64) - (1 : Int64))) &&& (9223372036854775807 : Int64))), .second, .val (.long ((x &&& (9223372036854775807 : Int64)) + ((((9223372036854775807 : Int64) - (x &&& (9223372036854775807 : Int64))) + ((((md >>> ((2 : Int32) &&& 31)) &&& (3 : Int32)).toInt64) - (1 : Int64))) &&& (9223372036854775807 : Int64)))), .second, .val (.long ((x &&& (9223372036854775807 : Int64)) + ((((9223372036854775807 : Int64) - (x &&& (9223372036854775807 : Int64))) + ((((md >>> ((2 : Int32) &&& 31)) &&& (3 : Int32)).toInt64) - (1 : Int64))) &&& (9223372036854775807 : Int64)))), .second, .unset, .unset, .unset, .unset]) rfl ?_
      refine g_lload X0 hx hby at_74 rfl ?_
      refine g_lload X0 hx hby at_76 rfl ?_
      refine g_static X0 hx hby hZ hown (rm_sum l Z a0 hw [] (x &&& (9223372036854775807 : Int64)) ((((9223372036854775807 : Int64) - (x &&& (9223372036854775807 : Int64))) + ((((md >>> ((2 : Int32) &&& 31)) &&& (3 : Int32)).toInt64) - (1 : Int64))) &&& (9223372036854775807 : Int64)) h0 n0 Z0 ) w1_ w2_ w3_ w4_ (by decide) e0 (by rw [hml]; rfl) [(.long (x &&& (9223372036854775807 : Int64))), (.long ((((9223372036854775807 : Int64) - (x &&& (9223372036854775807 : Int64))) + ((((md >>> ((2 : Int32) &&& 31)) &&& (3 : Int32)).toInt64) - (1 : Int64))) &&& (9223372036854775807 : Int64)))] (lenOf own_pd0 rfl) rfl rfl (Nat.le_of_ble_eq_true rfl) (Nat.le_of_ble_eq_true rfl) (Nat.le_of_ble_eq_true rfl) (Nat.le_of_ble_eq_true rfl) at_78 (fun v5 T5 L5 X5 hQ5 => ?_)
      obtain ⟨rfl, N5q, eh5⟩ := hQ5
      have N5 := Fr.app N0 N5q
      refine g_lstore X5 hx hby at_81 (l' := #[.val (.long x), .second, .val (.long y), .second, .val (.int md), .val (.long (x &&& (9223372036854775807 : Int64))), .second, .val (.long ((((9223372036854775807 : Int64) - (x &&& (9223372036854775807 : Int64))) + ((((md >>> ((2 : Int32) &&& 31)) &&& (3 : Int32)).toInt64) - (1 : Int64))) &&& (9223372036854775807 : Int64))), .second, .val (.long ((x &&& (9223372036854775807 : Int64)) + ((((9223372036854775807 : Int64) - (x &&& (9223372036854775807 : Int64))) + ((((md >>> ((2 : Int32) &&& 31)) &&& (3 : Int32)).toInt64) - (1 : Int64))) &&& (9223372036854775807 : Int64)))), .second, .val (.long ((x &&& (9223372036854775807 : Int64)) + ((((9223372036854775807 : Int64) - (x &&& (9223372036854775807 : Int64))) + ((((md >>> ((2 : Int32) &&& 31)) &&& (3 : Int32)).toInt64) - (1 : Int64))) &&& (9223372036854775807 : Int64)))), .second, .val (.long (own_sum (x &&& (9223372036854775807 : Int64)) ((((9223372036854775807 : Int64) - (x &&& (9223372036854775807 : Int64))) + ((((md >>> ((2 : Int32) &&& 31)) &&& (3 : Int32)).toInt64) - (1 : Int64))) &&& (9223372036854775807 : Int64)))), .second, .unset, .unset]) rfl ?_
      refine g_lload X5 hx hby at_83 rfl ?_
      refine g_lload X5 hx hby at_85 rfl ?_
      refine g_static X5 hx hby hZ hown (rm_sum l Z a0 hw [] ((((9223372036854775807 : Int64) - (x &&& (9223372036854775807 : Int64))) + ((((md >>> ((2 : Int32) &&& 31)) &&& (3 : Int32)).toInt64) - (1 : Int64))) &&& (9223372036854775807 : Int64)) (x &&& (9223372036854775807 : Int64)) h0 n0 Z0 ) w1_ w2_ w3_ w4_ (by decide) eh5 (by rw [hml]; rfl) [(.long ((((9223372036854775807 : Int64) - (x &&& (9223372036854775807 : Int64))) + ((((md >>> ((2 : Int32) &&& 31)) &&& (3 : Int32)).toInt64) - (1 : Int64))) &&& (9223372036854775807 : Int64))), (.long (x &&& (9223372036854775807 : Int64)))] (lenOf own_pd0 rfl) rfl rfl (Nat.le_of_ble_eq_true rfl) (Nat.le_of_ble_eq_true rfl) (Nat.le_of_ble_eq_true rfl) (Nat.le_of_ble_eq_true rfl) at_87 (fun v6 T6 L6 X6 hQ6 => ?_)
      obtain ⟨rfl, N6q, eh6⟩ := hQ6
      have N6 := Fr.app N5 N6q
      refine g_lstore X6 hx hby at_90 (l' := #[.val (.long x), .second, .val (.long y), .second, .val (.int md), .val (.long (x &&& (9223372036854775807 : Int64))), .second, .val (.long ((((9223372036854775807 : Int64) - (x &&& (9223372036854775807 : Int64))) + ((((md >>> ((2 : Int32) &&& 31)) &&& (3 : Int32)).toInt64) - (1 : Int64))) &&& (9223372036854775807 : Int64))), .second, .val (.long ((x &&& (9223372036854775807 : Int64)) + ((((9223372036854775807 : Int64) - (x &&& (9223372036854775807 : Int64))) + ((((md >>> ((2 : Int32) &&& 31)) &&& (3 : Int32)).toInt64) - (1 : Int64))) &&& (9223372036854775807 : Int64)))), .second, .val (.long ((x &&& (9223372036854775807 : Int64)) + ((((9223372036854775807 : Int64) - (x &&& (9223372036854775807 : Int64))) + ((((md >>> ((2 : Int32) &&& 31)) &&& (3 : Int32)).toInt64) - (1 : Int64))) &&& (9223372036854775807 : Int64)))), .second, .val (.long (own_sum (x &&& (9223372036854775807 : Int64)) ((((9223372036854775807 : Int64) - (x &&& (9223372036854775807 : Int64))) + ((((md >>> ((2 : Int32) &&& 31)) &&& (3 : Int32)).toInt64) - (1 : Int64))) &&& (9223372036854775807 : Int64)))), .second, .val (.long (own_sum ((((9223372036854775807 : Int64) - (x &&& (9223372036854775807 : Int64))) + ((((md >>> ((2 : Int32) &&& 31)) &&& (3 : Int32)).toInt64) - (1 : Int64))) &&& (9223372036854775807 : Int64)) (x &&& (9223372036854775807 : Int64)))), .second]) rfl ?_
      refine g_lload X6 hx hby at_92 rfl ?_
      refine g_lload X6 hx hby at_94 rfl ?_
      refine g_lcmp X6 hx hby at_96 ?_
      refine g_ifN X6 hx hby at_97 (teq ((lw_eq (own_sum (x &&& (9223372036854775807 : Int64)) ((((9223372036854775807 : Int64) - (x &&& (9223372036854775807 : Int64))) + ((((md >>> ((2 : Int32) &&& 31)) &&& (3 : Int32)).toInt64) - (1 : Int64))) &&& (9223372036854775807 : Int64))) ((x &&& (9223372036854775807 : Int64)) + ((((9223372036854775807 : Int64) - (x &&& (9223372036854775807 : Int64))) + ((((md >>> ((2 : Int32) &&& 31)) &&& (3 : Int32)).toInt64) - (1 : Int64))) &&& (9223372036854775807 : Int64)))).mpr (((own_pos (own_mask _) (own_mask _) hc59_2).1) : (own_sum (x &&& (9223372036854775807 : Int64)) ((((9223372036854775807 : Int64) - (x &&& (9223372036854775807 : Int64))) + ((((md >>> ((2 : Int32) &&& 31)) &&& (3 : Int32)).toInt64) - (1 : Int64))) &&& (9223372036854775807 : Int64))) = ((x &&& (9223372036854775807 : Int64)) + ((((9223372036854775807 : Int64) - (x &&& (9223372036854775807 : Int64))) + ((((md >>> ((2 : Int32) &&& 31)) &&& (3 : Int32)).toInt64) - (1 : Int64))) &&& (9223372036854775807 : Int64)))))).2 ?_
      refine g_lload X6 hx hby at_100 rfl ?_
      refine g_at 102 rfl rfl rfl ?_
      refine g_lload X6 hx hby at_102 rfl ?_
      refine g_lcmp X6 hx hby at_104 ?_
      refine g_ifN X6 hx hby at_105 (teq ((lw_eq (own_sum ((((9223372036854775807 : Int64) - (x &&& (9223372036854775807 : Int64))) + ((((md >>> ((2 : Int32) &&& 31)) &&& (3 : Int32)).toInt64) - (1 : Int64))) &&& (9223372036854775807 : Int64)) (x &&& (9223372036854775807 : Int64))) ((x &&& (9223372036854775807 : Int64)) + ((((9223372036854775807 : Int64) - (x &&& (9223372036854775807 : Int64))) + ((((md >>> ((2 : Int32) &&& 31)) &&& (3 : Int32)).toInt64) - (1 : Int64))) &&& (9223372036854775807 : Int64)))).mpr (((own_pos (own_mask _) (own_mask _) hc59_2).2) : (own_sum ((((9223372036854775807 : Int64) - (x &&& (9223372036854775807 : Int64))) + ((((md >>> ((2 : Int32) &&& 31)) &&& (3 : Int32)).toInt64) - (1 : Int64))) &&& (9223372036854775807 : Int64)) (x &&& (9223372036854775807 : Int64))) = ((x &&& (9223372036854775807 : Int64)) + ((((9223372036854775807 : Int64) - (x &&& (9223372036854775807 : Int64))) + ((((md >>> ((2 : Int32) &&& 31)) &&& (3 : Int32)).toInt64) - (1 : Int64))) &&& (9223372036854775807 : Int64)))))).2 ?_
      refine g_iconst X6 hx hby (1 : Int32) at_108 rfl ?_
      refine g_goto X6 hx hby 113 at_109 (by decide) (by decide) ?_
      refine g_nret X6 hx hby (t := .boolean) (by simp) Bd.returns Bd.notSynchronized at_113 eh6 (by decide) (by decide) ?_
      show (Q_law Z x y md h0 n0) (some (.int (1 : Int32))) _ _
      exact ⟨rfl, N6⟩
  · skip
    refine g_icY X0 hx hby 48 at_19 (feq hc19_1).2 (by decide) (by decide) ?_
    refine g_lload X0 hx hby at_48 rfl ?_
    refine g_lload X0 hx hby at_50 rfl ?_
    refine g_ladd X0 hx hby at_52 ?_
    refine g_lstore X0 hx hby at_53 (l' := #[.val (.long x), .second, .val (.long y), .second, .val (.int md), .val (.long (x &&& (9223372036854775807 : Int64))), .second, .val (.long (y &&& (9223372036854775807 : Int64))), .second, .val (.long ((x &&& (9223372036854775807 : Int64)) + (y &&& (9223372036854775807 : Int64)))), .second, .unset, .unset, .unset, .unset, .unset, .unset]) rfl ?_
    refine g_lload X0 hx hby at_55 rfl ?_
    refine g_lconst X0 hx hby (0 : Int64) at_57 rfl ?_
    refine g_lcmp X0 hx hby at_58 ?_
    by_cases hc59_7 : ((x &&& (9223372036854775807 : Int64)) + (y &&& (9223372036854775807 : Int64))) < (0 : Int64)
    · skip
      refine g_ifN X0 hx hby at_59 (tlt ((lw_lt ((x &&& (9223372036854775807 : Int64)) + (y &&& (9223372036854775807 : Int64))) (0 : Int64)).mpr hc59_7)).2.1 ?_
      refine g_ldc2J X0 hx hby hZ hown w0_ at_62 ?_
      refine g_lstore X0 hx hby at_65 (l' := #[.val (.long x), .second, .val (.long y), .second, .val (.int md), .val (.long (x &&& (9223372036854775807 : Int64))), .second, .val (.long (y &&& (9223372036854775807 : Int64))), .second, .val (.long ((x &&& (9223372036854775807 : Int64)) + (y &&& (9223372036854775807 : Int64)))), .second, .val (.long (9223372036854775807 : Int64)), .second, .unset, .unset, .unset, .unset]) rfl ?_
      refine g_goto X0 hx hby 74 at_67 (by decide) (by decide) ?_
      refine g_lload X0 hx hby at_74 rfl ?_
      refine g_lload X0 hx hby at_76 rfl ?_
      refine g_static X0 hx hby hZ hown (rm_sum l Z a0 hw [] (x &&& (9223372036854775807 : Int64)) (y &&& (9223372036854775807 : Int64)) h0 n0 Z0 ) w1_ w2_ w3_ w4_ (by decide) e0 (by rw [hml]; rfl) [(.long (x &&& (9223372036854775807 : Int64))), (.long (y &&& (9223372036854775807 : Int64)))] (lenOf own_pd0 rfl) rfl rfl (Nat.le_of_ble_eq_true rfl) (Nat.le_of_ble_eq_true rfl) (Nat.le_of_ble_eq_true rfl) (Nat.le_of_ble_eq_true rfl) at_78 (fun v8 T8 L8 X8 hQ8 => ?_)
      obtain ⟨rfl, N8q, eh8⟩ := hQ8
      have N8 := Fr.app N0 N8q
      refine g_lstore X8 hx hby at_81 (l' := #[.val (.long x), .second, .val (.long y), .second, .val (.int md), .val (.long (x &&& (9223372036854775807 : Int64))), .second, .val (.long (y &&& (9223372036854775807 : Int64))), .second, .val (.long ((x &&& (9223372036854775807 : Int64)) + (y &&& (9223372036854775807 : Int64)))), .second, .val (.long (9223372036854775807 : Int64)), .second, .val (.long (own_sum (x &&& (9223372036854775807 : Int64)) (y &&& (9223372036854775807 : Int64)))), .second, .unset, .unset]) rfl ?_
      refine g_lload X8 hx hby at_83 rfl ?_
      refine g_lload X8 hx hby at_85 rfl ?_
      refine g_static X8 hx hby hZ hown (rm_sum l Z a0 hw [] (y &&& (9223372036854775807 : Int64)) (x &&& (9223372036854775807 : Int64)) h0 n0 Z0 ) w1_ w2_ w3_ w4_ (by decide) eh8 (by rw [hml]; rfl) [(.long (y &&& (9223372036854775807 : Int64))), (.long (x &&& (9223372036854775807 : Int64)))] (lenOf own_pd0 rfl) rfl rfl (Nat.le_of_ble_eq_true rfl) (Nat.le_of_ble_eq_true rfl) (Nat.le_of_ble_eq_true rfl) (Nat.le_of_ble_eq_true rfl) at_87 (fun v9 T9 L9 X9 hQ9 => ?_)
      obtain ⟨rfl, N9q, eh9⟩ := hQ9
      have N9 := Fr.app N8 N9q
      refine g_lstore X9 hx hby at_90 (l' := #[.val (.long x), .second, .val (.long y), .second, .val (.int md), .val (.long (x &&& (9223372036854775807 : Int64))), .second, .val (.long (y &&& (9223372036854775807 : Int64))), .second, .val (.long ((x &&& (9223372036854775807 : Int64)) + (y &&& (9223372036854775807 : Int64)))), .second, .val (.long (9223372036854775807 : Int64)), .second, .val (.long (own_sum (x &&& (9223372036854775807 : Int64)) (y &&& (9223372036854775807 : Int64)))), .second, .val (.long (own_sum (y &&& (9223372036854775807 : Int64)) (x &&& (9223372036854775807 : Int64)))), .second]) rfl ?_
      refine g_lload X9 hx hby at_92 rfl ?_
      refine g_lload X9 hx hby at_94 rfl ?_
      refine g_lcmp X9 hx hby at_96 ?_
      refine g_ifN X9 hx hby at_97 (teq ((lw_eq (own_sum (x &&& (9223372036854775807 : Int64)) (y &&& (9223372036854775807 : Int64))) (9223372036854775807 : Int64)).mpr (((own_neg (own_mask _) (own_mask _) hc59_7).1) : (own_sum (x &&& (9223372036854775807 : Int64)) (y &&& (9223372036854775807 : Int64))) = (9223372036854775807 : Int64)))).2 ?_
      refine g_lload X9 hx hby at_100 rfl ?_
      refine g_lload X9 hx hby at_102 rfl ?_
      refine g_lcmp X9 hx hby at_104 ?_
      refine g_at 105 rfl rfl rfl ?_
      refine g_ifN X9 hx hby at_105 (teq ((lw_eq (own_sum (y &&& (9223372036854775807 : Int64)) (x &&& (9223372036854775807 : Int64))) (9223372036854775807 : Int64)).mpr (((own_neg (own_mask _) (own_mask _) hc59_7).2) : (own_sum (y &&& (9223372036854775807 : Int64)) (x &&& (9223372036854775807 : Int64))) = (9223372036854775807 : Int64)))).2 ?_
      refine g_iconst X9 hx hby (1 : Int32) at_108 rfl ?_
      refine g_goto X9 hx hby 113 at_109 (by decide) (by decide) ?_
      refine g_nret X9 hx hby (t := .boolean) (by simp) Bd.returns Bd.notSynchronized at_113 eh9 (by decide) (by decide) ?_
      show (Q_law Z x y md h0 n0) (some (.int (1 : Int32))) _ _
      exact ⟨rfl, N9⟩
    · skip
      refine g_ifY X0 hx hby 70 at_59 (flt (mt (lw_lt ((x &&& (9223372036854775807 : Int64)) + (y &&& (9223372036854775807 : Int64))) (0 : Int64)).mp hc59_7)).2.1 (by decide) (by decide) ?_
      refine g_lload X0 hx hby at_70 rfl ?_
      refine g_lstore X0 hx hby at_72 (l' := #[.val (.long x), .second, .val (.long y), .second, .val (.int md), .val (.long (x &&& (9223372036854775807 : Int64))), .second, .val (.long (y &&& (9223372036854775807 : Int64))), .second, .val (.long ((x &&& (9223372036854775807 : Int64)) + (y &&& (9223372036854775807 : Int64)))), .second, .val (.long ((x &&& (9223372036854775807 : Int64)) + (y &&& (9223372036854775807 : Int64)))), .second, .unset, .unset, .unset, .unset]) rfl ?_
      refine g_lload X0 hx hby at_74 rfl ?_
      refine g_lload X0 hx hby at_76 rfl ?_
      refine g_static X0 hx hby hZ hown (rm_sum l Z a0 hw [] (x &&& (9223372036854775807 : Int64)) (y &&& (9223372036854775807 : Int64)) h0 n0 Z0 ) w1_ w2_ w3_ w4_ (by decide) e0 (by rw [hml]; rfl) [(.long (x &&& (9223372036854775807 : Int64))), (.long (y &&& (9223372036854775807 : Int64)))] (lenOf own_pd0 rfl) rfl rfl (Nat.le_of_ble_eq_true rfl) (Nat.le_of_ble_eq_true rfl) (Nat.le_of_ble_eq_true rfl) (Nat.le_of_ble_eq_true rfl) at_78 (fun v10 T10 L10 X10 hQ10 => ?_)
      obtain ⟨rfl, N10q, eh10⟩ := hQ10
      have N10 := Fr.app N0 N10q
      refine g_lstore X10 hx hby at_81 (l' := #[.val (.long x), .second, .val (.long y), .second, .val (.int md), .val (.long (x &&& (9223372036854775807 : Int64))), .second, .val (.long (y &&& (9223372036854775807 : Int64))), .second, .val (.long ((x &&& (9223372036854775807 : Int64)) + (y &&& (9223372036854775807 : Int64)))), .second, .val (.long ((x &&& (9223372036854775807 : Int64)) + (y &&& (9223372036854775807 : Int64)))), .second, .val (.long (own_sum (x &&& (9223372036854775807 : Int64)) (y &&& (9223372036854775807 : Int64)))), .second, .unset, .unset]) rfl ?_
      refine g_lload X10 hx hby at_83 rfl ?_
      refine g_lload X10 hx hby at_85 rfl ?_
      refine g_static X10 hx hby hZ hown (rm_sum l Z a0 hw [] (y &&& (9223372036854775807 : Int64)) (x &&& (9223372036854775807 : Int64)) h0 n0 Z0 ) w1_ w2_ w3_ w4_ (by decide) eh10 (by rw [hml]; rfl) [(.long (y &&& (9223372036854775807 : Int64))), (.long (x &&& (9223372036854775807 : Int64)))] (lenOf own_pd0 rfl) rfl rfl (Nat.le_of_ble_eq_true rfl) (Nat.le_of_ble_eq_true rfl) (Nat.le_of_ble_eq_true rfl) (Nat.le_of_ble_eq_true rfl) at_87 (fun v11 T11 L11 X11 hQ11 => ?_)
      obtain ⟨rfl, N11q, eh11⟩ := hQ11
      have N11 := Fr.app N10 N11q
      refine g_lstore X11 hx hby at_90 (l' := #[.val (.long x), .second, .val (.long y), .second, .val (.int md), .val (.long (x &&& (9223372036854775807 : Int64))), .second, .val (.long (y &&& (9223372036854775807 : Int64))), .second, .val (.long ((x &&& (9223372036854775807 : Int64)) + (y &&& (9223372036854775807 : Int64)))), .second, .val (.long ((x &&& (9223372036854775807 : Int64)) + (y &&& (9223372036854775807 : Int64)))), .second, .val (.long (own_sum (x &&& (9223372036854775807 : Int64)) (y &&& (9223372036854775807 : Int64)))), .second, .val (.long (own_sum (y &&& (9223372036854775807 : Int64)) (x &&& (9223372036854775807 : Int64)))), .second]) rfl ?_
      refine g_lload X11 hx hby at_92 rfl ?_
      refine g_lload X11 hx hby at_94 rfl ?_
      refine g_lcmp X11 hx hby at_96 ?_
      refine g_ifN X11 hx hby at_97 (teq ((lw_eq (own_sum (x &&& (9223372036854775807 : Int64)) (y &&& (9223372036854775807 : Int64))) ((x &&& (9223372036854775807 : Int64)) + (y &&& (9223372036854775807 : Int64)))).mpr (((own_pos (own_mask _) (own_mask _) hc59_7).1) : (own_sum (x &&& (9223372036854775807 : Int64)) (y &&& (9223372036854775807 : Int64))) = ((x &&& (9223372036854775807 : Int64)) + (y &&& (9223372036854775807 : Int64)))))).2 ?_
      refine g_lload X11 hx hby at_100 rfl ?_
      refine g_at 102 rfl rfl rfl ?_
      refine g_lload X11 hx hby at_102 rfl ?_
      refine g_lcmp X11 hx hby at_104 ?_
      refine g_ifN X11 hx hby at_105 (teq ((lw_eq (own_sum (y &&& (9223372036854775807 : Int64)) (x &&& (9223372036854775807 : Int64))) ((x &&& (9223372036854775807 : Int64)) + (y &&& (9223372036854775807 : Int64)))).mpr (((own_pos (own_mask _) (own_mask _) hc59_7).2) : (own_sum (y &&& (9223372036854775807 : Int64)) (x &&& (9223372036854775807 : Int64))) = ((x &&& (9223372036854775807 : Int64)) + (y &&& (9223372036854775807 : Int64)))))).2 ?_
      refine g_iconst X11 hx hby (1 : Int32) at_108 rfl ?_
      refine g_goto X11 hx hby 113 at_109 (by decide) (by decide) ?_
      refine g_nret X11 hx hby (t := .boolean) (by simp) Bd.returns Bd.notSynchronized at_113 eh11 (by decide) (by decide) ?_
      show (Q_law Z x y md h0 n0) (some (.int (1 : Int32))) _ _
      exact ⟨rfl, N11⟩

set_option maxRecDepth 65536 in
set_option maxHeartbeats 40000000 in
theorem comes_1 {Post : Tables → Env → Array Value → State → Outcome → State → Prop} (hpost : ∀ tb e args s v u, (limb_1_1.after args s (.returned v) u = true ∧ limb_1_2.after args s (.returned v) u = true ∧ True) → FrameEnd s (.returned v) u (Jvm.fieldLocs frame_1_writes args s ++ Jvm.arrayLocs frame_1_arrays args s ++ Jvm.staticLocs frame_1_statics s) 0 0 → Post tb e args s (.returned v) u) :
    ArmFor flags0 classFile x code maxLocals ret World_1 tables_1 room_1 Calls_1 rest_1 Pre_1 Post := by
  intro l hfl _ _ p e ha hc hk s m args below hf hA hF happ hP
  obtain ⟨hcalls, hrest, hpre⟩ := hP
  obtain ⟨-, -, -, hnamed, -, -, -, hat⟩ := (Spec.applies_iff hf).mp happ
  obtain ⟨hg, hn⟩ := and_e (Cond.before_iff.mp (show (Jvm.Cond.and given_1 narrow_1).before args s = true from hpre))
  obtain ⟨hcount, hg1⟩ := and_e hg
  obtain ⟨ga0, hg2⟩ := and_e hg1
  obtain ⟨ga1, hg3⟩ := and_e hg2
  have ga2 := hg3
  obtain ⟨w0, w1, w2, rfl⟩ : ∃ w0 w1 w2 : Value, args = #[w0, w1, w2] := by
    have hs : args.size = 3 := by simpa [Cond.value, given_1] using hcount
    obtain ⟨L⟩ := args
    match L, hs with
    | [w0, w1, w2], _ => exact ⟨w0, w1, w2, rfl⟩
  have hw := fun d (hd : d ∈ tables_1) => atoms_spec (ws := Jvm.Cond.code x code maxLocals ret :: tables_1) hat d (List.mem_cons_of_mem _ hd)
  have hfit : Fit s := fun {y c} hc i hi => by
    obtain ⟨ha, rfl⟩ := Array.getElem?_eq_some_iff.mp hc
    have q := List.all_eq_true.mp ((Array.all_eq_true_iff_forall_mem.mp hF) _ (Array.getElem_mem ha)) i (List.mem_range.mpr hi)
    simpa [Array.getElem?_eq_getElem hi] using q
  obtain ⟨i0, ei0⟩ := isL_v ga0
  obtain rfl : w0 = (.long i0) := Option.some.inj ei0
  obtain ⟨i1, ei1⟩ := isL_v ga1
  obtain rfl : w1 = (.long i1) := Option.some.inj ei1
  obtain ⟨i2, ei2⟩ := is_v ga2
  obtain rfl : w2 = (.int i2) := Option.some.inj ei2
  obtain ⟨n, o, h1, h2, h3, _, L, rfl, ⟨rfl, N⟩, hq⟩ := rm_law l s _ hw tables_1 i0 i1 i2 s.heap s.heap.size (Nat.le_refl _)  p e ha hc hk s m _ below hf ((Spec.applies_iff_loose hf).mp happ).1 ⟨rfl, State.Warmed39.refl s, rfl⟩ trivial
  refine ⟨n, _, h1, h2, h3, hpost _ _ _ _ _ _ ⟨Cond.after_iff.mpr rfl, Cond.after_iff.mpr (eq_i res_at (Term.int_eval (1)) rfl), trivial⟩ ⟨hq.1, hq.2.1, (hq.2.2.sift fun y hy => Or.inr (N y hy)).mono (by decide) (by decide)⟩⟩
theorem main_1_1 : Claimed_1_1 := comes_1 fun _ _ _ _ _ _ h hF => ⟨h.1, hF⟩
theorem main_1_2 : Claimed_1_2 := comes_1 fun _ _ _ _ _ _ h hF => ⟨h.2.1, hF⟩

end Jvm.Pilot.@@N@@
namespace Jvm.Pilot.@@N@@
open Jvm Jvm.ClassFile Sem Op Lib Jvm.Free Jvm.Stand Jvm.Pilot.@@N@@.Jvm.D
/-! MADE BY PROGRAM (witnessworld.py) out of the Statement's table words and the real class files: 9 classes; the members and pool entries that the words name. The judged class is class 1, her method 1. -/
namespace start1
open Jvm.ClassFile
def u (s : String) : CpInfo := .utf8 (stringToUtf16 s)
/-- a pool by its gaps: so many unusable entries, then the entry; so many at the end -/
def gap : Nat → List CpInfo → List CpInfo
  | 0, r => r
  | n + 1, r => .unusable :: gap n r
def poolList (es : List (Nat × CpInfo)) (last : Nat) : List CpInfo := es.foldr (fun e r => gap e.1 (e.2 :: r)) (gap last [])
def pool (es : List (Nat × CpInfo)) (last : Nat) : Array CpInfo := ⟨poolList es last⟩
def fileOf (pool : Array CpInfo) (this : Nat) (attrs : Array Attribute := #[]) (ms : Array MethodInfo := #[]) (fl : Nat := 33) (sup : Nat := 0) (ifs : Array Nat := #[]) (fds : Array FieldInfo := #[]) : ClassFile where
  minorVersion := 0
  majorVersion := 65
  constantPool := pool
  accessFlags := fl
  thisClass := this
  superClass := sup
  interfaces := ifs
  fields := fds
  methods := ms
  attributes := attrs
def plain (name : String) (sup : Option ClassId) : Class where
  name := name
  kind := .ordinary
  loader := none
  accessFlags := 33
  super := sup
  interfaces := #[]
  cf := none
  fields := #[]
  methods := #[]
  instanceTypes := #[]
  staticTypes := #[]
  resolved := #[]
  callSites := []
  init := .initialized
  statics := none
  mirror := none

def pool0 : Array CpInfo := pool [(5, u "<init>"), (0, u "()V"), (1, .class_ 10), (1, u "java/lang/Object")] 113

def k0m0 : Method := { name := "<init>", desc := "()V", sig := { parameters := [], returnType := none }, accessFlags := 1, code := none }
/-- java/lang/Object -/
def k0 : Class := { plain "java/lang/Object" none with
  accessFlags := 33
  interfaces := #[]
  cf := some (fileOf pool0 8 #[] #[{ accessFlags := 1, nameIndex := 5, descriptorIndex := 6, attributes := #[] }] 33 0 #[] #[])
  fields := #[]
  methods := #[k0m0]
  instanceTypes := #[]
  staticTypes := #[]
  resolved := Array.replicate 124 none
  statics := none }

def pool1 : Array CpInfo := pool [(2, .class_ 4), (1, u "java/lang/Object"), (0, u "<init>"), (0, u "()V"), (2, .long 9223372036854775807), (1, .methodref 12 13), (0, .class_ 14), (0, .nameAndType 15 16), (0, u "com/example/usher/usher/governance/TokenUsage"), (0, u "sum"), (0, u "(JJ)J"), (0, .class_ 18), (0, u "com/example/usher/usher/governance/TokenUsageSumPinLaw"), (2, u "law"), (0, u "(JJI)Z")] 3

def k1m0 : Method := { name := "<init>", desc := "()V", sig := { parameters := [], returnType := none }, accessFlags := 2, code := none }
def k1c1 : Code := { maxStack := 4, maxLocals := 17, code := code, exceptionTable := #[], attributes := #[] }
def k1m1 : Method := { name := "law", desc := "(JJI)Z", sig := { parameters := [.long, .long, .int], returnType := some .boolean }, accessFlags := 9, code := some k1c1 }
/-- com/example/usher/usher/governance/TokenUsageSumPinLaw -/
def k1 : Class := { plain "com/example/usher/usher/governance/TokenUsageSumPinLaw" (some 0) with
  accessFlags := 49
  interfaces := #[]
  cf := some (fileOf pool1 17 #[] #[{ accessFlags := 2, nameIndex := 5, descriptorIndex := 6, attributes := #[] }, { accessFlags := 9, nameIndex := 21, descriptorIndex := 22, attributes := #[] }] 49 2 #[] #[])
  fields := #[]
  methods := #[k1m0, k1m1]
  instanceTypes := #[]
  staticTypes := #[]
  resolved := Array.replicate 26 none
  statics := none }

def pool2 : Array CpInfo := pool [(2, .class_ 4), (1, u "com/example/usher/usher/governance/TokenUsage"), (3, .class_ 10), (1, u "java/lang/Object"), (11, u "promptTokens"), (0, u "J"), (4, u "completionTokens"), (4, u "totalTokens"), (4, u "cachedPromptTokens"), (4, u "cacheWrite5mTokens"), (4, u "cacheWrite1hTokens"), (2, u "sum"), (0, u "(JJ)J"), (15, .long 9223372036854775807)] 30

def k2c0 : Code := { maxStack := 6, maxLocals := 4, code := prog_42_method_5_code, exceptionTable := #[], attributes := #[] }
def k2m0 : Method := { name := "sum", desc := "(JJ)J", sig := { parameters := [.long, .long], returnType := some .long }, accessFlags := 8, code := some k2c0 }
/-- com/example/usher/usher/governance/TokenUsage -/
def k2 : Class := { plain "com/example/usher/usher/governance/TokenUsage" (some 0) with
  accessFlags := 49
  interfaces := #[]
  cf := some (fileOf pool2 2 #[] #[{ accessFlags := 8, nameIndex := 51, descriptorIndex := 52, attributes := #[] }] 49 8 #[] #[{ accessFlags := 18, nameIndex := 22, descriptorIndex := 23, attributes := #[] }, { accessFlags := 18, nameIndex := 28, descriptorIndex := 23, attributes := #[] }, { accessFlags := 18, nameIndex := 33, descriptorIndex := 23, attributes := #[] }, { accessFlags := 18, nameIndex := 38, descriptorIndex := 23, attributes := #[] }, { accessFlags := 18, nameIndex := 43, descriptorIndex := 23, attributes := #[] }, { accessFlags := 18, nameIndex := 48, descriptorIndex := 23, attributes := #[] }])
  fields := #[{ name := "promptTokens", type := .long, accessFlags := 18, slot := 0, constantValue := 0 }, { name := "completionTokens", type := .long, accessFlags := 18, slot := 1, constantValue := 0 }, { name := "totalTokens", type := .long, accessFlags := 18, slot := 2, constantValue := 0 }, { name := "cachedPromptTokens", type := .long, accessFlags := 18, slot := 3, constantValue := 0 }, { name := "cacheWrite5mTokens", type := .long, accessFlags := 18, slot := 4, constantValue := 0 }, { name := "cacheWrite1hTokens", type := .long, accessFlags := 18, slot := 5, constantValue := 0 }]
  methods := #[k2m0]
  instanceTypes := #[.long, .long, .long, .long, .long, .long]
  staticTypes := #[]
  resolved := Array.replicate 99 none
  statics := none }

def pool3 : Array CpInfo := pool [(1, u "java/lang/Cloneable"), (0, .class_ 1), (0, u "java/lang/Object"), (0, .class_ 3)] 3

/-- java/lang/Cloneable -/
def k3 : Class := { plain "java/lang/Cloneable" (some 0) with
  accessFlags := 1537
  interfaces := #[]
  cf := some (fileOf pool3 2 #[] #[] 1537 4 #[] #[])
  fields := #[]
  methods := #[]
  instanceTypes := #[]
  staticTypes := #[]
  resolved := Array.replicate 8 none
  statics := none }

def pool4 : Array CpInfo := pool [(1, u "java/io/Serializable"), (0, .class_ 1), (0, u "java/lang/Object"), (0, .class_ 3)] 3

/-- java/io/Serializable -/
def k4 : Class := { plain "java/io/Serializable" (some 0) with
  accessFlags := 1537
  interfaces := #[]
  cf := some (fileOf pool4 2 #[] #[] 1537 4 #[] #[])
  fields := #[]
  methods := #[]
  instanceTypes := #[]
  staticTypes := #[]
  resolved := Array.replicate 8 none
  statics := none }

/-- the primitive byte -/
def k5 : Class := { plain "byte" none with kind := .primitive 'B', accessFlags := 0x411 }
/-- [B -/
def k6 : Class := { plain "[B" (some 0) with kind := .array 5 .byte, interfaces := #[3, 4], accessFlags := 1041 }

/-- the primitive int -/
def k7 : Class := { plain "int" none with kind := .primitive 'I', accessFlags := 0x411 }
/-- [I -/
def k8 : Class := { plain "[I" (some 0) with kind := .array 7 .int, interfaces := #[3, 4], accessFlags := 1041 }

def heap : Heap := #[]
def classes : Array Class := #[k0, k1, k2, k3, k4, k5, k6, k7, k8]
def interned : List (Array UInt16 × Addr) := []
def slotsUsed : Nat := 0
def theMethod : MethodId := ⟨1, 1⟩
def args0 : Array Value := #[.long 5, .long 7, .int 1]
def aboutOver (below : List Frame) : State where
  vm := { classes := classes, interned := interned.toArray }
  heap := heap
  slotsUsed := slotsUsed
  threads := #[{ frames := .invoking theMethod args0 :: below }]
def below0 : List Frame := [.native { method := ⟨0, 0⟩, args := #[] }]
def about1 : State := aboutOver below0
def p0 : Program := .bare "" "" ""
def e0 : Env := launch0.env 0 0 0
theorem w_frames : about1.frames = Frame.invoking theMethod args0 :: below0 := rfl
set_option maxRecDepth 65536 in
theorem w_args : argsFit about1.vm theMethod args0 = true := by decide +kernel
set_option maxRecDepth 65536 in
theorem w_heap : heapFits about1 = true := by decide +kernel
set_option maxRecDepth 65536 in
theorem w_runnable : about1.curStatus? = some .runnable := by decide +kernel
set_option maxRecDepth 65536 in
theorem w_alone : about1.alone = true := by decide +kernel
set_option maxRecDepth 65536 in
theorem w_named : about1.methodNamed? x = some theMethod := by decide +kernel
set_option maxRecDepth 65536 in
theorem w_hears : about1.hears theMethod below0 = true := by decide +kernel
set_option maxRecDepth 65536 in
theorem w_ripe : about1.ripe theMethod args0 below0 = true := by decide +kernel
theorem w_running : about1.status = .running := rfl
set_option maxRecDepth 65536 in
theorem w_room : about1.hasRoom e0.platform room_1 = true :=
  launch0.hasRoom_least _ room_1 (by decide +kernel) (by decide +kernel) (by decide +kernel) (by decide +kernel) (by decide +kernel) (by decide +kernel)
theorem allAtoms_all (ts : List Jvm.Cond) (a : Array Jvm.Value) (st : Jvm.State) : (allAtoms ts).before a st = ts.all (fun c => c.before a st) := by
  induction ts with
  | nil => rfl
  | cons c t ih =>
    show (Jvm.Cond.and c (allAtoms t)).before a st = _
    rw [Jvm.Cond.before_and, ih, List.all_cons]
def words1 : List Jvm.Cond := Jvm.Cond.code x code maxLocals ret :: tables_1
/-- a 'code' word, met by the world's own term for the bytes: nothing is compared byte by byte -/
theorem code_word {y : MethodName} {bytes : ByteArray} {mx : Nat} {rt : Option FieldType} {a : Array Value} {s : State} {m : MethodId} {meth : Method} {c : Code} (h1 : s.methodNamed? y = some m) (h2 : s.vm.method? m = some meth) (h3 : meth.code = some c) (h4 : c.code = bytes)
    (h5 : (c.maxLocals == mx && c.exceptionTable.isEmpty && decide (c.maxStack ≤ mostOperands) && decide (meth.sig.returnType = rt) && !meth.locks && decide (parseMethodDescriptor y.desc = some meth.sig)) = true) : (Jvm.Cond.code y bytes mx rt).before a s = true := by
  simp only [Bool.and_eq_true, beq_iff_eq, Bool.not_eq_true', decide_eq_true_eq] at h5
  obtain ⟨⟨⟨⟨⟨g1, g2⟩, g3⟩, g4⟩, g5⟩, g6⟩ := h5
  simp [Cond.before, Cond.holds, Cond.value, h1, h2, h3, h4, g1, g2, g3, g4, g5, g6]
def isCode : Jvm.Cond → Bool
  | .code _ _ _ _ => true
  | _ => false
theorem all_split {L : List Jvm.Cond} {P : Jvm.Cond → Bool} (h1 : L.all (fun c => isCode c || P c) = true) (h2 : ∀ c ∈ L.filter isCode, P c = true) : L.all P = true := by
  refine List.all_eq_true.mpr fun c hc => ?_
  have h := List.all_eq_true.mp h1 c hc
  rcases Bool.eq_false_or_eq_true (isCode c) with hi | hi
  · exact h2 c (List.mem_filter.mpr ⟨hc, hi⟩)
  · simpa [hi] using h
set_option maxRecDepth 65536 in
theorem w_c0 : (Jvm.Cond.code x code maxLocals ret).before args0 about1 = true := code_word (m := ⟨1, 1⟩) (meth := k1m1) (c := k1c1) (by decide +kernel) rfl rfl rfl (by decide +kernel)
set_option maxRecDepth 65536 in
theorem w_c1 : (Jvm.Cond.code ({ cls := "com/example/usher/usher/governance/TokenUsage", name := "sum", desc := "(JJ)J" } : Jvm.MethodName) prog_42_method_5_code (4 : Nat) (Option.some Jvm.ClassFile.FieldType.long)).before args0 about1 = true := code_word (m := ⟨2, 0⟩) (meth := k2m0) (c := k2c0) (by decide +kernel) rfl rfl rfl (by decide +kernel)
def codes1 : List Jvm.Cond := [Jvm.Cond.code x code maxLocals ret, Jvm.Cond.code ({ cls := "com/example/usher/usher/governance/TokenUsage", name := "sum", desc := "(JJ)J" } : Jvm.MethodName) prog_42_method_5_code (4 : Nat) (Option.some Jvm.ClassFile.FieldType.long)]
set_option maxRecDepth 65536 in
theorem codes_eq : words1.filter isCode = codes1 := rfl
theorem w_codes : ∀ c ∈ words1.filter isCode, c.before args0 about1 = true := by
  rw [codes_eq]
  intro c hc
  simp only [codes1, List.mem_cons, List.not_mem_nil, or_false] at hc
  rcases hc with rfl | rfl
  · exact w_c0
  · exact w_c1
set_option maxRecDepth 65536 in
theorem w_t1 : words1.all (fun c => isCode c || c.before args0 about1) = true := by decide +kernel
theorem w_tables : (allAtoms (Jvm.Cond.code x code maxLocals ret :: tables_1)).before args0 about1 = true := by
  rw [allAtoms_all]
  show words1.all (fun c => c.before args0 about1) = true
  refine all_split ?_ w_codes
  rw [w_t1]
set_option maxRecDepth 65536 in
theorem w_case : (Jvm.Cond.and given_1 narrow_1).before args0 about1 = true := by decide +kernel
theorem w_applies : (headSpec (Jvm.Cond.code x code maxLocals ret :: tables_1) room_1).applies x e0.platform about1 = true :=
  (Spec.applies_iff w_frames).mpr ⟨w_running, w_runnable, w_alone, w_named, w_hears, w_ripe, w_room, w_tables⟩
theorem atStart : AtStart classFile x code maxLocals ret World_1 tables_1 room_1 Calls_1 rest_1 Pre_1 launch0 p0 e0 about1 theMethod args0 below0 :=
  ⟨lists_1, trivial, launch0.admits_env _ _ _, launch0.least_env, fairChoices_fair.cas, fairChoices_fair.clock, w_frames, w_args, w_heap, w_applies, trivial, trivial, w_case⟩
end start1
theorem witness_1 : WitnessClaimed_1 := ⟨start1.p0, start1.e0, start1.about1, start1.theMethod, start1.args0, start1.below0, start1.atStart⟩
end Jvm.Pilot.@@N@@
