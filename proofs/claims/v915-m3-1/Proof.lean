import JvmDerived
import JvmDerived.Pilot.@@N@@Statement
import JvmDerived.Pilot.@@N@@Code
set_option linter.unusedVariables false
set_option linter.unusedSimpArgs false

namespace Jvm.Own
open Sem ClassFile Op Lib Jvm.Stand Jvm.Free Jvm.LawKit Jvm.RoadKit
def Go (p : Program) (e : Env) (below : List Frame) (G : State → Outcome → Prop) (σ : State) : Prop := ∃ s₂ o, Steps p.tables e below σ s₂ ∧ s₂.status = .running ∧ Ended s₂ below o ∧ G s₂ o
theorem Go.step {p : Program} {e : Env} {below : List Frame} {G : State → Outcome → Prop} {σ σ' : State} (h : ∀ t, Steps p.tables e below σ' t → Steps p.tables e below σ t) (k : Go p e below G σ') : Go p e below G σ := by
  obtain ⟨s₂, o, h1, h2⟩ := k
  exact ⟨s₂, o, h _ h1, h2⟩
def RetG (s : State) (Q : Option Value → Heap → List Loc → Prop) (cells slots : Nat) (s₂ : State) (o : Outcome) : Prop := ∃ v L, o = .returned v ∧ Q v s₂.heap L ∧ FrameEnd s o s₂ L cells slots
section
variable {p : Program} {l : Launch} {e : Env} {R : Room} {s : State} {m : MethodId} {args : Array Value} {below : List Frame} {meth : Method} {c : Code} {T : State} {locs : List Loc} {k n : Nat} {G : State → Outcome → Prop} {code : ByteArray} {pc : Nat} {Ls : Array Slot} {st : List Value} {Z : State} {a0 : Array Value} {h : Heap} {n0 : Nat}
theorem Go.leave (X : Stand p l e R s m args below meth c T locs k n) {v : Option Value} (hv : meth.sig.returnType = none → v = none) (hlocks : meth.locks = false) {Q : Option Value → Heap → List Loc → Prop} {cells slots : Nat} {σ : State} (eT : T.heap = h) (hq : Q v h locs) (hk : k ≤ cells) (hn : n ≤ slots)
    (st : ∀ fs, (∀ (f : JFrame) (acts : List Action), f.method = m → f.locked = none → f.entered = [] → (doReturn e (T.setTop f) acts v).1 = T.setFrames fs) → Steps p.tables e below σ (T.setFrames fs)) : Go p e below (RetG s Q cells slots) σ := by
  obtain ⟨fs, hr, hrun, hended, hW, hsame⟩ := X.leave (v := v) hv hlocks
  subst eT
  exact ⟨_, _, st fs hr, hrun, hended, _, _, rfl, hq, ⟨_, rfl⟩, hW, hsame.mono hk hn⟩
/-- null or some object -/
def Rf (v : Value) : Prop := v = .null ∨ ∃ a, v = .ref a
theorem Rf.is {v : Value} (r : Rf v) : v.isRef = true := by rcases r with rfl | ⟨a, rfl⟩ <;> rfl
theorem Rf.cat {v : Value} (r : Rf v) : v.category = 1 := by rcases r with rfl | ⟨a, rfl⟩ <;> rfl
theorem Rf.nar {v : Value} (r : Rf v) {c : String} : narrow (.object c) v = v := by rcases r with rfl | ⟨a, rfl⟩ <;> rfl
theorem Rf.fit {v : Value} (r : Rf v) {c : String} : fits (.object c) v = true := by rcases r with rfl | ⟨a, rfl⟩ <;> rfl
theorem Rf.store {v : Value} (r : Rf v) {ls ls' : Array Slot} {i : Nat} {o : Slot} (hold : ls[i]? = some o) (ho : One o) (hl : ls.setIfInBounds i (.val v) = ls') : storeLocals ls i v = some ls' := by rw [XS.store1 hold ho r.cat, hl]
theorem Rf.of {v : Value} (h : v.isRef = true) : Rf v := ref_cases h
theorem selOf {U : State} {as : Array Value} {y : MethodName} {n : Nat} (wi : (Cond.instantiable y.cls n).before as U = true) (wp : (Cond.privateMethod y).before #[] U = true) (wm : (Cond.instanceMethod y).before as U = true) (hy : y.cls ≠ "java/lang/invoke/MethodHandle" ∧ y.cls ≠ "java/lang/invoke/VarHandle") : (Cond.selects y.cls y y).before as U = true := by
  obtain ⟨c, k, h1, h2, -, h4, -⟩ := Cond.instantiable_spec wi
  exact selects_self_of_private h1 h2 (Bool.or_eq_false_iff.mp h4).1 (Cond.privateMethod_at wp) wm hy
theorem g_iload (X : Stand p l e R s m args below meth c T locs k n) (hx : p.tables.exec = Jvm.exec) (hby : c.code = code) {j : Nat} {v : Int32} (hd : decode code pc = .ok (.iload j, 2)) (hl : Ls[j]? = some (.val (.int v))) (K : Go p e below G (T.setTop (mkF m (pc + 2) Ls (.int v :: st)))) : Go p e below G (T.setTop (mkF m pc Ls st)) := Go.step (fun t q => XS.iload X.here hx rfl (hb hby hd) hl q) K
theorem g_iloadN (X : Stand p l e R s m args below meth c T locs k n) (hx : p.tables.exec = Jvm.exec) (hby : c.code = code) {j : Fin 4} {v : Int32} (hd : decode code pc = .ok (.iload_n j, 1)) (hl : Ls[j.val]? = some (.val (.int v))) (K : Go p e below G (T.setTop (mkF m (pc + 1) Ls (.int v :: st)))) : Go p e below G (T.setTop (mkF m pc Ls st)) := Go.step (fun t q => XS.iloadN X.here hx rfl (hb hby hd) hl q) K
theorem g_lload (X : Stand p l e R s m args below meth c T locs k n) (hx : p.tables.exec = Jvm.exec) (hby : c.code = code) {j : Nat} {v : Int64} (hd : decode code pc = .ok (.lload j, 2)) (hl : Ls[j]? = some (.val (.long v))) (K : Go p e below G (T.setTop (mkF m (pc + 2) Ls (.long v :: st)))) : Go p e below G (T.setTop (mkF m pc Ls st)) := Go.step (fun t q => XS.lload X.here hx rfl (hb hby hd) hl q) K
theorem g_lloadN (X : Stand p l e R s m args below meth c T locs k n) (hx : p.tables.exec = Jvm.exec) (hby : c.code = code) {j : Fin 4} {v : Int64} (hd : decode code pc = .ok (.lload_n j, 1)) (hl : Ls[j.val]? = some (.val (.long v))) (K : Go p e below G (T.setTop (mkF m (pc + 1) Ls (.long v :: st)))) : Go p e below G (T.setTop (mkF m pc Ls st)) := Go.step (fun t q => XS.lloadN X.here hx rfl (hb hby hd) hl q) K
theorem g_aload (X : Stand p l e R s m args below meth c T locs k n) (hx : p.tables.exec = Jvm.exec) (hby : c.code = code) {j : Nat} {v : Value} (hd : decode code pc = .ok (.aload j, 2)) (hl : Ls[j]? = some (.val v)) (hv : v.isRef = true) (K : Go p e below G (T.setTop (mkF m (pc + 2) Ls (v :: st)))) : Go p e below G (T.setTop (mkF m pc Ls st)) := Go.step (fun t q => XS.aload X.here hx rfl (hb hby hd) hl hv q) K
theorem g_aloadN (X : Stand p l e R s m args below meth c T locs k n) (hx : p.tables.exec = Jvm.exec) (hby : c.code = code) {j : Fin 4} {v : Value} (hd : decode code pc = .ok (.aload_n j, 1)) (hl : Ls[j.val]? = some (.val v)) (hv : v.isRef = true) (K : Go p e below G (T.setTop (mkF m (pc + 1) Ls (v :: st)))) : Go p e below G (T.setTop (mkF m pc Ls st)) := Go.step (fun t q => XS.aloadN X.here hx rfl (hb hby hd) hl hv q) K
theorem g_istore (X : Stand p l e R s m args below meth c T locs k n) (hx : p.tables.exec = Jvm.exec) (hby : c.code = code) {j : Nat} {x : Int32} {rest : List Value} {l' : Array Slot} (hd : decode code pc = .ok (.istore j, 2)) (hl : storeLocals Ls j (.int x) = some l') (K : Go p e below G (T.setTop (mkF m (pc + 2) l' rest))) : Go p e below G (T.setTop (mkF m pc Ls (.int x :: rest))) := Go.step (fun t q => XS.istore X.here hx rfl (hb hby hd) rfl hl q) K
theorem g_istoreN (X : Stand p l e R s m args below meth c T locs k n) (hx : p.tables.exec = Jvm.exec) (hby : c.code = code) {j : Fin 4} {x : Int32} {rest : List Value} {l' : Array Slot} (hd : decode code pc = .ok (.istore_n j, 1)) (hl : storeLocals Ls j.val (.int x) = some l') (K : Go p e below G (T.setTop (mkF m (pc + 1) l' rest))) : Go p e below G (T.setTop (mkF m pc Ls (.int x :: rest))) := Go.step (fun t q => XS.istoreN X.here hx rfl (hb hby hd) rfl hl q) K
theorem g_lstore (X : Stand p l e R s m args below meth c T locs k n) (hx : p.tables.exec = Jvm.exec) (hby : c.code = code) {j : Nat} {x : Int64} {rest : List Value} {l' : Array Slot} (hd : decode code pc = .ok (.lstore j, 2)) (hl : storeLocals Ls j (.long x) = some l') (K : Go p e below G (T.setTop (mkF m (pc + 2) l' rest))) : Go p e below G (T.setTop (mkF m pc Ls (.long x :: rest))) := Go.step (fun t q => XS.lstore X.here hx rfl (hb hby hd) rfl hl q) K
theorem g_lstoreN (X : Stand p l e R s m args below meth c T locs k n) (hx : p.tables.exec = Jvm.exec) (hby : c.code = code) {j : Fin 4} {x : Int64} {rest : List Value} {l' : Array Slot} (hd : decode code pc = .ok (.lstore_n j, 1)) (hl : storeLocals Ls j.val (.long x) = some l') (K : Go p e below G (T.setTop (mkF m (pc + 1) l' rest))) : Go p e below G (T.setTop (mkF m pc Ls (.long x :: rest))) := Go.step (fun t q => XS.lstoreN X.here hx rfl (hb hby hd) rfl hl q) K
theorem g_astore (X : Stand p l e R s m args below meth c T locs k n) (hx : p.tables.exec = Jvm.exec) (hby : c.code = code) {j : Nat} {x : Value} {rest : List Value} {l' : Array Slot} (hd : decode code pc = .ok (.astore j, 2)) (hv : x.isRef = true) (hl : storeLocals Ls j x = some l') (K : Go p e below G (T.setTop (mkF m (pc + 2) l' rest))) : Go p e below G (T.setTop (mkF m pc Ls (x :: rest))) := Go.step (fun t q => XS.astore X.here hx rfl (hb hby hd) rfl hv hl q) K
theorem g_astoreN (X : Stand p l e R s m args below meth c T locs k n) (hx : p.tables.exec = Jvm.exec) (hby : c.code = code) {j : Fin 4} {x : Value} {rest : List Value} {l' : Array Slot} (hd : decode code pc = .ok (.astore_n j, 1)) (hv : x.isRef = true) (hl : storeLocals Ls j.val x = some l') (K : Go p e below G (T.setTop (mkF m (pc + 1) l' rest))) : Go p e below G (T.setTop (mkF m pc Ls (x :: rest))) := Go.step (fun t q => XS.astoreN X.here hx rfl (hb hby hd) rfl hv hl q) K
theorem g_iconst (X : Stand p l e R s m args below meth c T locs k n) (hx : p.tables.exec = Jvm.exec) (hby : c.code = code) {i : Int} (v : Int32) (hd : decode code pc = .ok (.iconst i, 1)) (hv : Int32.ofInt i = v) (K : Go p e below G (T.setTop (mkF m (pc + 1) Ls (.int v :: st)))) : Go p e below G (T.setTop (mkF m pc Ls st)) := Go.step (fun t q => XS.iconst X.here hx rfl (hb hby hd) (by rw [hv]; exact q)) K
theorem g_bipush (X : Stand p l e R s m args below meth c T locs k n) (hx : p.tables.exec = Jvm.exec) (hby : c.code = code) {i : Int} (v : Int32) (hd : decode code pc = .ok (.bipush i, 2)) (hv : (Int8.ofInt i).toInt32 = v) (K : Go p e below G (T.setTop (mkF m (pc + 2) Ls (.int v :: st)))) : Go p e below G (T.setTop (mkF m pc Ls st)) := Go.step (fun t q => XS.bipush X.here hx rfl (hb hby hd) (by rw [hv]; exact q)) K
theorem g_sipush (X : Stand p l e R s m args below meth c T locs k n) (hx : p.tables.exec = Jvm.exec) (hby : c.code = code) {i : Int} (v : Int32) (hd : decode code pc = .ok (.sipush i, 3)) (hv : (Int16.ofInt i).toInt32 = v) (K : Go p e below G (T.setTop (mkF m (pc + 3) Ls (.int v :: st)))) : Go p e below G (T.setTop (mkF m pc Ls st)) := Go.step (fun t q => XS.sipush X.here hx rfl (hb hby hd) (by rw [hv]; exact q)) K
theorem g_lconst (X : Stand p l e R s m args below meth c T locs k n) (hx : p.tables.exec = Jvm.exec) (hby : c.code = code) {j : Fin 2} (v : Int64) (hd : decode code pc = .ok (.lconst j, 1)) (hv : Int64.ofNat j = v) (K : Go p e below G (T.setTop (mkF m (pc + 1) Ls (.long v :: st)))) : Go p e below G (T.setTop (mkF m pc Ls st)) := Go.step (fun t q => XS.lconst X.here hx rfl (hb hby hd) (by rw [hv]; exact q)) K
theorem g_topI {x : Int32} (y : Int32) (q : x = y) {rest : List Value} (K : Go p e below G (T.setTop (mkF m pc Ls (.int y :: rest)))) : Go p e below G (T.setTop (mkF m pc Ls (.int x :: rest))) := q ▸ K
theorem g_topJ {x : Int64} (y : Int64) (q : x = y) {rest : List Value} (K : Go p e below G (T.setTop (mkF m pc Ls (.long y :: rest)))) : Go p e below G (T.setTop (mkF m pc Ls (.long x :: rest))) := q ▸ K
theorem g_at {ls ls' : Array Slot} {st' : List Value} (pc' : Nat) (h1 : pc = pc') (h2 : ls = ls') (h3 : st = st') (K : Go p e below G (T.setTop (mkF m pc' ls' st'))) : Go p e below G (T.setTop (mkF m pc ls st)) := h1 ▸ h2 ▸ h3 ▸ K
theorem g_aconst_null (X : Stand p l e R s m args below meth c T locs k n) (hx : p.tables.exec = Jvm.exec) (hby : c.code = code)  (hd : decode code pc = .ok (.aconst_null, 1)) (K : Go p e below G (T.setTop (mkF m (pc + 1) Ls (.null :: st)))) : Go p e below G (T.setTop (mkF m pc Ls st)) := Go.step (fun t q => XS.aconstNull X.here hx rfl (hb hby hd)  q) K
theorem g_iadd (X : Stand p l e R s m args below meth c T locs k n) (hx : p.tables.exec = Jvm.exec) (hby : c.code = code) {x y : Int32} {rest : List Value} (hd : decode code pc = .ok (.iadd, 1)) (K : Go p e below G (T.setTop (mkF m (pc + 1) Ls (.int (x + y) :: rest)))) : Go p e below G (T.setTop (mkF m pc Ls (.int y :: .int x :: rest))) := Go.step (fun t q => XS.iadd X.here hx rfl (hb hby hd) rfl q) K
theorem g_ladd (X : Stand p l e R s m args below meth c T locs k n) (hx : p.tables.exec = Jvm.exec) (hby : c.code = code) {x y : Int64} {rest : List Value} (hd : decode code pc = .ok (.ladd, 1)) (K : Go p e below G (T.setTop (mkF m (pc + 1) Ls (.long (x + y) :: rest)))) : Go p e below G (T.setTop (mkF m pc Ls (.long y :: .long x :: rest))) := Go.step (fun t q => XS.ladd X.here hx rfl (hb hby hd) rfl q) K
theorem g_isub (X : Stand p l e R s m args below meth c T locs k n) (hx : p.tables.exec = Jvm.exec) (hby : c.code = code) {x y : Int32} {rest : List Value} (hd : decode code pc = .ok (.isub, 1)) (K : Go p e below G (T.setTop (mkF m (pc + 1) Ls (.int (x - y) :: rest)))) : Go p e below G (T.setTop (mkF m pc Ls (.int y :: .int x :: rest))) := Go.step (fun t q => XS.isub X.here hx rfl (hb hby hd) rfl q) K
theorem g_lsub (X : Stand p l e R s m args below meth c T locs k n) (hx : p.tables.exec = Jvm.exec) (hby : c.code = code) {x y : Int64} {rest : List Value} (hd : decode code pc = .ok (.lsub, 1)) (K : Go p e below G (T.setTop (mkF m (pc + 1) Ls (.long (x - y) :: rest)))) : Go p e below G (T.setTop (mkF m pc Ls (.long y :: .long x :: rest))) := Go.step (fun t q => XS.lsub X.here hx rfl (hb hby hd) rfl q) K
theorem g_imul (X : Stand p l e R s m args below meth c T locs k n) (hx : p.tables.exec = Jvm.exec) (hby : c.code = code) {x y : Int32} {rest : List Value} (hd : decode code pc = .ok (.imul, 1)) (K : Go p e below G (T.setTop (mkF m (pc + 1) Ls (.int (x * y) :: rest)))) : Go p e below G (T.setTop (mkF m pc Ls (.int y :: .int x :: rest))) := Go.step (fun t q => XS.imul X.here hx rfl (hb hby hd) rfl q) K
theorem g_lmul (X : Stand p l e R s m args below meth c T locs k n) (hx : p.tables.exec = Jvm.exec) (hby : c.code = code) {x y : Int64} {rest : List Value} (hd : decode code pc = .ok (.lmul, 1)) (K : Go p e below G (T.setTop (mkF m (pc + 1) Ls (.long (x * y) :: rest)))) : Go p e below G (T.setTop (mkF m pc Ls (.long y :: .long x :: rest))) := Go.step (fun t q => XS.lmul X.here hx rfl (hb hby hd) rfl q) K
theorem g_iand (X : Stand p l e R s m args below meth c T locs k n) (hx : p.tables.exec = Jvm.exec) (hby : c.code = code) {x y : Int32} {rest : List Value} (hd : decode code pc = .ok (.iand, 1)) (K : Go p e below G (T.setTop (mkF m (pc + 1) Ls (.int (x &&& y) :: rest)))) : Go p e below G (T.setTop (mkF m pc Ls (.int y :: .int x :: rest))) := Go.step (fun t q => XS.iand X.here hx rfl (hb hby hd) rfl q) K
theorem g_land (X : Stand p l e R s m args below meth c T locs k n) (hx : p.tables.exec = Jvm.exec) (hby : c.code = code) {x y : Int64} {rest : List Value} (hd : decode code pc = .ok (.land, 1)) (K : Go p e below G (T.setTop (mkF m (pc + 1) Ls (.long (x &&& y) :: rest)))) : Go p e below G (T.setTop (mkF m pc Ls (.long y :: .long x :: rest))) := Go.step (fun t q => XS.land X.here hx rfl (hb hby hd) rfl q) K
theorem g_ior (X : Stand p l e R s m args below meth c T locs k n) (hx : p.tables.exec = Jvm.exec) (hby : c.code = code) {x y : Int32} {rest : List Value} (hd : decode code pc = .ok (.ior, 1)) (K : Go p e below G (T.setTop (mkF m (pc + 1) Ls (.int (x ||| y) :: rest)))) : Go p e below G (T.setTop (mkF m pc Ls (.int y :: .int x :: rest))) := Go.step (fun t q => XS.ior X.here hx rfl (hb hby hd) rfl q) K
theorem g_lor (X : Stand p l e R s m args below meth c T locs k n) (hx : p.tables.exec = Jvm.exec) (hby : c.code = code) {x y : Int64} {rest : List Value} (hd : decode code pc = .ok (.lor, 1)) (K : Go p e below G (T.setTop (mkF m (pc + 1) Ls (.long (x ||| y) :: rest)))) : Go p e below G (T.setTop (mkF m pc Ls (.long y :: .long x :: rest))) := Go.step (fun t q => XS.lor X.here hx rfl (hb hby hd) rfl q) K
theorem g_ixor (X : Stand p l e R s m args below meth c T locs k n) (hx : p.tables.exec = Jvm.exec) (hby : c.code = code) {x y : Int32} {rest : List Value} (hd : decode code pc = .ok (.ixor, 1)) (K : Go p e below G (T.setTop (mkF m (pc + 1) Ls (.int (x ^^^ y) :: rest)))) : Go p e below G (T.setTop (mkF m pc Ls (.int y :: .int x :: rest))) := Go.step (fun t q => XS.ixor X.here hx rfl (hb hby hd) rfl q) K
theorem g_lxor (X : Stand p l e R s m args below meth c T locs k n) (hx : p.tables.exec = Jvm.exec) (hby : c.code = code) {x y : Int64} {rest : List Value} (hd : decode code pc = .ok (.lxor, 1)) (K : Go p e below G (T.setTop (mkF m (pc + 1) Ls (.long (x ^^^ y) :: rest)))) : Go p e below G (T.setTop (mkF m pc Ls (.long y :: .long x :: rest))) := Go.step (fun t q => XS.lxor X.here hx rfl (hb hby hd) rfl q) K
theorem g_ishl (X : Stand p l e R s m args below meth c T locs k n) (hx : p.tables.exec = Jvm.exec) (hby : c.code = code) {x y : Int32} {rest : List Value} (hd : decode code pc = .ok (.ishl, 1)) (K : Go p e below G (T.setTop (mkF m (pc + 1) Ls (.int (x <<< (y &&& 31)) :: rest)))) : Go p e below G (T.setTop (mkF m pc Ls (.int y :: .int x :: rest))) := Go.step (fun t q => XS.ishl X.here hx rfl (hb hby hd) rfl q) K
theorem g_ishr (X : Stand p l e R s m args below meth c T locs k n) (hx : p.tables.exec = Jvm.exec) (hby : c.code = code) {x y : Int32} {rest : List Value} (hd : decode code pc = .ok (.ishr, 1)) (K : Go p e below G (T.setTop (mkF m (pc + 1) Ls (.int (x >>> (y &&& 31)) :: rest)))) : Go p e below G (T.setTop (mkF m pc Ls (.int y :: .int x :: rest))) := Go.step (fun t q => XS.ishr X.here hx rfl (hb hby hd) rfl q) K
theorem g_iushr (X : Stand p l e R s m args below meth c T locs k n) (hx : p.tables.exec = Jvm.exec) (hby : c.code = code) {x y : Int32} {rest : List Value} (hd : decode code pc = .ok (.iushr, 1)) (K : Go p e below G (T.setTop (mkF m (pc + 1) Ls (.int ((x.toUInt32 >>> (y &&& 31).toUInt32).toInt32) :: rest)))) : Go p e below G (T.setTop (mkF m pc Ls (.int y :: .int x :: rest))) := Go.step (fun t q => XS.iushr X.here hx rfl (hb hby hd) rfl q) K
theorem g_lshl (X : Stand p l e R s m args below meth c T locs k n) (hx : p.tables.exec = Jvm.exec) (hby : c.code = code) {x : Int64} {y : Int32} {rest : List Value} (hd : decode code pc = .ok (.lshl, 1)) (K : Go p e below G (T.setTop (mkF m (pc + 1) Ls (.long (x <<< (y &&& 0x3f).toInt64) :: rest)))) : Go p e below G (T.setTop (mkF m pc Ls (.int y :: .long x :: rest))) := Go.step (fun t q => XS.lshl X.here hx rfl (hb hby hd) rfl q) K
theorem g_lshr (X : Stand p l e R s m args below meth c T locs k n) (hx : p.tables.exec = Jvm.exec) (hby : c.code = code) {x : Int64} {y : Int32} {rest : List Value} (hd : decode code pc = .ok (.lshr, 1)) (K : Go p e below G (T.setTop (mkF m (pc + 1) Ls (.long (x >>> (y &&& 0x3f).toInt64) :: rest)))) : Go p e below G (T.setTop (mkF m pc Ls (.int y :: .long x :: rest))) := Go.step (fun t q => XS.lshr X.here hx rfl (hb hby hd) rfl q) K
theorem g_lushr (X : Stand p l e R s m args below meth c T locs k n) (hx : p.tables.exec = Jvm.exec) (hby : c.code = code) {x : Int64} {y : Int32} {rest : List Value} (hd : decode code pc = .ok (.lushr, 1)) (K : Go p e below G (T.setTop (mkF m (pc + 1) Ls (.long ((x.toUInt64 >>> (y &&& 0x3f).toInt64.toUInt64).toInt64) :: rest)))) : Go p e below G (T.setTop (mkF m pc Ls (.int y :: .long x :: rest))) := Go.step (fun t q => XS.lushr X.here hx rfl (hb hby hd) rfl q) K
theorem g_ineg (X : Stand p l e R s m args below meth c T locs k n) (hx : p.tables.exec = Jvm.exec) (hby : c.code = code) {x : Int32} {rest : List Value} (hd : decode code pc = .ok (.ineg, 1)) (K : Go p e below G (T.setTop (mkF m (pc + 1) Ls (.int (-x) :: rest)))) : Go p e below G (T.setTop (mkF m pc Ls (.int x :: rest))) := Go.step (fun t q => XS.ineg X.here hx rfl (hb hby hd) rfl q) K
theorem g_lneg (X : Stand p l e R s m args below meth c T locs k n) (hx : p.tables.exec = Jvm.exec) (hby : c.code = code) {x : Int64} {rest : List Value} (hd : decode code pc = .ok (.lneg, 1)) (K : Go p e below G (T.setTop (mkF m (pc + 1) Ls (.long (-x) :: rest)))) : Go p e below G (T.setTop (mkF m pc Ls (.long x :: rest))) := Go.step (fun t q => XS.lneg X.here hx rfl (hb hby hd) rfl q) K
theorem g_i2l (X : Stand p l e R s m args below meth c T locs k n) (hx : p.tables.exec = Jvm.exec) (hby : c.code = code) {x : Int32} {rest : List Value} (hd : decode code pc = .ok (.i2l, 1)) (K : Go p e below G (T.setTop (mkF m (pc + 1) Ls (.long (x.toInt64) :: rest)))) : Go p e below G (T.setTop (mkF m pc Ls (.int x :: rest))) := Go.step (fun t q => XS.i2l X.here hx rfl (hb hby hd) rfl q) K
theorem g_l2i (X : Stand p l e R s m args below meth c T locs k n) (hx : p.tables.exec = Jvm.exec) (hby : c.code = code) {x : Int64} {rest : List Value} (hd : decode code pc = .ok (.l2i, 1)) (K : Go p e below G (T.setTop (mkF m (pc + 1) Ls (.int (x.toInt32) :: rest)))) : Go p e below G (T.setTop (mkF m pc Ls (.long x :: rest))) := Go.step (fun t q => XS.l2i X.here hx rfl (hb hby hd) rfl q) K
theorem g_i2b (X : Stand p l e R s m args below meth c T locs k n) (hx : p.tables.exec = Jvm.exec) (hby : c.code = code) {x : Int32} {rest : List Value} (hd : decode code pc = .ok (.i2b, 1)) (K : Go p e below G (T.setTop (mkF m (pc + 1) Ls (.int (x.toInt8.toInt32) :: rest)))) : Go p e below G (T.setTop (mkF m pc Ls (.int x :: rest))) := Go.step (fun t q => XS.i2b X.here hx rfl (hb hby hd) rfl q) K
theorem g_i2s (X : Stand p l e R s m args below meth c T locs k n) (hx : p.tables.exec = Jvm.exec) (hby : c.code = code) {x : Int32} {rest : List Value} (hd : decode code pc = .ok (.i2s, 1)) (K : Go p e below G (T.setTop (mkF m (pc + 1) Ls (.int (x.toInt16.toInt32) :: rest)))) : Go p e below G (T.setTop (mkF m pc Ls (.int x :: rest))) := Go.step (fun t q => XS.i2s X.here hx rfl (hb hby hd) rfl q) K
theorem g_i2c (X : Stand p l e R s m args below meth c T locs k n) (hx : p.tables.exec = Jvm.exec) (hby : c.code = code) {x : Int32} {rest : List Value} (hd : decode code pc = .ok (.i2c, 1)) (K : Go p e below G (T.setTop (mkF m (pc + 1) Ls (.int (x.toUInt32.toUInt16.toUInt32.toInt32) :: rest)))) : Go p e below G (T.setTop (mkF m pc Ls (.int x :: rest))) := Go.step (fun t q => XS.i2c X.here hx rfl (hb hby hd) rfl q) K
theorem g_lcmp (X : Stand p l e R s m args below meth c T locs k n) (hx : p.tables.exec = Jvm.exec) (hby : c.code = code) {x y : Int64} {rest : List Value} (hd : decode code pc = .ok (.lcmp, 1)) (K : Go p e below G (T.setTop (mkF m (pc + 1) Ls (.int (lcmpW x y) :: rest)))) : Go p e below G (T.setTop (mkF m pc Ls (.long y :: .long x :: rest))) := Go.step (fun t q => XS.lcmp X.here hx rfl (hb hby hd) rfl q) K
theorem g_idiv (X : Stand p l e R s m args below meth c T locs k n) (hx : p.tables.exec = Jvm.exec) (hby : c.code = code) {x y : Int32} {rest : List Value} (hd : decode code pc = .ok (.idiv, 1)) (hy : y ≠ 0) (K : Go p e below G (T.setTop (mkF m (pc + 1) Ls (.int (x / y) :: rest)))) : Go p e below G (T.setTop (mkF m pc Ls (.int y :: .int x :: rest))) := Go.step (fun t q => XS.idiv X.here hx rfl (hb hby hd) rfl hy q) K
theorem g_irem (X : Stand p l e R s m args below meth c T locs k n) (hx : p.tables.exec = Jvm.exec) (hby : c.code = code) {x y : Int32} {rest : List Value} (hd : decode code pc = .ok (.irem, 1)) (hy : y ≠ 0) (K : Go p e below G (T.setTop (mkF m (pc + 1) Ls (.int (x % y) :: rest)))) : Go p e below G (T.setTop (mkF m pc Ls (.int y :: .int x :: rest))) := Go.step (fun t q => iremM X hx rfl (hb hby hd) rfl hy q) K
theorem g_iinc (X : Stand p l e R s m args below meth c T locs k n) (hx : p.tables.exec = Jvm.exec) (hby : c.code = code) {j : Nat} {cst : Int} {x : Int32} {l' : Array Slot} (v : Int32) (hd : decode code pc = .ok (.iinc j cst, 3)) (hl : Ls[j]? = some (.val (.int x))) (hv : x + Int32.ofInt cst = v) (hl' : storeLocals Ls j (.int v) = some l') (K : Go p e below G (T.setTop (mkF m (pc + 3) l' st))) : Go p e below G (T.setTop (mkF m pc Ls st)) := Go.step (fun t q => XS.iinc X.here hx rfl (hb hby hd) hl (by rw [hv]; exact hl') q) K
theorem g_dup (X : Stand p l e R s m args below meth c T locs k n) (hx : p.tables.exec = Jvm.exec) (hby : c.code = code) {x : Value} {rest : List Value} (hd : decode code pc = .ok (.dup, 1)) (hc : x.category = 1) (K : Go p e below G (T.setTop (mkF m (pc + 1) Ls (x :: x :: rest)))) : Go p e below G (T.setTop (mkF m pc Ls (x :: rest))) := Go.step (fun t q => XS.dup X.here hx rfl (hb hby hd) rfl hc q) K
theorem g_dup_x1 (X : Stand p l e R s m args below meth c T locs k n) (hx : p.tables.exec = Jvm.exec) (hby : c.code = code) {x y : Value} {rest : List Value} (hd : decode code pc = .ok (.dup_x1, 1)) (hc : x.category = 1) (hc2 : y.category = 1) (K : Go p e below G (T.setTop (mkF m (pc + 1) Ls (x :: y :: x :: rest)))) : Go p e below G (T.setTop (mkF m pc Ls (x :: y :: rest))) := Go.step (fun t q => XS.dupX1 X.here hx rfl (hb hby hd) rfl hc hc2 q) K
theorem g_pop (X : Stand p l e R s m args below meth c T locs k n) (hx : p.tables.exec = Jvm.exec) (hby : c.code = code) {x : Value} {rest : List Value} (hd : decode code pc = .ok (.pop, 1)) (hc : x.category = 1) (K : Go p e below G (T.setTop (mkF m (pc + 1) Ls rest))) : Go p e below G (T.setTop (mkF m pc Ls (x :: rest))) := Go.step (fun t q => XS.pop X.here hx rfl (hb hby hd) rfl hc q) K
theorem g_dup2 (X : Stand p l e R s m args below meth c T locs k n) (hx : p.tables.exec = Jvm.exec) (hby : c.code = code) {x y : Value} {rest : List Value} (hd : decode code pc = .ok (.dup2, 1)) (hc : x.category = 1) (hc2 : y.category = 1) (K : Go p e below G (T.setTop (mkF m (pc + 1) Ls (x :: y :: x :: y :: rest)))) : Go p e below G (T.setTop (mkF m pc Ls (x :: y :: rest))) := Go.step (fun t q => XT.dup2 X.here hx rfl (hb hby hd) rfl hc hc2 q) K
theorem g_dup2L (X : Stand p l e R s m args below meth c T locs k n) (hx : p.tables.exec = Jvm.exec) (hby : c.code = code) {x : Int64} {rest : List Value} (hd : decode code pc = .ok (.dup2, 1)) (K : Go p e below G (T.setTop (mkF m (pc + 1) Ls (.long x :: .long x :: rest)))) : Go p e below G (T.setTop (mkF m pc Ls (.long x :: rest))) := Go.step (fun t q => XT.dup2L X.here hx rfl (hb hby hd) rfl q) K
theorem g_pop2J (X : Stand p l e R s m args below meth c T locs k n) (hx : p.tables.exec = Jvm.exec) (hby : c.code = code) {x : Int64} {rest : List Value} (hd : decode code pc = .ok (.pop2, 1)) (K : Go p e below G (T.setTop (mkF m (pc + 1) Ls rest))) : Go p e below G (T.setTop (mkF m pc Ls (.long x :: rest))) := Go.step (fun t q => by
  have hd' := hb hby hd
  show Steps p.tables e below (T.setTop { method := m, pc := pc, locals := Ls, stack := .long x :: rest, locked := none }) t
  jvm_step X.here [X.here.top, hx, hd', Value.category]
  exact q) K
theorem g_goto (X : Stand p l e R s m args below meth c T locs k n) (hx : p.tables.exec = Jvm.exec) (hby : c.code = code) {d : Int} (pc' : Nat) (hd : decode code pc = .ok (.goto d, 3)) (ho : 0 ≤ (pc : Int) + d) (hp : ((pc : Int) + d).toNat = pc') (K : Go p e below G (T.setTop (mkF m pc' Ls st))) : Go p e below G (T.setTop (mkF m pc Ls st)) := Go.step (fun t q => XS.goto X.here hx rfl (pc0 := pc) (pc' := pc') rfl (hb hby hd) ho hp q) K
theorem g_ifY (X : Stand p l e R s m args below meth c T locs k n) (hx : p.tables.exec = Jvm.exec) (hby : c.code = code) {cd : ClassFile.Cond} {x : Int32} {rest : List Value} {d : Int} (pc' : Nat) (hd : decode code pc = .ok (.ifCond cd d, 3)) (hc : if_icmp.holds cd x 0 = true) (ho : 0 ≤ (pc : Int) + d) (hp : ((pc : Int) + d).toNat = pc') (K : Go p e below G (T.setTop (mkF m pc' Ls rest))) : Go p e below G (T.setTop (mkF m pc Ls (.int x :: rest))) := Go.step (fun t q => XS.ifYes X.here hx rfl (pc0 := pc) (pc' := pc') rfl (hb hby hd) rfl ((if0 _ _).trans hc) ho hp q) K
theorem g_ifN (X : Stand p l e R s m args below meth c T locs k n) (hx : p.tables.exec = Jvm.exec) (hby : c.code = code) {cd : ClassFile.Cond} {x : Int32} {rest : List Value} {d : Int} (hd : decode code pc = .ok (.ifCond cd d, 3)) (hc : if_icmp.holds cd x 0 = false) (K : Go p e below G (T.setTop (mkF m (pc + 3) Ls rest))) : Go p e below G (T.setTop (mkF m pc Ls (.int x :: rest))) := Go.step (fun t q => XS.ifNo X.here hx rfl (hb hby hd) rfl ((if0 _ _).trans hc) q) K
theorem g_icY (X : Stand p l e R s m args below meth c T locs k n) (hx : p.tables.exec = Jvm.exec) (hby : c.code = code) {cd : ClassFile.Cond} {x y : Int32} {rest : List Value} {d : Int} (pc' : Nat) (hd : decode code pc = .ok (.if_icmp cd d, 3)) (hc : if_icmp.holds cd x y = true) (ho : 0 ≤ (pc : Int) + d) (hp : ((pc : Int) + d).toNat = pc') (K : Go p e below G (T.setTop (mkF m pc' Ls rest))) : Go p e below G (T.setTop (mkF m pc Ls (.int y :: .int x :: rest))) := Go.step (fun t q => XS.icmpYes X.here hx rfl (pc0 := pc) (pc' := pc') rfl (hb hby hd) rfl hc ho hp q) K
theorem g_icN (X : Stand p l e R s m args below meth c T locs k n) (hx : p.tables.exec = Jvm.exec) (hby : c.code = code) {cd : ClassFile.Cond} {x y : Int32} {rest : List Value} {d : Int} (hd : decode code pc = .ok (.if_icmp cd d, 3)) (hc : if_icmp.holds cd x y = false) (K : Go p e below G (T.setTop (mkF m (pc + 3) Ls rest))) : Go p e below G (T.setTop (mkF m pc Ls (.int y :: .int x :: rest))) := Go.step (fun t q => XS.icmpNo X.here hx rfl (hb hby hd) rfl hc q) K
theorem g_acmp (X : Stand p l e R s m args below meth c T locs k n) (hx : p.tables.exec = Jvm.exec) (hby : c.code = code) {cd : ACond} {x y : Value} (h1 : x.isRef = true) (h2 : y.isRef = true) {rest : List Value} {d : Int} (pc' : Nat) (same : Bool) (hd : decode code pc = .ok (.if_acmp cd d, 3)) (hq : decide (x = y) = same) (ho : 0 ≤ (pc : Int) + d) (hp : pc' = if acV cd same = true then ((pc : Int) + d).toNat else pc + 3) (K : Go p e below G (T.setTop (mkF m pc' Ls rest))) : Go p e below G (T.setTop (mkF m pc Ls (y :: x :: rest))) := Go.step (fun t q => Jvm.RoadKit.acmp (g := mkF m pc Ls (y :: x :: rest)) X hx rfl h1 h2 (pc0 := pc) (pc' := pc') (same := same) rfl (hb hby hd) rfl hq ho hp q) K
theorem g_ifnullY (X : Stand p l e R s m args below meth c T locs k n) (hx : p.tables.exec = Jvm.exec) (hby : c.code = code) {rest : List Value} {d : Int} (pc' : Nat) (hd : decode code pc = .ok (.ifnull d, 3)) (ho : 0 ≤ (pc : Int) + d) (hp : ((pc : Int) + d).toNat = pc') (K : Go p e below G (T.setTop (mkF m pc' Ls rest))) : Go p e below G (T.setTop (mkF m pc Ls (.null :: rest))) := Go.step (fun t q => XS.ifnullYes X.here hx rfl (pc0 := pc) (pc' := pc') rfl (hb hby hd) rfl ho hp q) K
theorem g_ifnullN (X : Stand p l e R s m args below meth c T locs k n) (hx : p.tables.exec = Jvm.exec) (hby : c.code = code) {b : Addr} {rest : List Value} {d : Int} (hd : decode code pc = .ok (.ifnull d, 3)) (K : Go p e below G (T.setTop (mkF m (pc + 3) Ls rest))) : Go p e below G (T.setTop (mkF m pc Ls (.ref b :: rest))) := Go.step (fun t q => XS.ifnullNo X.here hx rfl (hb hby hd) rfl q) K
theorem g_ifnonnullY (X : Stand p l e R s m args below meth c T locs k n) (hx : p.tables.exec = Jvm.exec) (hby : c.code = code) {b : Addr} {rest : List Value} {d : Int} (pc' : Nat) (hd : decode code pc = .ok (.ifnonnull d, 3)) (ho : 0 ≤ (pc : Int) + d) (hp : ((pc : Int) + d).toNat = pc') (K : Go p e below G (T.setTop (mkF m pc' Ls rest))) : Go p e below G (T.setTop (mkF m pc Ls (.ref b :: rest))) := Go.step (fun t q => XS.ifnonnullYes X.here hx rfl (pc0 := pc) (pc' := pc') rfl (hb hby hd) rfl ho hp q) K
theorem g_ifnonnullN (X : Stand p l e R s m args below meth c T locs k n) (hx : p.tables.exec = Jvm.exec) (hby : c.code = code) {rest : List Value} {d : Int} (hd : decode code pc = .ok (.ifnonnull d, 3)) (K : Go p e below G (T.setTop (mkF m (pc + 3) Ls rest))) : Go p e below G (T.setTop (mkF m pc Ls (.null :: rest))) := Go.step (fun t q => XS.ifnonnullNo X.here hx rfl (hb hby hd) rfl q) K
theorem g_ldcI (X : Stand p l e R s m args below meth c T locs k n) (hx : p.tables.exec = Jvm.exec) (hby : c.code = code) (hZ : Z.Warmed39 s.vm) {own : String} (hown : s.vm.findClass own = some m.cls) {index : Nat} {v : Int32} (w : (Cond.constant own index v).before a0 Z = true) (hd : decode code pc = .ok (.ldc index, 2)) (K : Go p e below G (T.setTop (mkF m (pc + 2) Ls (.int v :: st)))) : Go p e below G (T.setTop (mkF m pc Ls st)) := Go.step (fun t q => X.ldcInt hx hown (mvT hZ w) (g := mkF m pc Ls st) rfl (hb hby hd) t q) K
theorem g_ldcwI (X : Stand p l e R s m args below meth c T locs k n) (hx : p.tables.exec = Jvm.exec) (hby : c.code = code) (hZ : Z.Warmed39 s.vm) {own : String} (hown : s.vm.findClass own = some m.cls) {index : Nat} {v : Int32} (w : (Cond.constant own index v).before a0 Z = true) (hd : decode code pc = .ok (.ldc_w index, 3)) (K : Go p e below G (T.setTop (mkF m (pc + 3) Ls (.int v :: st)))) : Go p e below G (T.setTop (mkF m pc Ls st)) := Go.step (fun t q => X.ldcwInt hx hown (mvT hZ w) (g := mkF m pc Ls st) rfl (hb hby hd) t q) K
theorem g_ldc2J (X : Stand p l e R s m args below meth c T locs k n) (hx : p.tables.exec = Jvm.exec) (hby : c.code = code) (hZ : Z.Warmed39 s.vm) {own : String} (hown : s.vm.findClass own = some m.cls) {index : Nat} {v : Int64} (w : (Cond.constantLong own index v).before a0 Z = true) (hd : decode code pc = .ok (.ldc2_w index, 3)) (K : Go p e below G (T.setTop (mkF m (pc + 3) Ls (.long v :: st)))) : Go p e below G (T.setTop (mkF m pc Ls st)) := Go.step (fun t q => X.ldc2Long hx hown (mvT hZ w) (g := mkF m pc Ls st) rfl (hb hby hd) t q) K
theorem g_getF (X : Stand p l e R s m args below meth c T locs k n) (hx : p.tables.exec = Jvm.exec) (hby : c.code = code) (hZ : Z.Warmed39 s.vm) {own : String} (hown : s.vm.findClass own = some m.cls) {R0 O f d host : String} {index : Nat} (w : (Cond.fieldLink own index R0 f d).before a0 Z = true ∨ (Cond.fieldLinkNest own index R0 f d host).before a0 Z = true) (via : Via Z R0 O f d) (eT : T.heap = h) {a : Addr} {v : Value} (F : Fld Z h a O f d v) {rest : List Value} (hd : decode code pc = .ok (.getfield index, 3)) (K : ∀ T', Stand p l e R s m args below meth c T' locs k n → T'.heap = h → Go p e below G (T'.setTop (mkF m (pc + 3) Ls (v :: rest)))) : Go p e below G (T.setTop (mkF m pc Ls (.ref a :: rest))) := by
  obtain ⟨T', X', e', q⟩ := getF X hx hZ hown w via eT F (g := mkF m pc Ls (.ref a :: rest)) rfl rfl (hb hby hd)
  exact Go.step q (K T' X' e')
theorem g_getS (X : Stand p l e R s m args below meth c T locs k n) (hx : p.tables.exec = Jvm.exec) (hby : c.code = code) (hZ : Z.Warmed39 s.vm) {own : String} (hown : s.vm.findClass own = some m.cls) {R0 O f d host : String} {index : Nat} (w : (Cond.fieldLink own index R0 f d).before a0 Z = true ∨ (Cond.fieldLinkNest own index R0 f d host).before a0 Z = true) (via : Via Z R0 O f d) (eT : T.heap = h) {v : Value} (F : Sta Z h O f d v) (hd : decode code pc = .ok (.getstatic index, 3)) (K : ∀ T', Stand p l e R s m args below meth c T' locs k n → T'.heap = h → Go p e below G (T'.setTop (mkF m (pc + 3) Ls (v :: st)))) : Go p e below G (T.setTop (mkF m pc Ls st)) := by
  obtain ⟨T', X', e', q⟩ := getS2 X hx hZ hown w via eT F (g := mkF m pc Ls st) rfl (hb hby hd)
  exact Go.step q (K T' X' e')
theorem g_putF (X : Stand p l e R s m args below meth c T locs k n) (hx : p.tables.exec = Jvm.exec) (hby : c.code = code) (hZ : Z.Warmed39 s.vm) {own : String} (hown : s.vm.findClass own = some m.cls) {R0 O f d host : String} {index : Nat} (w : (Cond.fieldLink own index R0 f d).before a0 Z = true ∨ (Cond.fieldLinkNest own index R0 f d host).before a0 Z = true) (via : Via Z R0 O f d) (eT : T.heap = h) {C : String} {kk : Nat} {a : Addr} {v old : Value} (F : Fld Z h a O f d old) (E : Exa Z h a C) (L : (Cond.lays C O f d).before a0 Z = true ∨ ((Cond.laysFinal C O f d).before a0 Z = true ∧ own = O ∧ meth.name = "<init>")) (wi : (Cond.instantiable C kk).before a0 Z = true) (ty : FieldType) (hty : parseFieldDescriptor d = some ty) (hn : narrow ty v = v) (hf : fits ty v = true) (N : Fr n0 locs) (ga : n0 ≤ a) {rest : List Value} (hd : decode code pc = .ok (.putfield index, 3)) (K : ∀ T' h', Stand p l e R s m args below meth c T' (locs ++ [⟨a, Jvm.RoadKit.slotOf Z O f d⟩]) k n → T'.heap = h' → Wr h h' a (Jvm.RoadKit.slotOf Z O f d) v → Fld Z h' a O f d v → Fr n0 (locs ++ [⟨a, Jvm.RoadKit.slotOf Z O f d⟩]) → Go p e below G (T'.setTop (mkF m (pc + 3) Ls rest))) : Go p e below G (T.setTop (mkF m pc Ls (v :: .ref a :: rest))) := by
  obtain ⟨T', h', X', e', W, q⟩ := putF X hx hZ hown w via eT F E L wi hty hn hf (g := mkF m pc Ls (v :: .ref a :: rest)) rfl rfl (hb hby hd)
  exact Go.step q (K T' h' X' e' W (F.same W) (Fr.snoc X' N ga))
theorem g_putFN (X : Stand p l e R s m args below meth c T locs k n) (hx : p.tables.exec = Jvm.exec) (hby : c.code = code) (hZ : Z.Warmed39 s.vm) {own : String} (hown : s.vm.findClass own = some m.cls) {R0 O f d : String} {index : Nat} (w : (Cond.fieldLink own index R0 f d).before a0 Z = true) (via : Via Z R0 O f d) (eT : T.heap = h) {C : String} {kk : Nat} {a : Addr} {v old : Value} (F : Fld Z h a O f d old) (E : Exa Z h a C) (L : (Cond.lays C O f d).before a0 Z = true ∨ ((Cond.laysFinal C O f d).before a0 Z = true ∧ own = O ∧ meth.name = "<init>")) (wi : (Cond.instantiable C kk).before a0 Z = true) (ty : FieldType) (hty : parseFieldDescriptor d = some ty) (v' : Value) (hn : narrow ty v = v') (hf : fits ty v' = true) (N : Fr n0 locs) (ga : n0 ≤ a) {rest : List Value} (hd : decode code pc = .ok (.putfield index, 3)) (K : ∀ T' h', Stand p l e R s m args below meth c T' (locs ++ [⟨a, Jvm.RoadKit.slotOf Z O f d⟩]) k n → T'.heap = h' → Wr h h' a (Jvm.RoadKit.slotOf Z O f d) v' → Fld Z h' a O f d v' → Fr n0 (locs ++ [⟨a, Jvm.RoadKit.slotOf Z O f d⟩]) → Go p e below G (T'.setTop (mkF m (pc + 3) Ls rest))) : Go p e below G (T.setTop (mkF m pc Ls (v :: .ref a :: rest))) := by
  obtain ⟨T', h', X', e', W, q⟩ := putFN X hx hZ hown w via eT F E L wi hty hn hf (g := mkF m pc Ls (v :: .ref a :: rest)) rfl rfl (hb hby hd)
  exact Go.step q (K T' h' X' e' W (F.same W) (Fr.snoc X' N ga))
theorem g_new (X : Stand p l e R s m args below meth c T locs k n) (hx : p.tables.exec = Jvm.exec) (hby : c.code = code) (hZ : Z.Warmed39 s.vm) {own : String} (hown : s.vm.findClass own = some m.cls) {C : String} {index j : Nat} (w : (Cond.classLink own index C).before a0 Z = true) (wi : (Cond.instantiable C j).before a0 Z = true) (wz : (Cond.initialized C).before a0 Z = true) (eT : T.heap = h) (hc : k + 1 ≤ R.cells) (hl : n + j ≤ R.slots) (hd : decode code pc = .ok (.new index, 3)) (K : ∀ T' h' x, h.size = x → Stand p l e R s m args below meth c T' locs (k + 1) (n + j) → T'.heap = h' → Ext h h' → Exa Z h' x C → (∀ {O nm d : String} {ty : FieldType}, Laid Z a0 C O nm d → parseFieldDescriptor d = some ty → Fld Z h' x O nm d (defaultValue ty)) → Go p e below G (T'.setTop (mkF m (pc + 3) Ls (.ref x :: st)))) : Go p e below G (T.setTop (mkF m pc Ls st)) := by
  obtain ⟨T', h', X', e', E, A, D, -, q⟩ := newO X hx hZ hown w wi wz eT (g := mkF m pc Ls st) rfl (hb hby hd) hc hl
  exact Go.step q (K T' h' _ rfl X' e' E A D)
theorem g_newarray (X : Stand p l e R s m args below meth c T locs k n) (hx : p.tables.exec = Jvm.exec) (hby : c.code = code) (hZ : Z.Warmed39 s.vm) (aty : ArrayType) (ty : FieldType) (dv : Value) (vs : List Value) (hty : newarray.typeOf aty = ty) (hdv : defaultValue ty = dv) (w : (Cond.arrayClass ty).before a0 Z = true) (eT : T.heap = h) {z : Int32} {rest : List Value} (hn : ¬ z < 0) (cap : Nat) (hvs : List.replicate cap dv = vs) (hcap : z.toNatClampNeg ≤ cap) (hbig : cap * 8 ≤ 536870912) (hc : k + 1 ≤ R.cells) (hl : n + cap ≤ R.slots) (hd : decode code pc = .ok (.newarray aty, 2)) (K : ∀ T' h' kc x, h.size = x → Stand p l e R s m args below meth c T' locs (k + 1) (n + cap) → T'.heap = h' → Ext h h' → Arv Z h' x kc ty z vs dv → Go p e below G (T'.setTop (mkF m (pc + 2) Ls (.ref x :: rest)))) : Go p e below G (T.setTop (mkF m pc Ls (.int z :: rest))) := by
  subst hty hdv hvs
  obtain ⟨T', h', kc, X', e', E, A, q⟩ := newP X hx hZ w eT (g := mkF m pc Ls (.int z :: rest)) rfl (hb hby hd) rfl hn (cap := cap) hcap hbig hc hl
  exact Go.step q (K T' h' kc _ rfl X' e' E ((Arv.new A hn).pad (pad_rep [] _ cap)))
theorem g_iastore (X : Stand p l e R s m args below meth c T locs k n) (hx : p.tables.exec = Jvm.exec) (hby : c.code = code) (hZ : Z.Warmed39 s.vm) (eT : T.heap = h) {a : Addr} {kc : ClassId} {z : Int32} {vs : List Value} {dv : Value} (V : Arv Z h a kc .int z vs dv) {j : Int32} {x : Int32} (i : Nat) (vs' : List Value) (hvs : vs.set i (.int x) = vs') (hj : ¬ j < 0 ∧ j < z) (hi : j.toNatClampNeg = i) (hlen : i < vs.length) (N : Fr n0 locs) (ga : n0 ≤ a) {rest : List Value} (hd : decode code pc = .ok (.iastore, 1)) (K : ∀ T' h', Stand p l e R s m args below meth c T' (locs ++ [⟨a, j.toNatClampNeg⟩]) k n → T'.heap = h' → Wr h h' a j.toNatClampNeg (.int x) → Arv Z h' a kc .int z vs' dv → Fr n0 (locs ++ [⟨a, j.toNatClampNeg⟩]) → Go p e below G (T'.setTop (mkF m (pc + 1) Ls rest))) : Go p e below G (T.setTop (mkF m pc Ls (.int x :: .int j :: .ref a :: rest))) := by
  subst hvs
  obtain ⟨cl, Ar, q1, S, M, H, F⟩ := V
  obtain ⟨T', h', X', e', W, q⟩ := stI X hx hZ eT Ar (j := j) (inb_of S hj) (g := mkF m pc Ls (.int x :: .int j :: .ref a :: rest)) rfl rfl (hb hby hd)
  exact Go.step q (K T' h' X' e' W (Arv.set Ar q1 S M H F rfl W i hi hlen) (Fr.snoc X' N ga))
theorem g_castore (X : Stand p l e R s m args below meth c T locs k n) (hx : p.tables.exec = Jvm.exec) (hby : c.code = code) (hZ : Z.Warmed39 s.vm) (eT : T.heap = h) {a : Addr} {kc : ClassId} {z : Int32} {vs : List Value} {dv : Value} (V : Arv Z h a kc .char z vs dv) {j : Int32} {x : Int32} (i : Nat) (vs' : List Value) (hvs : vs.set i (.int (nar .char x)) = vs') (hj : ¬ j < 0 ∧ j < z) (hi : j.toNatClampNeg = i) (hlen : i < vs.length) (N : Fr n0 locs) (ga : n0 ≤ a) {rest : List Value} (hd : decode code pc = .ok (.castore, 1)) (K : ∀ T' h', Stand p l e R s m args below meth c T' (locs ++ [⟨a, j.toNatClampNeg⟩]) k n → T'.heap = h' → Wr h h' a j.toNatClampNeg (.int (nar .char x)) → Arv Z h' a kc .char z vs' dv → Fr n0 (locs ++ [⟨a, j.toNatClampNeg⟩]) → Go p e below G (T'.setTop (mkF m (pc + 1) Ls rest))) : Go p e below G (T.setTop (mkF m pc Ls (.int x :: .int j :: .ref a :: rest))) := by
  subst hvs
  obtain ⟨cl, Ar, q1, S, M, H, F⟩ := V
  obtain ⟨T', h', X', e', W, q⟩ := stC X hx hZ eT Ar (j := j) (inb_of S hj) (g := mkF m pc Ls (.int x :: .int j :: .ref a :: rest)) rfl rfl (hb hby hd)
  exact Go.step q (K T' h' X' e' W (Arv.set Ar q1 S M H F (fits_nar_char _) W i hi hlen) (Fr.snoc X' N ga))
theorem g_sastore (X : Stand p l e R s m args below meth c T locs k n) (hx : p.tables.exec = Jvm.exec) (hby : c.code = code) (hZ : Z.Warmed39 s.vm) (eT : T.heap = h) {a : Addr} {kc : ClassId} {z : Int32} {vs : List Value} {dv : Value} (V : Arv Z h a kc .short z vs dv) {j : Int32} {x : Int32} (i : Nat) (vs' : List Value) (hvs : vs.set i (.int (nar .short x)) = vs') (hj : ¬ j < 0 ∧ j < z) (hi : j.toNatClampNeg = i) (hlen : i < vs.length) (N : Fr n0 locs) (ga : n0 ≤ a) {rest : List Value} (hd : decode code pc = .ok (.sastore, 1)) (K : ∀ T' h', Stand p l e R s m args below meth c T' (locs ++ [⟨a, j.toNatClampNeg⟩]) k n → T'.heap = h' → Wr h h' a j.toNatClampNeg (.int (nar .short x)) → Arv Z h' a kc .short z vs' dv → Fr n0 (locs ++ [⟨a, j.toNatClampNeg⟩]) → Go p e below G (T'.setTop (mkF m (pc + 1) Ls rest))) : Go p e below G (T.setTop (mkF m pc Ls (.int x :: .int j :: .ref a :: rest))) := by
  subst hvs
  obtain ⟨cl, Ar, q1, S, M, H, F⟩ := V
  obtain ⟨T', h', X', e', W, q⟩ := stS X hx hZ eT Ar (j := j) (inb_of S hj) (g := mkF m pc Ls (.int x :: .int j :: .ref a :: rest)) rfl rfl (hb hby hd)
  exact Go.step q (K T' h' X' e' W (Arv.set Ar q1 S M H F (fits_nar_short _) W i hi hlen) (Fr.snoc X' N ga))
theorem g_bastore (X : Stand p l e R s m args below meth c T locs k n) (hx : p.tables.exec = Jvm.exec) (hby : c.code = code) (hZ : Z.Warmed39 s.vm) (eT : T.heap = h) {a : Addr} {kc : ClassId} {z : Int32} {vs : List Value} {dv : Value} (V : Arv Z h a kc .byte z vs dv) {j : Int32} {x : Int32} (i : Nat) (vs' : List Value) (hvs : vs.set i (.int (nar .byte x)) = vs') (hj : ¬ j < 0 ∧ j < z) (hi : j.toNatClampNeg = i) (hlen : i < vs.length) (N : Fr n0 locs) (ga : n0 ≤ a) {rest : List Value} (hd : decode code pc = .ok (.bastore, 1)) (K : ∀ T' h', Stand p l e R s m args below meth c T' (locs ++ [⟨a, j.toNatClampNeg⟩]) k n → T'.heap = h' → Wr h h' a j.toNatClampNeg (.int (nar .byte x)) → Arv Z h' a kc .byte z vs' dv → Fr n0 (locs ++ [⟨a, j.toNatClampNeg⟩]) → Go p e below G (T'.setTop (mkF m (pc + 1) Ls rest))) : Go p e below G (T.setTop (mkF m pc Ls (.int x :: .int j :: .ref a :: rest))) := by
  subst hvs
  obtain ⟨cl, Ar, q1, S, M, H, F⟩ := V
  obtain ⟨T', h', X', e', W, q⟩ := stB X hx hZ eT Ar (j := j) (inb_of S hj) (g := mkF m pc Ls (.int x :: .int j :: .ref a :: rest)) rfl rfl (hb hby hd)
  exact Go.step q (K T' h' X' e' W (Arv.set Ar q1 S M H F (fits_nar_byte _) W i hi hlen) (Fr.snoc X' N ga))
theorem g_lastore (X : Stand p l e R s m args below meth c T locs k n) (hx : p.tables.exec = Jvm.exec) (hby : c.code = code) (hZ : Z.Warmed39 s.vm) (eT : T.heap = h) {a : Addr} {kc : ClassId} {z : Int32} {vs : List Value} {dv : Value} (V : Arv Z h a kc .long z vs dv) {j : Int32} {x : Int64} (i : Nat) (vs' : List Value) (hvs : vs.set i (.long x) = vs') (hj : ¬ j < 0 ∧ j < z) (hi : j.toNatClampNeg = i) (hlen : i < vs.length) (N : Fr n0 locs) (ga : n0 ≤ a) {rest : List Value} (hd : decode code pc = .ok (.lastore, 1)) (K : ∀ T' h', Stand p l e R s m args below meth c T' (locs ++ [⟨a, j.toNatClampNeg⟩]) k n → T'.heap = h' → Wr h h' a j.toNatClampNeg (.long x) → Arv Z h' a kc .long z vs' dv → Fr n0 (locs ++ [⟨a, j.toNatClampNeg⟩]) → Go p e below G (T'.setTop (mkF m (pc + 1) Ls rest))) : Go p e below G (T.setTop (mkF m pc Ls (.long x :: .int j :: .ref a :: rest))) := by
  subst hvs
  obtain ⟨cl, Ar, q1, S, M, H, F⟩ := V
  obtain ⟨T', h', X', e', W, q⟩ := stJ X hx hZ eT Ar (j := j) (inb_of S hj) (g := mkF m pc Ls (.long x :: .int j :: .ref a :: rest)) rfl rfl (hb hby hd)
  exact Go.step q (K T' h' X' e' W (Arv.set Ar q1 S M H F rfl W i hi hlen) (Fr.snoc X' N ga))
theorem g_iaload (X : Stand p l e R s m args below meth c T locs k n) (hx : p.tables.exec = Jvm.exec) (hby : c.code = code) (hZ : Z.Warmed39 s.vm) (eT : T.heap = h) {a : Addr} {kc : ClassId} {z : Int32} {vs : List Value} {dv : Value} (V : Arv Z h a kc .int z vs dv) {j : Int32} (v : Value) (hj : ¬ j < 0 ∧ j < z) (hv : vs.getD j.toNatClampNeg dv = v) {rest : List Value} (hd : decode code pc = .ok (.iaload, 1)) (K : Go p e below G (T.setTop (mkF m (pc + 1) Ls (v :: rest)))) : Go p e below G (T.setTop (mkF m pc Ls (.int j :: .ref a :: rest))) := by
  obtain ⟨cl, Ar, q1, S, M, H, F⟩ := V
  have hin := inb_of S hj
  exact Go.step (fun t q => X.iaload hx (j := j) (v := v) (by rw [eT]; exact Ar.1) (State.isArrayOf_alike hZ.alike Ar.2.1) Ar.2.2 hin (H.at hin hv) (g := mkF m pc Ls (.int j :: .ref a :: rest)) rfl rfl (hb hby hd) t q) K
theorem g_caload (X : Stand p l e R s m args below meth c T locs k n) (hx : p.tables.exec = Jvm.exec) (hby : c.code = code) (hZ : Z.Warmed39 s.vm) (eT : T.heap = h) {a : Addr} {kc : ClassId} {z : Int32} {vs : List Value} {dv : Value} (V : Arv Z h a kc .char z vs dv) {j : Int32} (v : Value) (hj : ¬ j < 0 ∧ j < z) (hv : vs.getD j.toNatClampNeg dv = v) {rest : List Value} (hd : decode code pc = .ok (.caload, 1)) (K : Go p e below G (T.setTop (mkF m (pc + 1) Ls (v :: rest)))) : Go p e below G (T.setTop (mkF m pc Ls (.int j :: .ref a :: rest))) := by
  obtain ⟨cl, Ar, q1, S, M, H, F⟩ := V
  have hin := inb_of S hj
  exact Go.step (fun t q => X.caload hx (j := j) (v := v) (by rw [eT]; exact Ar.1) (State.isArrayOf_alike hZ.alike Ar.2.1) Ar.2.2 hin (H.at hin hv) (g := mkF m pc Ls (.int j :: .ref a :: rest)) rfl rfl (hb hby hd) t q) K
theorem g_saload (X : Stand p l e R s m args below meth c T locs k n) (hx : p.tables.exec = Jvm.exec) (hby : c.code = code) (hZ : Z.Warmed39 s.vm) (eT : T.heap = h) {a : Addr} {kc : ClassId} {z : Int32} {vs : List Value} {dv : Value} (V : Arv Z h a kc .short z vs dv) {j : Int32} (v : Value) (hj : ¬ j < 0 ∧ j < z) (hv : vs.getD j.toNatClampNeg dv = v) {rest : List Value} (hd : decode code pc = .ok (.saload, 1)) (K : Go p e below G (T.setTop (mkF m (pc + 1) Ls (v :: rest)))) : Go p e below G (T.setTop (mkF m pc Ls (.int j :: .ref a :: rest))) := by
  obtain ⟨cl, Ar, q1, S, M, H, F⟩ := V
  have hin := inb_of S hj
  exact Go.step (fun t q => X.saload hx (j := j) (v := v) (by rw [eT]; exact Ar.1) (State.isArrayOf_alike hZ.alike Ar.2.1) Ar.2.2 hin (H.at hin hv) (g := mkF m pc Ls (.int j :: .ref a :: rest)) rfl rfl (hb hby hd) t q) K
theorem g_baload (X : Stand p l e R s m args below meth c T locs k n) (hx : p.tables.exec = Jvm.exec) (hby : c.code = code) (hZ : Z.Warmed39 s.vm) (eT : T.heap = h) {a : Addr} {kc : ClassId} {z : Int32} {vs : List Value} {dv : Value} (V : Arv Z h a kc .byte z vs dv) {j : Int32} (v : Value) (hj : ¬ j < 0 ∧ j < z) (hv : vs.getD j.toNatClampNeg dv = v) {rest : List Value} (hd : decode code pc = .ok (.baload, 1)) (K : Go p e below G (T.setTop (mkF m (pc + 1) Ls (v :: rest)))) : Go p e below G (T.setTop (mkF m pc Ls (.int j :: .ref a :: rest))) := by
  obtain ⟨cl, Ar, q1, S, M, H, F⟩ := V
  have hin := inb_of S hj
  exact Go.step (fun t q => X.baloadBytes hx (j := j) (v := v) (by rw [eT]; exact Ar.1) (State.isArrayOf_alike hZ.alike Ar.2.1) Ar.2.2 hin (H.at hin hv) (g := mkF m pc Ls (.int j :: .ref a :: rest)) rfl rfl (hb hby hd) t q) K
theorem g_laload (X : Stand p l e R s m args below meth c T locs k n) (hx : p.tables.exec = Jvm.exec) (hby : c.code = code) (hZ : Z.Warmed39 s.vm) (eT : T.heap = h) {a : Addr} {kc : ClassId} {z : Int32} {vs : List Value} {dv : Value} (V : Arv Z h a kc .long z vs dv) {j : Int32} (v : Value) (hj : ¬ j < 0 ∧ j < z) (hv : vs.getD j.toNatClampNeg dv = v) {rest : List Value} (hd : decode code pc = .ok (.laload, 1)) (K : Go p e below G (T.setTop (mkF m (pc + 1) Ls (v :: rest)))) : Go p e below G (T.setTop (mkF m pc Ls (.int j :: .ref a :: rest))) := by
  obtain ⟨cl, Ar, q1, S, M, H, F⟩ := V
  have hin := inb_of S hj
  exact Go.step (fun t q => X.laload hx (j := j) (v := v) (by rw [eT]; exact Ar.1) (State.isArrayOf_alike hZ.alike Ar.2.1) Ar.2.2 hin (H.at hin hv) (g := mkF m pc Ls (.int j :: .ref a :: rest)) rfl rfl (hb hby hd) t q) K
theorem g_aaload (X : Stand p l e R s m args below meth c T locs k n) (hx : p.tables.exec = Jvm.exec) (hby : c.code = code) (hZ : Z.Warmed39 s.vm) (eT : T.heap = h) {a : Addr} {kc : ClassId} {ty : FieldType} {z : Int32} {vs : List Value} {dv : Value} (V : Arv Z h a kc ty z vs dv) (hty : ty.isReference = true) {j : Int32} (v : Value) (hj : ¬ j < 0 ∧ j < z) (hv : vs.getD j.toNatClampNeg dv = v) {rest : List Value} (hd : decode code pc = .ok (.aaload, 1)) (K : Go p e below G (T.setTop (mkF m (pc + 1) Ls (v :: rest)))) : Go p e below G (T.setTop (mkF m pc Ls (.int j :: .ref a :: rest))) := by
  obtain ⟨cl, Ar, q1, S, M, H, F⟩ := V
  have hin := inb_of S hj
  exact Go.step (fun t q => X.aaload hx (j := j) (v := v) (by rw [eT]; exact Ar.1) (State.isArrayOf_alike hZ.alike Ar.2.1) hty Ar.2.2 hin (H.at hin hv) (g := mkF m pc Ls (.int j :: .ref a :: rest)) rfl rfl (hb hby hd) t q) K
theorem g_arraylength (X : Stand p l e R s m args below meth c T locs k n) (hx : p.tables.exec = Jvm.exec) (hby : c.code = code) (hZ : Z.Warmed39 s.vm) (eT : T.heap = h) {a : Addr} {kc : ClassId} {ty : FieldType} {z : Int32} {vs : List Value} {dv : Value} (V : Arv Z h a kc ty z vs dv) {rest : List Value} (hd : decode code pc = .ok (.arraylength, 1)) (K : Go p e below G (T.setTop (mkF m (pc + 1) Ls (.int z :: rest)))) : Go p e below G (T.setTop (mkF m pc Ls (.ref a :: rest))) := by
  obtain ⟨cl, Ar, q1, S, M, H, F⟩ := V
  refine Go.step (fun t q => X.arraylength hx (by rw [eT]; exact Ar.1) (State.isArrayOf_alike hZ.alike Ar.2.1) (g := mkF m pc Ls (.ref a :: rest)) rfl rfl (hb hby hd) t q) ?_
  rw [len_of S M]
  exact K
theorem g_checkcast (X : Stand p l e R s m args below meth c T locs k n) (hx : p.tables.exec = Jvm.exec) (hby : c.code = code) (hZ : Z.Warmed39 s.vm) {own : String} (hown : s.vm.findClass own = some m.cls) {C : String} {index : Nat} (w : (Cond.classLink own index C).before a0 Z = true) (eT : T.heap = h) {a : Addr} (I : Ins Z h a C true) {rest : List Value} (hd : decode code pc = .ok (.checkcast index, 3)) (K : ∀ T', Stand p l e R s m args below meth c T' locs k n → T'.heap = h → Go p e below G (T'.setTop (mkF m (pc + 3) Ls (.ref a :: rest)))) : Go p e below G (T.setTop (mkF m pc Ls (.ref a :: rest))) := by
  obtain ⟨T', X', e', q⟩ := castY X hx hZ hown w eT I (g := mkF m pc Ls (.ref a :: rest)) rfl rfl (hb hby hd)
  exact Go.step q (K T' X' e')
theorem g_instanceof (X : Stand p l e R s m args below meth c T locs k n) (hx : p.tables.exec = Jvm.exec) (hby : c.code = code) (hZ : Z.Warmed39 s.vm) {own : String} (hown : s.vm.findClass own = some m.cls) {C : String} {index : Nat} (w : (Cond.classLink own index C).before a0 Z = true) (eT : T.heap = h) {a : Addr} (I : Ins Z h a C true) {rest : List Value} (hd : decode code pc = .ok (.instanceof index, 3)) (K : ∀ T', Stand p l e R s m args below meth c T' locs k n → T'.heap = h → Go p e below G (T'.setTop (mkF m (pc + 3) Ls (.int 1 :: rest)))) : Go p e below G (T.setTop (mkF m pc Ls (.ref a :: rest))) := by
  obtain ⟨T', X', e', q⟩ := instY X hx hZ hown w eT I (g := mkF m pc Ls (.ref a :: rest)) rfl rfl (hb hby hd)
  exact Go.step q (K T' X' e')
theorem g_instNo (X : Stand p l e R s m args below meth c T locs k n) (hx : p.tables.exec = Jvm.exec) (hby : c.code = code) (hZ : Z.Warmed39 s.vm) {own : String} (hown : s.vm.findClass own = some m.cls) {C K : String} {index : Nat} (w : (Cond.classLink own index K).before a0 Z = true) (eT : T.heap = h) {a : Addr} (E : Exa Z h a C) (F : ∃ c t, Z.vm.findClass C = some c ∧ Z.vm.findClass K = some t ∧ Z.vm.assignable c t = false) {rest : List Value} (hd : decode code pc = .ok (.instanceof index, 3)) (K' : ∀ T', Stand p l e R s m args below meth c T' locs k n → T'.heap = h → Go p e below G (T'.setTop (mkF m (pc + 3) Ls (.int 0 :: rest)))) : Go p e below G (T.setTop (mkF m pc Ls (.ref a :: rest))) := by
  obtain ⟨T', X', e', q⟩ := instNo X hx hZ hown w eT E F (g := mkF m pc Ls (.ref a :: rest)) rfl rfl (hb hby hd)
  exact Go.step q (K' T' X' e')
theorem g_instanceofNull (X : Stand p l e R s m args below meth c T locs k n) (hx : p.tables.exec = Jvm.exec) (hby : c.code = code) {index : Nat} {rest : List Value} (hd : decode code pc = .ok (.instanceof index, 3)) (K : Go p e below G (T.setTop (mkF m (pc + 3) Ls (.int 0 :: rest)))) : Go p e below G (T.setTop (mkF m pc Ls (.null :: rest))) := Go.step (fun t q => X.instanceofNull hx (g := mkF m pc Ls (.null :: rest)) rfl rfl (hb hby hd) t q) K
theorem g_checkcastNull (X : Stand p l e R s m args below meth c T locs k n) (hx : p.tables.exec = Jvm.exec) (hby : c.code = code) {index : Nat} {rest : List Value} (hd : decode code pc = .ok (.checkcast index, 3)) (K : Go p e below G (T.setTop (mkF m (pc + 3) Ls (.null :: rest)))) : Go p e below G (T.setTop (mkF m pc Ls (.null :: rest))) := Go.step (fun t q => X.checkcastNull hx (g := mkF m pc Ls (.null :: rest)) rfl rfl (hb hby hd) t q) K
theorem g_initO (X : Stand p l e R s m args below meth c T locs k n) (hx : p.tables.exec = Jvm.exec) (hby : c.code = code) (hZ : Z.Warmed39 s.vm) {own : String} (hown : s.vm.findClass own = some m.cls) {idx : Nat} (w1 : (Cond.methodLink own idx Lib.objectInit).before a0 Z = true) (w2 : (Cond.instanceMethod Lib.objectInit).before a0 Z = true) (w3 : (Cond.code Lib.objectInit ⟨#[0xb1]⟩ 1 none).before a0 Z = true) (eT : T.heap = h) (hsize : Ls.size = c.maxLocals) {a : Addr} {rest : List Value} (hf : 1 ≤ R.frames) (hl : (rest.map fun v => v.category).sum + 12 ≤ R.locals) (hd : decode code pc = .ok (.invokespecial idx, 3)) (K : ∀ T', Stand p l e R s m args below meth c T' locs k n → T'.heap = h → Go p e below G (T'.setTop (mkF m (pc + 3) Ls rest))) : Go p e below G (T.setTop (mkF m pc Ls (.ref a :: rest))) := by
  obtain ⟨T', X', e', q⟩ := initO X hx hZ hown w1 w2 w3 eT (g := mkF m pc Ls (.ref a :: rest)) rfl hsize rfl (hb hby hd) hf (W := (rest.map fun v => v.category).sum) (by show 2 * 0 + _ ≤ _; omega) hl
  exact Go.step q (K T' X' e')
theorem g_static (X : Stand p l e R s m args below meth c T locs k n) (hx : p.tables.exec = Jvm.exec) (hby : c.code = code) (hZ : Z.Warmed39 s.vm) {own : String} (hown : s.vm.findClass own = some m.cls) {index : Nat} {y : MethodName} {bytes : ByteArray} {maxL : Nat} {ret : Option FieldType} {rm : Room} {as' : Array Value} {Q : Option Value → Heap → List Loc → Prop} (hM : MetFree l y (head1 [Cond.code y bytes maxL ret] rm) (fun a U => a = as' ∧ Z.Warmed39 U.vm ∧ U.heap = h) (fun _ _ _ _ _ => True) (fun _ U o U' => RetG U Q rm.cells rm.slots U' o)) (wl : (Cond.methodLink own index y).before a0 Z = true) (ws : (Cond.static y).before a0 Z = true) (wz : (Cond.initialized y.cls).before a0 Z = true) (wc : (Cond.code y bytes maxL ret).before a0 Z = true) (hy : y.cls ≠ "java/lang/invoke/MethodHandle" ∧ y.cls ≠ "java/lang/invoke/VarHandle") (eT : T.heap = h) (hsize : Ls.size = c.maxLocals) (argsL : List Value) {rest : List Value} (hlen : ∀ sig, parseMethodDescriptor y.desc = some sig → argsL.length = sig.parameters.length) (has : argsL.toArray = as') (hst : st = argsL.reverse ++ rest) (hf : rm.frames + 1 ≤ R.frames) (hl : (rest.map fun v => v.category).sum + (maxL + 11) + rm.locals ≤ R.locals) (hc : k + rm.cells ≤ R.cells) (hs : n + rm.slots ≤ R.slots) (hd : decode code pc = .ok (.invokestatic index, 3)) (K : ∀ v T' L, Stand p l e R s m args below meth c T' (locs ++ L) (k + rm.cells) (n + rm.slots) → Q v T'.heap L → Go p e below G (T'.setTop (mkF m (pc + 3) Ls (v.toList ++ rest)))) : Go p e below G (T.setTop (mkF m pc Ls st)) := by
  obtain ⟨v, _, ⟨T', L', k', n'⟩, -, X', ⟨L, hq, l1, l2, l3⟩, q⟩ := Jvm.LawKit.callS X hx (y := y) hown (mvT hZ wl) (mvT hZ ws) (mvT hZ wz) (mvT hZ wc) hy (backOf (W := (rest.map fun v => v.category).sum) hM hZ wc wz hf hl) (g := mkF m pc Ls st) rfl hsize (argsL := argsL) (rest := rest) hlen hst (by show 2 * 0 + _ ≤ _; omega) (hb hby hd) (fun _ _ => ⟨has, eT, hc, hs⟩)
  dsimp only [Pt.U, Pt.locs, Pt.cells, Pt.slots] at X' l1 l2 l3 q hq
  subst l1 l2 l3
  exact Go.step q (K v T' L X' hq)
theorem g_special (X : Stand p l e R s m args below meth c T locs k n) (hx : p.tables.exec = Jvm.exec) (hby : c.code = code) (hZ : Z.Warmed39 s.vm) {own : String} (hown : s.vm.findClass own = some m.cls) {index : Nat} {y : MethodName} {bytes : ByteArray} {maxL : Nat} {ret : Option FieldType} {rm : Room} {as' : Array Value} {Q : Option Value → Heap → List Loc → Prop} (hM : MetFree l y (head1 [Cond.code y bytes maxL ret] rm) (fun a U => a = as' ∧ Z.Warmed39 U.vm ∧ U.heap = h) (fun _ _ _ _ _ => True) (fun _ U o U' => RetG U Q rm.cells rm.slots U' o)) (hy1 : y.name = "<init>") (hret : ret = none) (wl : (Cond.methodLink own index y).before a0 Z = true) (ws : (Cond.instanceMethod y).before a0 Z = true) (wz : (Cond.initialized y.cls).before a0 Z = true) (wc : (Cond.code y bytes maxL ret).before a0 Z = true) (hy : y.cls ≠ "java/lang/invoke/MethodHandle" ∧ y.cls ≠ "java/lang/invoke/VarHandle") (eT : T.heap = h) (hsize : Ls.size = c.maxLocals) {a : Addr} (argsL : List Value) {rest : List Value} (hlen : ∀ sig, parseMethodDescriptor y.desc = some sig → argsL.length = sig.parameters.length) (has : (.ref a :: argsL).toArray = as') (hst : st = argsL.reverse ++ .ref a :: rest) (hf : rm.frames + 1 ≤ R.frames) (hl : (rest.map fun v => v.category).sum + (maxL + 11) + rm.locals ≤ R.locals) (hc : k + rm.cells ≤ R.cells) (hs : n + rm.slots ≤ R.slots) (hd : decode code pc = .ok (.invokespecial index, 3)) (K : ∀ v T' L, Stand p l e R s m args below meth c T' (locs ++ L) (k + rm.cells) (n + rm.slots) → Q v T'.heap L → Go p e below G (T'.setTop (mkF m (pc + 3) Ls (v.toList ++ rest)))) : Go p e below G (T.setTop (mkF m pc Ls st)) := by
  subst hret
  obtain ⟨v, _, ⟨T', L', k', n'⟩, -, X', ⟨L, hq, l1, l2, l3⟩, q⟩ := X.specialBack hx (y := y) hy1 hown (mvT hZ wl) (mvT hZ ws) (mvT hZ wc) hy (backOf (W := (rest.map fun v => v.category).sum) hM hZ wc wz hf hl) (g := mkF m pc Ls st) rfl hsize (Steps.refl _) (a := a) (argsL := argsL) (rest := rest) hlen hst (by show 2 * 0 + _ ≤ _; omega) (hb hby hd) (fun _ _ => ⟨has, eT, hc, hs⟩)
  dsimp only [Pt.U, Pt.locs, Pt.cells, Pt.slots] at X' l1 l2 l3 q hq
  subst l1 l2 l3
  exact Go.step (fun t r => q.trans r) (K v T' L X' hq)
theorem g_virtual (X : Stand p l e R s m args below meth c T locs k n) (hx : p.tables.exec = Jvm.exec) (hby : c.code = code) (hZ : Z.Warmed39 s.vm) {own : String} (hown : s.vm.findClass own = some m.cls) {C : String} {index : Nat} {z : MethodName} {y : MethodName} {bytes : ByteArray} {maxL : Nat} {ret : Option FieldType} {rm : Room} {as' : Array Value} {Q : Option Value → Heap → List Loc → Prop} (hM : MetFree l y (head1 [Cond.code y bytes maxL ret] rm) (fun a U => a = as' ∧ Z.Warmed39 U.vm ∧ U.heap = h) (fun _ _ _ _ _ => True) (fun _ U o U' => RetG U Q rm.cells rm.slots U' o)) (wl : (Cond.methodLink own index z).before a0 Z = true) (wd : (Cond.declares z).before a0 Z = true) (hnf : NotFace s z) (wsel : (Cond.selects C z y).before a0 Z = true) (ws : (Cond.instanceMethod y).before a0 Z = true) (wz : (Cond.initialized y.cls).before a0 Z = true) (wc : (Cond.code y bytes maxL ret).before a0 Z = true) (hy : z.cls ≠ "java/lang/invoke/MethodHandle" ∧ z.cls ≠ "java/lang/invoke/VarHandle") (eT : T.heap = h) {a : Addr} (E : Exa Z h a C) (hsize : Ls.size = c.maxLocals) (argsL : List Value) {rest : List Value} (hlen : ∀ sig, parseMethodDescriptor z.desc = some sig → argsL.length = sig.parameters.length) (has : (.ref a :: argsL).toArray = as') (hst : st = argsL.reverse ++ .ref a :: rest) (hf : rm.frames + 1 ≤ R.frames) (hl : (rest.map fun v => v.category).sum + (maxL + 11) + rm.locals ≤ R.locals) (hc : k + rm.cells ≤ R.cells) (hs : n + rm.slots ≤ R.slots) (hd : decode code pc = .ok (.invokevirtual index, 3)) (K : ∀ v T' L, Stand p l e R s m args below meth c T' (locs ++ L) (k + rm.cells) (n + rm.slots) → Q v T'.heap L → Go p e below G (T'.setTop (mkF m (pc + 3) Ls (v.toList ++ rest)))) : Go p e below G (T.setTop (mkF m pc Ls st)) := by
  obtain ⟨cq, kq, qa, qb, qc⟩ := isOf hZ eT E
  obtain ⟨v, _, ⟨T', L', k', n'⟩, -, X', ⟨L, hq, l1, l2, l3⟩, q⟩ := X.virtualBack hx (y := z) (z := y) hown (mvT hZ wl) (mvT hZ wd) hnf (mvT hZ wsel) (mvT hZ ws) hy (backOf (W := (rest.map fun v => v.category).sum) hM hZ wc wz hf hl) qa qc (g := mkF m pc Ls st) rfl hsize (Steps.refl _) (argsL := argsL) (rest := rest) hlen hst (by show 2 * 0 + _ ≤ _; omega) (hb hby hd) (fun _ _ => ⟨has, eT, hc, hs⟩)
  dsimp only [Pt.U, Pt.locs, Pt.cells, Pt.slots] at X' l1 l2 l3 q hq
  subst l1 l2 l3
  exact Go.step (fun t r => q.trans r) (K v T' L X' hq)
theorem g_private (X : Stand p l e R s m args below meth c T locs k n) (hx : p.tables.exec = Jvm.exec) (hby : c.code = code) (hZ : Z.Warmed39 s.vm) {own : String} (hown : s.vm.findClass own = some m.cls) {index j : Nat} {y : MethodName} {bytes : ByteArray} {maxL : Nat} {ret : Option FieldType} {rm : Room} {as' : Array Value} {Q : Option Value → Heap → List Loc → Prop} (hM : MetFree l y (head1 [Cond.code y bytes maxL ret] rm) (fun a U => a = as' ∧ Z.Warmed39 U.vm ∧ U.heap = h) (fun _ _ _ _ _ => True) (fun _ U o U' => RetG U Q rm.cells rm.slots U' o)) (wl : (Cond.methodLink own index y).before a0 Z = true) (ws : (Cond.instanceMethod y).before a0 Z = true) (wi : (Cond.instantiable y.cls j).before a0 Z = true) (wp : (Cond.privateMethod y).before a0 Z = true) (wz : (Cond.initialized y.cls).before a0 Z = true) (wc : (Cond.code y bytes maxL ret).before a0 Z = true) (hy : y.cls ≠ "java/lang/invoke/MethodHandle" ∧ y.cls ≠ "java/lang/invoke/VarHandle") (eT : T.heap = h) {a : Addr} {C : String} (E : Exa Z h a C) (hsize : Ls.size = c.maxLocals) (argsL : List Value) {rest : List Value} (hlen : ∀ sig, parseMethodDescriptor y.desc = some sig → argsL.length = sig.parameters.length) (has : (.ref a :: argsL).toArray = as') (hst : st = argsL.reverse ++ .ref a :: rest) (hf : rm.frames + 1 ≤ R.frames) (hl : (rest.map fun v => v.category).sum + (maxL + 11) + rm.locals ≤ R.locals) (hc : k + rm.cells ≤ R.cells) (hs : n + rm.slots ≤ R.slots) (hd : decode code pc = .ok (.invokevirtual index, 3)) (K : ∀ v T' L, Stand p l e R s m args below meth c T' (locs ++ L) (k + rm.cells) (n + rm.slots) → Q v T'.heap L → Go p e below G (T'.setTop (mkF m (pc + 3) Ls (v.toList ++ rest)))) : Go p e below G (T.setTop (mkF m pc Ls st)) := by
  obtain ⟨cq, q1, q2⟩ := E.cell
  obtain ⟨v, _, ⟨T', L', k', n'⟩, -, X', ⟨L, hq, l1, l2, l3⟩, q⟩ := X.privateBack hx (y := y) hown (mvT hZ wl) (mvT hZ ws) (selOf (mvT hZ wi) (mvP hZ wp) (mvT hZ ws) hy) (Cond.privateMethod_at (mvP hZ wp (args := #[]))) (mvT hZ wc) hy (backOf (W := (rest.map fun v => v.category).sum) hM hZ wc wz hf hl) (g := mkF m pc Ls st) rfl hsize (Steps.refl _) (a := a) (by rw [eT]; exact q1) q2 (argsL := argsL) (rest := rest) hlen hst (by show 2 * 0 + _ ≤ _; omega) (hb hby hd) (fun _ _ => ⟨has, eT, hc, hs⟩)
  dsimp only [Pt.U, Pt.locs, Pt.cells, Pt.slots] at X' l1 l2 l3 q hq
  subst l1 l2 l3
  exact Go.step (fun t r => q.trans r) (K v T' L X' hq)
theorem g_interface (X : Stand p l e R s m args below meth c T locs k n) (hx : p.tables.exec = Jvm.exec) (hby : c.code = code) (hZ : Z.Warmed39 s.vm) {own : String} (hown : s.vm.findClass own = some m.cls) {C : String} {index count : Nat} {z : MethodName} {y : MethodName} {bytes : ByteArray} {maxL : Nat} {ret : Option FieldType} {rm : Room} {as' : Array Value} {Q : Option Value → Heap → List Loc → Prop} (hM : MetFree l y (head1 [Cond.code y bytes maxL ret] rm) (fun a U => a = as' ∧ Z.Warmed39 U.vm ∧ U.heap = h) (fun _ _ _ _ _ => True) (fun _ U o U' => RetG U Q rm.cells rm.slots U' o)) (wl : (Cond.methodLink own index z).before a0 Z = true) (wd : (Cond.declares z).before a0 Z = true) (wf : (Cond.interfaceMethod z.cls z.cls z.name z.desc).before a0 Z = true) (wsel : (Cond.selects C z y).before a0 Z = true) (ws : (Cond.instanceMethod y).before a0 Z = true) (wp : (Cond.publicMethod y).before a0 Z = true) (wu : (Cond.unhidden C z.name z.desc).before a0 Z = true) (wca : (Cond.castable C z.cls).before a0 Z = true) (wz : (Cond.initialized y.cls).before a0 Z = true) (wc : (Cond.code y bytes maxL ret).before a0 Z = true) (hy : z.cls ≠ "java/lang/invoke/MethodHandle" ∧ z.cls ≠ "java/lang/invoke/VarHandle") (eT : T.heap = h) {a : Addr} (E : Exa Z h a C) (hsize : Ls.size = c.maxLocals) (argsL : List Value) {rest : List Value} (hlen : ∀ sig, parseMethodDescriptor z.desc = some sig → argsL.length = sig.parameters.length) (has : (.ref a :: argsL).toArray = as') (hst : st = argsL.reverse ++ .ref a :: rest) (hf : rm.frames + 1 ≤ R.frames) (hl : (rest.map fun v => v.category).sum + (maxL + 11) + rm.locals ≤ R.locals) (hc : k + rm.cells ≤ R.cells) (hs : n + rm.slots ≤ R.slots) (hd : decode code pc = .ok (.invokeinterface index count, 5)) (K : ∀ v T' L, Stand p l e R s m args below meth c T' (locs ++ L) (k + rm.cells) (n + rm.slots) → Q v T'.heap L → Go p e below G (T'.setTop (mkF m (pc + 5) Ls (v.toList ++ rest)))) : Go p e below G (T.setTop (mkF m pc Ls st)) := by
  obtain ⟨cq, kq, qa, qb, qc⟩ := isOf hZ eT E
  obtain ⟨v, _, ⟨T', L', k', n'⟩, -, X', ⟨L, hq, l1, l2, l3⟩, q⟩ := X.interfaceBack hx (xi := z) (y := y) hown (mvT hZ wl) (mvT hZ wd) (mvT hZ wf (by simp [Cond.onTables, Cond.keepsFace, Cond.keeps, Cond.steady, Cond.faceAtom, hy.1, hy.2])) (mvT hZ wsel) (mvT hZ ws) (mvT hZ wp) (mvT hZ wu) (mvT hZ wca) hy (backOf (W := (rest.map fun v => v.category).sum) hM hZ wc wz hf hl) qa qb qc (g := mkF m pc Ls st) rfl hsize (Steps.refl _) (argsL := argsL) (rest := rest) hlen hst (by show 2 * 0 + _ ≤ _; omega) (hb hby hd) (fun _ _ => ⟨has, eT, hc, hs⟩)
  dsimp only [Pt.U, Pt.locs, Pt.cells, Pt.slots] at X' l1 l2 l3 q hq
  subst l1 l2 l3
  exact Go.step (fun t r => q.trans r) (K v T' L X' hq)
theorem g_ret (X : Stand p l e R s m args below meth c T locs k n) (hx : p.tables.exec = Jvm.exec) (hby : c.code = code) (hret : meth.sig.returnType = none) (hlocks : meth.locks = false) {Q : Option Value → Heap → List Loc → Prop} {cells slots : Nat} (hd : decode code pc = .ok (.return_, 1)) (eT : T.heap = h) (hk : k ≤ cells) (hn : n ≤ slots) (hq : Q none h locs) : Go p e below (RetG s Q cells slots) (T.setTop (mkF m pc Ls [])) := Go.leave X (v := none) (fun _ => rfl) hlocks eT hq hk hn (fun fs hr => X.returnOut hx hret (hb hby hd) hr)
theorem g_iret (X : Stand p l e R s m args below meth c T locs k n) (hx : p.tables.exec = Jvm.exec) (hby : c.code = code) {z : Int32} {rest : List Value} (hret : meth.sig.returnType = some .int) (hlocks : meth.locks = false) {Q : Option Value → Heap → List Loc → Prop} {cells slots : Nat} (hd : decode code pc = .ok (.ireturn, 1)) (eT : T.heap = h) (hk : k ≤ cells) (hn : n ≤ slots) (hq : Q (some (.int z)) h locs) : Go p e below (RetG s Q cells slots) (T.setTop (mkF m pc Ls (.int z :: rest))) := Go.leave X (v := some (.int z)) (fun q => by rw [hret] at q; cases q) hlocks eT hq hk hn (fun fs hr => retOut X hx (t := .int) hret rfl (Or.inl ⟨rfl, Or.inl rfl, z, rfl⟩) (hb hby hd) hr)
theorem g_nret (X : Stand p l e R s m args below meth c T locs k n) (hx : p.tables.exec = Jvm.exec) (hby : c.code = code) {z : Int32} {rest : List Value} {t : FieldType} (ht : t = .boolean ∨ t = .byte ∨ t = .char ∨ t = .short) (hret : meth.sig.returnType = some t) (hlocks : meth.locks = false) {Q : Option Value → Heap → List Loc → Prop} {cells slots : Nat} (hd : decode code pc = .ok (.ireturn, 1)) (eT : T.heap = h) (hk : k ≤ cells) (hn : n ≤ slots) (hq : Q (some (.int (nar t z))) h locs) : Go p e below (RetG s Q cells slots) (T.setTop (mkF m pc Ls (.int z :: rest))) := Go.leave X (v := some (.int (nar t z))) (fun q => by rw [hret] at q; cases q) hlocks eT hq hk hn (fun fs hr => retN X hx (t := t) hret ht (hb hby hd) hr)
theorem g_lret (X : Stand p l e R s m args below meth c T locs k n) (hx : p.tables.exec = Jvm.exec) (hby : c.code = code) {z : Int64} {rest : List Value} (hret : meth.sig.returnType = some .long) (hlocks : meth.locks = false) {Q : Option Value → Heap → List Loc → Prop} {cells slots : Nat} (hd : decode code pc = .ok (.lreturn, 1)) (eT : T.heap = h) (hk : k ≤ cells) (hn : n ≤ slots) (hq : Q (some (.long z)) h locs) : Go p e below (RetG s Q cells slots) (T.setTop (mkF m pc Ls (.long z :: rest))) := Go.leave X (v := some (.long z)) (fun q => by rw [hret] at q; cases q) hlocks eT hq hk hn (fun fs hr => retOut X hx (t := .long) hret rfl (Or.inr (Or.inl ⟨rfl, rfl, z, rfl⟩)) (hb hby hd) hr)
theorem g_aret (X : Stand p l e R s m args below meth c T locs k n) (hx : p.tables.exec = Jvm.exec) (hby : c.code = code) {z : Value} {rest : List Value} {t : FieldType} (ht : t.isReference = true) (hz : z.isRef = true) (hnar : narrow t z = z) (hret : meth.sig.returnType = some t) (hlocks : meth.locks = false) {Q : Option Value → Heap → List Loc → Prop} {cells slots : Nat} (hd : decode code pc = .ok (.areturn, 1)) (eT : T.heap = h) (hk : k ≤ cells) (hn : n ≤ slots) (hq : Q (some z) h locs) : Go p e below (RetG s Q cells slots) (T.setTop (mkF m pc Ls (z :: rest))) := Go.leave X (v := some z) (fun q => by rw [hret] at q; cases q) hlocks eT hq hk hn (fun fs hr => retOut X hx (t := t) hret hnar (Or.inr (Or.inr (Or.inr (Or.inr ⟨rfl, ht, hz⟩)))) (hb hby hd) hr)
end
end Jvm.Own

namespace Jvm.Own
open Sem ClassFile Op Lib Jvm.Stand Jvm.Free Jvm.LawKit Jvm.RoadKit
def RetW (s : State) (Q : Option Value → Heap → List Loc → Prop) (cells slots : Nat) (s₂ : State) (o : Outcome) : Prop := ∃ v L, o = .returned v ∧ Q v s₂.heap L ∧ ReturnedEndW s o s₂ L cells slots
theorem own_widen {s u : State} {o : Outcome} {L L' : List Loc} {a b c d : Nat} (hq : ReturnedEndW s o u L a b) (N : Fr s.heap.size L) (hc : a ≤ c) (hd : b ≤ d) : ReturnedEndW s o u L' c d :=
  ⟨hq.1, hq.2.1, hq.2.2.1, (hq.2.2.2.sift fun y hy => Or.inr (N y hy)).mono hc hd⟩
section
variable {p : Program} {l : Launch} {e : Env} {R : Room} {s : State} {vm0 : Vm} {m : MethodId} {args : Array Value} {below : List Frame} {meth : Method} {c : Code} {T : State} {locs : List Loc} {k n k0 : Nat} {G : State → Outcome → Prop} {code : ByteArray} {pc : Nat} {Ls : Array Slot} {st : List Value} {Z : State} {a0 : Array Value} {h : Heap} {n0 : Nat}
theorem Go.leaveW (X : Stand p l e R (s.setVm vm0) m args below meth c T locs k n) {v : Option Value} (hv : meth.sig.returnType = none → v = none) (hlocks : meth.locks = false) {Q : Option Value → Heap → List Loc → Prop} {cells slots : Nat} {σ : State} (hS : s.Since vm0 k0) (eT : T.heap = h) (hkk : k0 ≤ h.size) (hq : Q v h locs) (hk : k ≤ cells) (hn : n ≤ slots)
    (st : ∀ fs, (∀ (f : JFrame) (acts : List Action), f.method = m → f.locked = none → f.entered = [] → (doReturn e (T.setTop f) acts v).1 = T.setFrames fs) → Steps p.tables e below σ (T.setFrames fs)) : Go p e below (RetW s Q cells slots) σ := by
  subst eT
  obtain ⟨fs, hr, hrun, hended, h1, h2, h3, h4⟩ := X.leaveW hS hkk (v := v) hv hlocks
  exact ⟨_, _, st fs hr, hrun, hended, _, _, rfl, hq, h1, h2, h3, h4.mono hk hn⟩
theorem g_retW (X : Stand p l e R (s.setVm vm0) m args below meth c T locs k n) (hx : p.tables.exec = Jvm.exec) (hby : c.code = code) (hret : meth.sig.returnType = none) (hlocks : meth.locks = false) {Q : Option Value → Heap → List Loc → Prop} {cells slots : Nat} (hS : s.Since vm0 k0) (hd : decode code pc = .ok (.return_, 1)) (eT : T.heap = h) (hkk : k0 ≤ h.size) (hk : k ≤ cells) (hn : n ≤ slots) (hq : Q none h locs) : Go p e below (RetW s Q cells slots) (T.setTop (mkF m pc Ls [])) := Go.leaveW X (v := none) (fun _ => rfl) hlocks hS eT hkk hq hk hn (fun fs hr => X.returnOut hx hret (hb hby hd) hr)
theorem g_iretW (X : Stand p l e R (s.setVm vm0) m args below meth c T locs k n) (hx : p.tables.exec = Jvm.exec) (hby : c.code = code) {z : Int32} {rest : List Value} (hret : meth.sig.returnType = some .int) (hlocks : meth.locks = false) {Q : Option Value → Heap → List Loc → Prop} {cells slots : Nat} (hS : s.Since vm0 k0) (hd : decode code pc = .ok (.ireturn, 1)) (eT : T.heap = h) (hkk : k0 ≤ h.size) (hk : k ≤ cells) (hn : n ≤ slots) (hq : Q (some (.int z)) h locs) : Go p e below (RetW s Q cells slots) (T.setTop (mkF m pc Ls (.int z :: rest))) := Go.leaveW X (v := some (.int z)) (fun q => by rw [hret] at q; cases q) hlocks hS eT hkk hq hk hn (fun fs hr => retOut X hx (t := .int) hret rfl (Or.inl ⟨rfl, Or.inl rfl, z, rfl⟩) (hb hby hd) hr)
theorem g_nretW (X : Stand p l e R (s.setVm vm0) m args below meth c T locs k n) (hx : p.tables.exec = Jvm.exec) (hby : c.code = code) {z : Int32} {rest : List Value} {t : FieldType} (ht : t = .boolean ∨ t = .byte ∨ t = .char ∨ t = .short) (hret : meth.sig.returnType = some t) (hlocks : meth.locks = false) {Q : Option Value → Heap → List Loc → Prop} {cells slots : Nat} (hS : s.Since vm0 k0) (hd : decode code pc = .ok (.ireturn, 1)) (eT : T.heap = h) (hkk : k0 ≤ h.size) (hk : k ≤ cells) (hn : n ≤ slots) (hq : Q (some (.int (nar t z))) h locs) : Go p e below (RetW s Q cells slots) (T.setTop (mkF m pc Ls (.int z :: rest))) := Go.leaveW X (v := some (.int (nar t z))) (fun q => by rw [hret] at q; cases q) hlocks hS eT hkk hq hk hn (fun fs hr => retN X hx (t := t) hret ht (hb hby hd) hr)
theorem g_lretW (X : Stand p l e R (s.setVm vm0) m args below meth c T locs k n) (hx : p.tables.exec = Jvm.exec) (hby : c.code = code) {z : Int64} {rest : List Value} (hret : meth.sig.returnType = some .long) (hlocks : meth.locks = false) {Q : Option Value → Heap → List Loc → Prop} {cells slots : Nat} (hS : s.Since vm0 k0) (hd : decode code pc = .ok (.lreturn, 1)) (eT : T.heap = h) (hkk : k0 ≤ h.size) (hk : k ≤ cells) (hn : n ≤ slots) (hq : Q (some (.long z)) h locs) : Go p e below (RetW s Q cells slots) (T.setTop (mkF m pc Ls (.long z :: rest))) := Go.leaveW X (v := some (.long z)) (fun q => by rw [hret] at q; cases q) hlocks hS eT hkk hq hk hn (fun fs hr => retOut X hx (t := .long) hret rfl (Or.inr (Or.inl ⟨rfl, rfl, z, rfl⟩)) (hb hby hd) hr)
theorem g_aretW (X : Stand p l e R (s.setVm vm0) m args below meth c T locs k n) (hx : p.tables.exec = Jvm.exec) (hby : c.code = code) {z : Value} {rest : List Value} {t : FieldType} (ht : t.isReference = true) (hz : z.isRef = true) (hnar : narrow t z = z) (hret : meth.sig.returnType = some t) (hlocks : meth.locks = false) {Q : Option Value → Heap → List Loc → Prop} {cells slots : Nat} (hS : s.Since vm0 k0) (hd : decode code pc = .ok (.areturn, 1)) (eT : T.heap = h) (hkk : k0 ≤ h.size) (hk : k ≤ cells) (hn : n ≤ slots) (hq : Q (some z) h locs) : Go p e below (RetW s Q cells slots) (T.setTop (mkF m pc Ls (z :: rest))) := Go.leaveW X (v := some z) (fun q => by rw [hret] at q; cases q) hlocks hS eT hkk hq hk hn (fun fs hr => retOut X hx (t := t) hret hnar (Or.inr (Or.inr (Or.inr (Or.inr ⟨rfl, ht, hz⟩)))) (hb hby hd) hr)
theorem g_ldcS (X : Stand p l e R (s.setVm vm0) m args below meth c T locs k n) (hx : p.tables.exec = Jvm.exec) (hby : c.code = code) (hZ : Z.Warmed39 (s.setVm vm0).vm) {own : String} (hown : (s.setVm vm0).vm.findClass own = some m.cls) {text : String} {index : Nat} (w : (Cond.stringLink own index text).before a0 Z = true) (wS : ∀ a ∈ Bundle.stringAtoms, a.before a0 Z = true) (eT : T.heap = h) (hS : s.Since vm0 k0) (hk : k0 ≤ h.size) (nn : Nat) (hnn : 4 * text.toList.length ≤ nn) (hbig : nn ≤ 536870912) (hc : k + 2 ≤ R.cells) (hl : n + (nn + 4) ≤ R.slots) (hd : decode code pc = .ok (.ldc index, 2)) (K : ∀ a T' h' k1, Stand p l e R (s.setVm T'.vm) m args below meth c T' locs (k + 2) (n + (nn + 4)) → T'.heap = h' → Ext h h' → s.Since T'.vm k1 → k1 ≤ h'.size → Z.Warmed39 (s.setVm T'.vm).vm → (s.setVm T'.vm).vm.findClass own = some m.cls → Go p e below G (T'.setTop (mkF m (pc + 2) Ls (.ref a :: st)))) : Go p e below G (T.setTop (mkF m pc Ls st)) := by
  obtain ⟨a, T', h', k1, X', e', E, hS', hk', hZ', ho', q⟩ := ldcS X hx hZ hown w wS eT hS hk (g := mkF m pc Ls st) rfl (hb hby hd) hnn hbig hc hl
  exact Go.step q (K a T' h' k1 X' e' E hS' hk' hZ' ho')
theorem g_ldcwS (X : Stand p l e R (s.setVm vm0) m args below meth c T locs k n) (hx : p.tables.exec = Jvm.exec) (hby : c.code = code) (hZ : Z.Warmed39 (s.setVm vm0).vm) {own : String} (hown : (s.setVm vm0).vm.findClass own = some m.cls) {text : String} {index : Nat} (w : (Cond.stringLink own index text).before a0 Z = true) (wS : ∀ a ∈ Bundle.stringAtoms, a.before a0 Z = true) (eT : T.heap = h) (hS : s.Since vm0 k0) (hk : k0 ≤ h.size) (nn : Nat) (hnn : 4 * text.toList.length ≤ nn) (hbig : nn ≤ 536870912) (hc : k + 2 ≤ R.cells) (hl : n + (nn + 4) ≤ R.slots) (hd : decode code pc = .ok (.ldc_w index, 3)) (K : ∀ a T' h' k1, Stand p l e R (s.setVm T'.vm) m args below meth c T' locs (k + 2) (n + (nn + 4)) → T'.heap = h' → Ext h h' → s.Since T'.vm k1 → k1 ≤ h'.size → Z.Warmed39 (s.setVm T'.vm).vm → (s.setVm T'.vm).vm.findClass own = some m.cls → Go p e below G (T'.setTop (mkF m (pc + 3) Ls (.ref a :: st)))) : Go p e below G (T.setTop (mkF m pc Ls st)) := by
  obtain ⟨a, T', h', k1, X', e', E, hS', hk', hZ', ho', q⟩ := ldcSW X hx hZ hown w wS eT hS hk (g := mkF m pc Ls st) rfl (hb hby hd) hnn hbig hc hl
  exact Go.step q (K a T' h' k1 X' e' E hS' hk' hZ' ho')
theorem g_ldcSV (X : Stand p l e R (s.setVm vm0) m args below meth c T locs k n) (hx : p.tables.exec = Jvm.exec) (hby : c.code = code) (hZ : Z.Warmed39 (s.setVm vm0).vm) {own : String} (hown : (s.setVm vm0).vm.findClass own = some m.cls) {text : String} {index : Nat} (w : (Cond.stringLink own index text).before a0 Z = true) (wS : ∀ a ∈ Bundle.stringAtoms, a.before a0 Z = true) (eT : T.heap = h) (hS : s.Since vm0 k0) (hk : k0 ≤ h.size) (N : Fr s.heap.size locs) (hkeep : ∀ (b : Addr) (cl : Cell), Z.heap[b]? = some cl → s.heap[b]? = some cl) (hI : vm0.interned = Z.vm.interned) (hh : Jvm.Lit.constHeld Z own index) (hcw : Jvm.Lit.compactW.before a0 Z = true) (vs : List Value) (z : Int32) (ht : (∀ c ∈ text.toList, c.toNat < 256) ∧ text.toList.map (fun c => Value.int (Jvm.Lit.byteI c.toNat.toUInt16)) = vs) (hz : ¬ z < 0) (hlz : z.toNatClampNeg = vs.length) (nn : Nat) (hnn : 4 * text.toList.length ≤ nn) (hbig : nn ≤ 536870912) (hc : k + 2 ≤ R.cells) (hl : n + (nn + 4) ≤ R.slots) (hd : decode code pc = .ok (.ldc index, 2)) (K : ∀ a T' h' k1 b kb, Stand p l e R (s.setVm T'.vm) m args below meth c T' locs (k + 2) (n + (nn + 4)) → T'.heap = h' → Ext h h' → s.Since T'.vm k1 → k1 ≤ h'.size → Z.Warmed39 (s.setVm T'.vm).vm → (s.setVm T'.vm).vm.findClass own = some m.cls → Exa Z h' a "java/lang/String" → Fld Z h' a "java/lang/String" "coder" "B" (.int 0) → Fld Z h' a "java/lang/String" "value" "[B" (.ref b) → Arv Z h' b kb .byte z vs (.int 0) → Lit (s.setVm T'.vm) own index a → Go p e below G (T'.setTop (mkF m (pc + 2) Ls (.ref a :: st)))) : Go p e below G (T.setTop (mkF m pc Ls st)) := by
  obtain ⟨a, T', h', k1, b, kb, X', e', E, hS', hk', hZ', ho', r1, r2, r3, r4, -, -, -, r5, q⟩ := ldcSVL X hx hZ hown w wS eT hS hk N hkeep (Ts := []) ⟨#[], by rw [hI]; simp, fun q hq => by simp at hq⟩ (by simp) hh hcw ht hz hlz (g := mkF m pc Ls st) rfl (hb hby hd) hnn hbig hc hl
  exact Go.step q (K a T' h' k1 b kb X' e' E hS' hk' hZ' ho' r1 r2 r3 r4 r5)
theorem g_ldcAgain (X : Stand p l e R (s.setVm vm0) m args below meth c T locs k n) (hx : p.tables.exec = Jvm.exec) (hby : c.code = code) (hZ : Z.Warmed39 (s.setVm vm0).vm) {own : String} (hown : (s.setVm vm0).vm.findClass own = some m.cls) {text : String} {index : Nat} (w : (Cond.stringLink own index text).before a0 Z = true) {a : Addr} (L : Lit (s.setVm vm0) own index a) (hd : decode code pc = .ok (.ldc index, 2)) (K : Go p e below G (T.setTop (mkF m (pc + 2) Ls (.ref a :: st)))) : Go p e below G (T.setTop (mkF m pc Ls st)) := Go.step (ldcAgain X hx hZ hown w L (g := mkF m pc Ls st) rfl (hb hby hd)) K
theorem backW {y : MethodName} {bytes : ByteArray} {maxL : Nat} {ret : Option FieldType} {rm : Room} {len W : Nat} {as' : Array Value} {Q : Option Value → Heap → List Loc → Prop} {PV : Vm → Prop}
    (hM : MetFree l y (head1 [Cond.code y bytes maxL ret] rm) (fun a U => a = as' ∧ PV U.vm ∧ U.heap = h) (fun _ _ _ _ _ => True) (fun _ U o U' => RetW U Q rm.cells rm.slots U' o))
    (hZ : Z.Warmed39 s.vm) (hPV : ∀ vm, s.WarmedH vm → PV vm) (wc : (Cond.code y bytes maxL ret).before a0 Z = true) (wz : (Cond.initialized y.cls).before a0 Z = true) (hf : rm.frames + 1 ≤ R.frames) (hl : W + (maxL + 11) + rm.locals ≤ R.locals) :
    BackS l R p e below s args y len W (fun A a => a = as' ∧ A.U.heap = h ∧ A.cells + rm.cells ≤ R.cells ∧ A.slots + rm.slots ≤ R.slots)
      (fun A _ v B => ∃ L, Q v B.U.heap L ∧ B.locs = A.locs ++ L ∧ B.cells = A.cells + rm.cells ∧ B.slots = A.slots + rm.slots) :=
  BackS.of_freeW (bytes := bytes) (maxL := maxL) (ret := ret) (E := fun _ _ o t L k n => k = rm.cells ∧ n = rm.slots ∧ ∃ v, o = .returned v ∧ Q v t.heap L) hM hf hl
    (fun m meth c A a Y hp => have hU : Z.Warmed39 A.U.vm := wtrans hZ Y.warmed
      ⟨by show (Cond.and _ .tt).before a A.U = true; rw [Cond.before_and, mv hU wc]; rfl, mv hU wc, mv hU wz, hp.2.2.1, hp.2.2.2⟩)
    (fun m meth c A a g mk Y hp => ⟨hp.1, hPV _ Y.warmed, hp.2.1⟩) (fun _ _ _ _ _ _ _ _ _ => trivial)
    (fun _ _ _ _ ⟨v, L, h1, h2, h3⟩ => ⟨L, _, _, h3, rfl, rfl, v, h1, h2⟩)
    (fun m meth c A a g mk v t L k n Y hp _ _ ⟨e1, e2, v', e3, e4⟩ => by cases e3; subst e1 e2; exact ⟨L, e4, rfl, rfl, rfl⟩)
theorem g_staticW (X : Stand p l e R (s.setVm vm0) m args below meth c T locs k n) (hx : p.tables.exec = Jvm.exec) (hby : c.code = code) (hZ : Z.Warmed39 (s.setVm vm0).vm) {own : String} (hown : (s.setVm vm0).vm.findClass own = some m.cls) {index : Nat} {y : MethodName} {bytes : ByteArray} {maxL : Nat} {ret : Option FieldType} {rm : Room} {as' : Array Value} {Q : Option Value → Heap → List Loc → Prop} {PV : Vm → Prop} (hM : MetFree l y (head1 [Cond.code y bytes maxL ret] rm) (fun a U => a = as' ∧ PV U.vm ∧ U.heap = h) (fun _ _ _ _ _ => True) (fun _ U o U' => RetW U Q rm.cells rm.slots U' o)) (hPV : ∀ vm, (s.setVm vm0).WarmedH vm → PV vm) (hS : s.Since vm0 k0) (hkk : k0 ≤ h.size) (wl : (Cond.methodLink own index y).before a0 Z = true) (ws : (Cond.static y).before a0 Z = true) (wz : (Cond.initialized y.cls).before a0 Z = true) (wc : (Cond.code y bytes maxL ret).before a0 Z = true) (hy : y.cls ≠ "java/lang/invoke/MethodHandle" ∧ y.cls ≠ "java/lang/invoke/VarHandle") (eT : T.heap = h) (hsize : Ls.size = c.maxLocals) (argsL : List Value) {rest : List Value} (hlen : ∀ sig, parseMethodDescriptor y.desc = some sig → argsL.length = sig.parameters.length) (has : argsL.toArray = as') (hst : st = argsL.reverse ++ rest) (hf : rm.frames + 1 ≤ R.frames) (hl : (rest.map fun v => v.category).sum + (maxL + 11) + rm.locals ≤ R.locals) (hc : k + rm.cells ≤ R.cells) (hs : n + rm.slots ≤ R.slots) (hd : decode code pc = .ok (.invokestatic index, 3)) (K : ∀ v T' L, Stand p l e R (s.setVm T'.vm) m args below meth c T' (locs ++ L) (k + rm.cells) (n + rm.slots) → s.Since T'.vm T'.heap.size → Z.Warmed39 (s.setVm T'.vm).vm → (s.setVm T'.vm).vm.findClass own = some m.cls → Q v T'.heap L → Go p e below G (T'.setTop (mkF m (pc + 3) Ls (v.toList ++ rest)))) : Go p e below G (T.setTop (mkF m pc Ls st)) := by
  obtain ⟨v, _, ⟨T', L', k', n'⟩, -, X', hs', hg', ⟨L, hq, l1, l2, l3⟩, q⟩ := callSS X hx (y := y) hown (mvT hZ wl) (mvT hZ ws) (mvT hZ wz) (mvT hZ wc) hy (backW (W := (rest.map fun v => v.category).sum) hM hZ hPV wc wz hf hl) (g := mkF m pc Ls st) rfl hsize (argsL := argsL) (rest := rest) hlen hst (by show 2 * 0 + _ ≤ _; omega) (hb hby hd) (fun _ _ => ⟨has, eT, hc, hs⟩)
  dsimp only [Pt.U, Pt.locs, Pt.cells, Pt.slots] at X' hs' hg' l1 l2 l3 q hq
  subst l1 l2 l3
  obtain ⟨X2, hS2, hZ2, ho2⟩ := rebS hS (Nat.le_trans hkk (by rw [← eT]; exact Nat.le_refl _)) X' hs' hg' hZ hown
  exact Go.step (fun t r => q.trans r) (K v T' L X2 hS2 hZ2 ho2 hq)
theorem g_specialW (X : Stand p l e R (s.setVm vm0) m args below meth c T locs k n) (hx : p.tables.exec = Jvm.exec) (hby : c.code = code) (hZ : Z.Warmed39 (s.setVm vm0).vm) {own : String} (hown : (s.setVm vm0).vm.findClass own = some m.cls) {index : Nat} {y : MethodName} {bytes : ByteArray} {maxL : Nat} {ret : Option FieldType} {rm : Room} {as' : Array Value} {Q : Option Value → Heap → List Loc → Prop} {PV : Vm → Prop} (hM : MetFree l y (head1 [Cond.code y bytes maxL ret] rm) (fun a U => a = as' ∧ PV U.vm ∧ U.heap = h) (fun _ _ _ _ _ => True) (fun _ U o U' => RetW U Q rm.cells rm.slots U' o)) (hPV : ∀ vm, (s.setVm vm0).WarmedH vm → PV vm) (hS : s.Since vm0 k0) (hkk : k0 ≤ h.size) (hy1 : y.name = "<init>") (hret : ret = none) (wl : (Cond.methodLink own index y).before a0 Z = true) (ws : (Cond.instanceMethod y).before a0 Z = true) (wz : (Cond.initialized y.cls).before a0 Z = true) (wc : (Cond.code y bytes maxL ret).before a0 Z = true) (hy : y.cls ≠ "java/lang/invoke/MethodHandle" ∧ y.cls ≠ "java/lang/invoke/VarHandle") (eT : T.heap = h) (hsize : Ls.size = c.maxLocals) {a : Addr} (argsL : List Value) {rest : List Value} (hlen : ∀ sig, parseMethodDescriptor y.desc = some sig → argsL.length = sig.parameters.length) (has : (.ref a :: argsL).toArray = as') (hst : st = argsL.reverse ++ .ref a :: rest) (hf : rm.frames + 1 ≤ R.frames) (hl : (rest.map fun v => v.category).sum + (maxL + 11) + rm.locals ≤ R.locals) (hc : k + rm.cells ≤ R.cells) (hs : n + rm.slots ≤ R.slots) (hd : decode code pc = .ok (.invokespecial index, 3)) (K : ∀ v T' L, Stand p l e R (s.setVm T'.vm) m args below meth c T' (locs ++ L) (k + rm.cells) (n + rm.slots) → s.Since T'.vm T'.heap.size → Z.Warmed39 (s.setVm T'.vm).vm → (s.setVm T'.vm).vm.findClass own = some m.cls → Q v T'.heap L → Go p e below G (T'.setTop (mkF m (pc + 3) Ls (v.toList ++ rest)))) : Go p e below G (T.setTop (mkF m pc Ls st)) := by
  subst hret
  obtain ⟨v, _, ⟨T', L', k', n'⟩, -, X', hs', hg', ⟨L, hq, l1, l2, l3⟩, q⟩ := X.specialBackS hx (y := y) hy1 hown (mvT hZ wl) (mvT hZ ws) (mvT hZ wc) hy (backW (W := (rest.map fun v => v.category).sum) hM hZ hPV wc wz hf hl) (g := mkF m pc Ls st) rfl hsize (Steps.refl _) (a := a) (argsL := argsL) (rest := rest) hlen hst (by show 2 * 0 + _ ≤ _; omega) (hb hby hd) (fun _ _ => ⟨has, eT, hc, hs⟩)
  dsimp only [Pt.U, Pt.locs, Pt.cells, Pt.slots] at X' hs' hg' l1 l2 l3 q hq
  subst l1 l2 l3
  obtain ⟨X2, hS2, hZ2, ho2⟩ := rebS hS (Nat.le_trans hkk (by rw [← eT]; exact Nat.le_refl _)) X' hs' hg' hZ hown
  exact Go.step (fun t r => q.trans r) (K v T' L X2 hS2 hZ2 ho2 hq)
theorem g_virtualW (X : Stand p l e R (s.setVm vm0) m args below meth c T locs k n) (hx : p.tables.exec = Jvm.exec) (hby : c.code = code) (hZ : Z.Warmed39 (s.setVm vm0).vm) {own : String} (hown : (s.setVm vm0).vm.findClass own = some m.cls) {C : String} {index : Nat} {z : MethodName} {y : MethodName} {bytes : ByteArray} {maxL : Nat} {ret : Option FieldType} {rm : Room} {as' : Array Value} {Q : Option Value → Heap → List Loc → Prop} {PV : Vm → Prop} (hM : MetFree l y (head1 [Cond.code y bytes maxL ret] rm) (fun a U => a = as' ∧ PV U.vm ∧ U.heap = h) (fun _ _ _ _ _ => True) (fun _ U o U' => RetW U Q rm.cells rm.slots U' o)) (hPV : ∀ vm, (s.setVm vm0).WarmedH vm → PV vm) (hS : s.Since vm0 k0) (hkk : k0 ≤ h.size) (wl : (Cond.methodLink own index z).before a0 Z = true) (wd : (Cond.declares z).before a0 Z = true) (hnf : NotFace (s.setVm vm0) z) (wsel : (Cond.selects C z y).before a0 Z = true) (ws : (Cond.instanceMethod y).before a0 Z = true) (wz : (Cond.initialized y.cls).before a0 Z = true) (wc : (Cond.code y bytes maxL ret).before a0 Z = true) (hy : z.cls ≠ "java/lang/invoke/MethodHandle" ∧ z.cls ≠ "java/lang/invoke/VarHandle") (eT : T.heap = h) {a : Addr} (E : Exa Z h a C) (hsize : Ls.size = c.maxLocals) (argsL : List Value) {rest : List Value} (hlen : ∀ sig, parseMethodDescriptor z.desc = some sig → argsL.length = sig.parameters.length) (has : (.ref a :: argsL).toArray = as') (hst : st = argsL.reverse ++ .ref a :: rest) (hf : rm.frames + 1 ≤ R.frames) (hl : (rest.map fun v => v.category).sum + (maxL + 11) + rm.locals ≤ R.locals) (hc : k + rm.cells ≤ R.cells) (hs : n + rm.slots ≤ R.slots) (hd : decode code pc = .ok (.invokevirtual index, 3)) (K : ∀ v T' L, Stand p l e R (s.setVm T'.vm) m args below meth c T' (locs ++ L) (k + rm.cells) (n + rm.slots) → s.Since T'.vm T'.heap.size → Z.Warmed39 (s.setVm T'.vm).vm → (s.setVm T'.vm).vm.findClass own = some m.cls → Q v T'.heap L → Go p e below G (T'.setTop (mkF m (pc + 3) Ls (v.toList ++ rest)))) : Go p e below G (T.setTop (mkF m pc Ls st)) := by
  obtain ⟨cq, kq, qa, qb, qc⟩ := isOf hZ eT E
  obtain ⟨v, _, ⟨T', L', k', n'⟩, -, X', hs', hg', ⟨L, hq, l1, l2, l3⟩, q⟩ := X.virtualBackS hx (y := z) (z := y) hown (mvT hZ wl) (mvT hZ wd) hnf (mvT hZ wsel) (mvT hZ ws) hy (backW (W := (rest.map fun v => v.category).sum) hM hZ hPV wc wz hf hl) qa qc (g := mkF m pc Ls st) rfl hsize (Steps.refl _) (argsL := argsL) (rest := rest) hlen hst (by show 2 * 0 + _ ≤ _; omega) (hb hby hd) (fun _ _ => ⟨has, eT, hc, hs⟩)
  dsimp only [Pt.U, Pt.locs, Pt.cells, Pt.slots] at X' hs' hg' l1 l2 l3 q hq
  subst l1 l2 l3
  obtain ⟨X2, hS2, hZ2, ho2⟩ := rebS hS (Nat.le_trans hkk (by rw [← eT]; exact Nat.le_refl _)) X' hs' hg' hZ hown
  exact Go.step (fun t r => q.trans r) (K v T' L X2 hS2 hZ2 ho2 hq)
end
end Jvm.Own

namespace Jvm.Pilot.@@N@@
open Jvm Jvm.ClassFile Sem Op Lib Jvm.Free Jvm.Stand Jvm.LawKit Jvm.RoadKit Bundle Jvm.Own Jvm.Pilot.@@N@@.Jvm.D


theorem own_nchar (x : Int32) : nar .char x = x.toUInt32.toUInt16.toUInt32.toInt32 := rfl
theorem own_nbyte (x : Int32) : nar .byte x = x.toInt8.toInt32 := rfl
theorem own_eq_int {args : Array Value} {first s : State} {o : Option Outcome} {idx : List Nat} {t : Term} {k : Int32} (h : (Jvm.Cond.eq t (.int k)).value args first o s idx = some true) : t.eval args first o idx s = some (.int k) := by
  obtain ⟨x, y, h1, h2, k1, -⟩ := cmp_v (Or.inl h)
  obtain rfl : y = .int k := Option.some.inj (h2.symm.trans (Term.int_eval k))
  cases x with
  | int z =>
    rw [Cond.value, h1, h2] at h
    have e : z = k := by simpa using h
    rw [h1, e]
  | _ => obtain ⟨z, hz⟩ | ⟨hz, -⟩ := k1 <;> first | cases hz | simp [Value.isRef] at *
theorem own_nc16 {c : Int32} (h : 0 ≤ c.toInt ∧ c.toInt < 65536) : nar .char c = c := by
  have h1 := c_i2c c
  exact Int32.toInt_inj.mp (by rw [own_nchar]; omega)
theorem own_byte {c : Int32} (h : 0 ≤ c.toInt ∧ c.toInt < 65536) (hc : ¬ (255 : Int32) < c) : nar .char (nar .char (((nar .byte (c.toInt8.toInt32)) &&& (255 : Int32)).toUInt32.toUInt16.toUInt32.toInt32)) = c := by
  rw [Int32.lt_iff_toInt_lt] at hc
  have e : (255 : Int32).toInt = 255 := rfl
  have h1 := c_i2b c
  have h2 := c_i2b c.toInt8.toInt32
  have h3 := c_mask (nar .byte c.toInt8.toInt32) 255 8 (by decide) (by decide)
  rw [own_nbyte] at h3 ⊢
  have h4 := c_i2c (c.toInt8.toInt32.toInt8.toInt32 &&& 255)
  have h5 := c_i2c ((c.toInt8.toInt32.toInt8.toInt32 &&& 255).toUInt32.toUInt16.toUInt32.toInt32)
  have h6 := c_i2c ((c.toInt8.toInt32.toInt8.toInt32 &&& 255).toUInt32.toUInt16.toUInt32.toInt32.toUInt32.toUInt16.toUInt32.toInt32)
  exact Int32.toInt_inj.mp (by rw [own_nchar, own_nchar]; omega)
theorem own_and3 (x : Int32) : x &&& 3 = (0 : Int32) ∨ x &&& 3 = (1 : Int32) ∨ x &&& 3 = (2 : Int32) ∨ x &&& 3 = (3 : Int32) := by
  have h := c_mask x 3 2 (by decide) (by decide)
  generalize x &&& 3 = y at h
  have : y.toInt = 0 ∨ y.toInt = 1 ∨ y.toInt = 2 ∨ y.toInt = 3 := by omega
  rcases this with q | q | q | q
  · exact Or.inl (Int32.toInt_inj.mp q)
  · exact Or.inr (Or.inl (Int32.toInt_inj.mp q))
  · exact Or.inr (Or.inr (Or.inl (Int32.toInt_inj.mp q)))
  · exact Or.inr (Or.inr (Or.inr (Int32.toInt_inj.mp q)))
theorem own_rng (x : Int32) : 0 ≤ (x.toUInt32.toUInt16.toUInt32.toInt32).toInt ∧ (x.toUInt32.toUInt16.toUInt32.toInt32).toInt < 65536 := (c_i2c x).2

theorem own_orI {a b : Int32} (ha : a.toInt % 256 = 0 ∧ 0 ≤ a.toInt) (hb : 0 ≤ b.toInt) (hb2 : b.toInt < 256) : (a ||| b).toInt = a.toInt + b.toInt := by
  have h0 := c_or a b 8 (by decide) 256 rfl ha.1 hb hb2
  have h1 := rng32 (a ||| b)
  have h2 := rng32 a
  have h3 := (c_orS a b).1 ha.2 hb
  omega

def own_lob (c : Int32) : Int32 := nar .byte ((c >>> ((0 : Int32) &&& 31)).toInt8.toInt32)
def own_hib (c : Int32) : Int32 := nar .byte ((c >>> ((8 : Int32) &&& 31)).toInt8.toInt32)
def own_u16e (lo hi : Int32) : Int32 := (((lo &&& (255 : Int32)) <<< ((0 : Int32) &&& 31)) ||| ((hi &&& (255 : Int32)) <<< ((8 : Int32) &&& 31))).toUInt32.toUInt16.toUInt32.toInt32
theorem own_u16 {c : Int32} (h : 0 ≤ c.toInt ∧ c.toInt < 65536) : nar .char (own_u16e (own_lob c) (own_hib c)) = c := by
  have s0 : c >>> ((0 : Int32) &&& 31) = c := Int32.toInt_inj.mp (by rw [c_ishr c 0 0 (by decide)]; omega)
  have s8 := c_ishr c 8 8 (by decide)
  have l1 := c_i2b c
  have l2 := c_i2b c.toInt8.toInt32
  have l3 := c_mask c.toInt8.toInt32.toInt8.toInt32 255 8 (by decide) (by decide)
  have m1 := c_i2b (c >>> ((8 : Int32) &&& 31))
  have m2 := c_i2b (c >>> ((8 : Int32) &&& 31)).toInt8.toInt32
  have m3 := c_mask (c >>> ((8 : Int32) &&& 31)).toInt8.toInt32.toInt8.toInt32 255 8 (by decide) (by decide)
  show ((own_u16e (own_lob c) (own_hib c))).toUInt32.toUInt16.toUInt32.toInt32 = c
  unfold own_u16e own_lob own_hib
  rw [s0]
  change ((((((c.toInt8.toInt32.toInt8.toInt32 &&& 255) <<< ((0 : Int32) &&& 31)) ||| (((c >>> ((8 : Int32) &&& 31)).toInt8.toInt32.toInt8.toInt32 &&& 255) <<< ((8 : Int32) &&& 31))).toUInt32.toUInt16.toUInt32.toInt32)).toUInt32.toUInt16.toUInt32.toInt32) = c
  generalize hA : c.toInt8.toInt32.toInt8.toInt32 &&& 255 = A at *
  generalize hB : (c >>> ((8 : Int32) &&& 31)).toInt8.toInt32.toInt8.toInt32 &&& 255 = B at *
  have a0 : A <<< ((0 : Int32) &&& 31) = A := Int32.toInt_inj.mp (by have := c_ishl A 0 0 (by decide); have := rng32 (A <<< ((0 : Int32) &&& 31)); omega)
  have b8 := c_ishl B 8 8 (by decide)
  have rb := rng32 (B <<< ((8 : Int32) &&& 31))
  rw [a0]
  have o := own_orI (a := B <<< ((8 : Int32) &&& 31)) (b := A) (by omega) (by omega) (by omega)
  have o' : (A ||| B <<< ((8 : Int32) &&& 31)).toInt = (B <<< ((8 : Int32) &&& 31)).toInt + A.toInt := by rw [Int32.or_comm]; exact o
  have x1 := c_i2c (A ||| B <<< ((8 : Int32) &&& 31))
  have x2 := c_i2c ((A ||| B <<< ((8 : Int32) &&& 31)).toUInt32.toUInt16.toUInt32.toInt32)
  exact Int32.toInt_inj.mp (by omega)

def own_fv (c : Int32) : Int32 := if (c < 32 ∧ ¬ c = 9) ∨ c = 127 ∨ 255 < c then 0 else 1
def own_fvs : List Int32 → Int32
  | [] => 1
  | c :: cs => if own_fv c = 0 then 0 else own_fvs cs
def own_al (c : Int32) : Int32 := if c = 9 ∨ (¬ c < 32 ∧ ¬ 126 < c) ∨ (¬ c < 128 ∧ ¬ 255 < c) then 1 else 0
theorem own_same {c : Int32} (h : 0 ≤ c.toInt ∧ c.toInt < 65536) : own_fv c = own_al c := by
  have e9 : c = 9 ↔ c.toInt = 9 := Int32.toInt_inj.symm
  have e127 : c = 127 ↔ c.toInt = 127 := Int32.toInt_inj.symm
  have l (k : Int32) : c < k ↔ c.toInt < k.toInt := Int32.lt_iff_toInt_lt
  have g (k : Int32) : k < c ↔ k.toInt < c.toInt := Int32.lt_iff_toInt_lt
  have d1 : (32 : Int32).toInt = 32 := rfl
  have d2 : (255 : Int32).toInt = 255 := rfl
  have d3 : (126 : Int32).toInt = 126 := rfl
  have d4 : (128 : Int32).toInt = 128 := rfl
  have key : ((c < 32 ∧ ¬ c = 9) ∨ c = 127 ∨ 255 < c) ↔ ¬ (c = 9 ∨ (¬ c < 32 ∧ ¬ 126 < c) ∨ (¬ c < 128 ∧ ¬ 255 < c)) := by
    simp only [e9, e127, l, g, d1, d2, d3, d4]
    omega
  unfold own_fv own_al
  by_cases q : (c < 32 ∧ ¬ c = 9) ∨ c = 127 ∨ 255 < c
  · rw [if_pos q, if_neg (key.mp q)]
  · rw [if_neg q, if_pos (Classical.not_not.mp (mt key.mpr q))]

theorem d10_0 : decode method_3_code 0 = .ok (.iload_n 0, 1) := by decide +kernel
theorem d10_1 : decode method_3_code 1 = .ok (.bipush 9, 2) := by decide +kernel
theorem d10_3 : decode method_3_code 3 = .ok (.if_icmp .eq 29, 3) := by decide +kernel
theorem d10_32 : decode method_3_code 32 = .ok (.iconst 1, 1) := by decide +kernel
theorem d10_33 : decode method_3_code 33 = .ok (.goto 4, 3) := by decide +kernel
theorem d10_37 : decode method_3_code 37 = .ok (.ireturn, 1) := by decide +kernel
theorem d10_6 : decode method_3_code 6 = .ok (.iload_n 0, 1) := by decide +kernel
theorem d10_7 : decode method_3_code 7 = .ok (.bipush 32, 2) := by decide +kernel
theorem d10_9 : decode method_3_code 9 = .ok (.if_icmp .lt 9, 3) := by decide +kernel
theorem d10_18 : decode method_3_code 18 = .ok (.iload_n 0, 1) := by decide +kernel
theorem d10_19 : decode method_3_code 19 = .ok (.sipush 128, 3) := by decide +kernel
theorem d10_22 : decode method_3_code 22 = .ok (.if_icmp .lt 14, 3) := by decide +kernel
theorem d10_36 : decode method_3_code 36 = .ok (.iconst 0, 1) := by decide +kernel
theorem d10_25 : decode method_3_code 25 = .ok (.iload_n 0, 1) := by decide +kernel
theorem d10_26 : decode method_3_code 26 = .ok (.sipush 255, 3) := by decide +kernel
theorem d10_29 : decode method_3_code 29 = .ok (.if_icmp .gt 7, 3) := by decide +kernel
theorem d10_12 : decode method_3_code 12 = .ok (.iload_n 0, 1) := by decide +kernel
theorem d10_13 : decode method_3_code 13 = .ok (.bipush 126, 2) := by decide +kernel
theorem d10_15 : decode method_3_code 15 = .ok (.if_icmp .le 17, 3) := by decide +kernel
theorem own_pn0 : plainName "com/example/usher/usher/gateway/http/Http1InputIsFieldValuePinLaw" = true := by first | (simp [plainName, overriddenIn]; done) | decide +kernel
def Q_al (Z : State) (c : Int32) (h0 : Heap) (n0 : Nat) (v : Option Value) (h : Heap) (L : List Loc) : Prop := v = some (.int (own_al c)) ∧ Fr n0 L ∧ h = h0
set_option maxRecDepth 65536 in
set_option maxHeartbeats 40000000 in
theorem rm_al (l : Launch) (Z : State) (a0 : Array Value) (hw : ∀ d ∈ tables_1, d.before a0 Z = true) (ws : List Jvm.Cond) (c : Int32) (h0 : Heap) (n0 : Nat) (Z0 : n0 ≤ h0.size) :
    MetFree l (⟨"com/example/usher/usher/gateway/http/Http1InputIsFieldValuePinLaw", "allowed", "(C)Z"⟩ : MethodName) (head1 (Jvm.Cond.code (⟨"com/example/usher/usher/gateway/http/Http1InputIsFieldValuePinLaw", "allowed", "(C)Z"⟩ : MethodName) method_3_code 1 (some .boolean) :: ws) ({ frames := 0, cells := 0, slots := 0, locals := 0 } : Room)) (fun aa_ U => aa_ = #[(.int c)] ∧ Z.Warmed39 U.vm ∧ U.heap = h0) (fun _ _ _ _ _ => True) (fun _ U o_ U' => RetG U (Q_al Z c h0 n0) 0 0 U' o_) := by
  refine MetFree.of_bodySF (plainFor_of_name own_pn0) hisR ?_
  intro p e s m args below meth c_ s₁ Bd hml0 hP hK
  obtain ⟨rfl, hZ, hh⟩ := hP
  have hx := Bd.exec
  have hby := Bd.bytes
  have hml : c_.maxLocals = 1 := hml0
  have hown : s.vm.findClass "com/example/usher/usher/gateway/http/Http1InputIsFieldValuePinLaw" = some m.cls := findClass_of_methodNamed Bd.named
  have hnm := (name_of_methodNamed Bd.named Bd.method).1
  have X0 : Stand p l e ({ frames := 0, cells := 0, slots := 0, locals := 0 } : Room) s m #[(.int c)] below meth c_ s₁ [] 0 0 := Stand.of_body Bd
  have e0 : s₁.heap = h0 := by rw [← hh, Bd.state]; rfl
  have N0 := Fr.nil n0
  show Go p e below (RetG s (Q_al Z c h0 n0) 0 0) (s₁.setTop (entryFrame m #[(.int c)] 1))
  rw [show entryFrame m #[(.int c)] 1 = mkF m 0 #[.val (.int c)] [] from by first | (simp [entryFrame, mkF, argsToLocals, Value.category]; done) | rfl]
  refine g_iloadN X0 hx hby d10_0 rfl ?_
  refine g_bipush X0 hx hby (9 : Int32) d10_1 rfl ?_
  by_cases hc3_1 : c = (9 : Int32)
  · skip
    refine g_icY X0 hx hby 32 d10_3 (teq hc3_1).1 (by decide) (by decide) ?_
    refine g_iconst X0 hx hby (1 : Int32) d10_32 rfl ?_
    refine g_goto X0 hx hby 37 d10_33 (by decide) (by decide) ?_
    refine g_nret X0 hx hby (t := .boolean) (by simp) Bd.returns Bd.notSynchronized d10_37 e0 (by decide) (by decide) ?_
    show (Q_al Z c h0 n0) (some (.int (1 : Int32))) _ _
    exact ⟨by simp [own_al, hc3_1], N0, rfl⟩
  · skip
    refine g_icN X0 hx hby d10_3 (feq hc3_1).1 ?_
    refine g_iloadN X0 hx hby d10_6 rfl ?_
    refine g_bipush X0 hx hby (32 : Int32) d10_7 rfl ?_
    by_cases hc9_2 : c < (32 : Int32)
    · skip
      refine g_icY X0 hx hby 18 d10_9 (tlt hc9_2).1 (by decide) (by decide) ?_
      refine g_iloadN X0 hx hby d10_18 rfl ?_
      refine g_sipush X0 hx hby (128 : Int32) d10_19 rfl ?_
      by_cases hc22_3 : c < (128 : Int32)
      · skip
        refine g_icY X0 hx hby 36 d10_22 (tlt hc22_3).1 (by decide) (by decide) ?_
        refine g_iconst X0 hx hby (0 : Int32) d10_36 rfl ?_
        refine g_nret X0 hx hby (t := .boolean) (by simp) Bd.returns Bd.notSynchronized d10_37 e0 (by decide) (by decide) ?_
        show (Q_al Z c h0 n0) (some (.int (0 : Int32))) _ _
        exact ⟨by simp [own_al, hc3_1, hc9_2, hc22_3], N0, rfl⟩
      · skip
        refine g_icN X0 hx hby d10_22 (flt hc22_3).1 ?_
        refine g_iloadN X0 hx hby d10_25 rfl ?_
        refine g_sipush X0 hx hby (255 : Int32) d10_26 rfl ?_
        by_cases hc29_4 : (255 : Int32) < c
        · skip
          refine g_icY X0 hx hby 36 d10_29 (tlt hc29_4).2.2.1 (by decide) (by decide) ?_
          refine g_iconst X0 hx hby (0 : Int32) d10_36 rfl ?_
          refine g_nret X0 hx hby (t := .boolean) (by simp) Bd.returns Bd.notSynchronized d10_37 e0 (by decide) (by decide) ?_
          show (Q_al Z c h0 n0) (some (.int (0 : Int32))) _ _
          exact ⟨by simp [own_al, hc3_1, hc9_2, hc22_3, hc29_4], N0, rfl⟩
        · skip
          refine g_icN X0 hx hby d10_29 (flt hc29_4).2.2.1 ?_
          refine g_iconst X0 hx hby (1 : Int32) d10_32 rfl ?_
          refine g_goto X0 hx hby 37 d10_33 (by decide) (by decide) ?_
          refine g_nret X0 hx hby (t := .boolean) (by simp) Bd.returns Bd.notSynchronized d10_37 e0 (by decide) (by decide) ?_
          show (Q_al Z c h0 n0) (some (.int (1 : Int32))) _ _
          exact ⟨by simp [own_al, hc3_1, hc9_2, hc22_3, hc29_4], N0, rfl⟩
    · skip
      refine g_icN X0 hx hby d10_9 (flt hc9_2).1 ?_
      refine g_iloadN X0 hx hby d10_12 rfl ?_
      refine g_bipush X0 hx hby (126 : Int32) d10_13 rfl ?_
      by_cases hc15_5 : (126 : Int32) < c
      · skip
        refine g_icN X0 hx hby d10_15 (tlt hc15_5).2.2.2 ?_
        refine g_iloadN X0 hx hby d10_18 rfl ?_
        refine g_sipush X0 hx hby (128 : Int32) d10_19 rfl ?_
        by_cases hc22_6 : c < (128 : Int32)
        · skip
          refine g_icY X0 hx hby 36 d10_22 (tlt hc22_6).1 (by decide) (by decide) ?_
          refine g_iconst X0 hx hby (0 : Int32) d10_36 rfl ?_
          refine g_nret X0 hx hby (t := .boolean) (by simp) Bd.returns Bd.notSynchronized d10_37 e0 (by decide) (by decide) ?_
          show (Q_al Z c h0 n0) (some (.int (0 : Int32))) _ _
          exact ⟨by simp [own_al, hc3_1, hc9_2, hc15_5, hc22_6], N0, rfl⟩
        · skip
          refine g_icN X0 hx hby d10_22 (flt hc22_6).1 ?_
          refine g_iloadN X0 hx hby d10_25 rfl ?_
          refine g_sipush X0 hx hby (255 : Int32) d10_26 rfl ?_
          by_cases hc29_7 : (255 : Int32) < c
          · skip
            refine g_icY X0 hx hby 36 d10_29 (tlt hc29_7).2.2.1 (by decide) (by decide) ?_
            refine g_iconst X0 hx hby (0 : Int32) d10_36 rfl ?_
            refine g_nret X0 hx hby (t := .boolean) (by simp) Bd.returns Bd.notSynchronized d10_37 e0 (by decide) (by decide) ?_
            show (Q_al Z c h0 n0) (some (.int (0 : Int32))) _ _
            exact ⟨by simp [own_al, hc3_1, hc9_2, hc15_5, hc22_6, hc29_7], N0, rfl⟩
          · skip
            refine g_icN X0 hx hby d10_29 (flt hc29_7).2.2.1 ?_
            refine g_iconst X0 hx hby (1 : Int32) d10_32 rfl ?_
            refine g_goto X0 hx hby 37 d10_33 (by decide) (by decide) ?_
            refine g_nret X0 hx hby (t := .boolean) (by simp) Bd.returns Bd.notSynchronized d10_37 e0 (by decide) (by decide) ?_
            show (Q_al Z c h0 n0) (some (.int (1 : Int32))) _ _
            exact ⟨by simp [own_al, hc3_1, hc9_2, hc15_5, hc22_6, hc29_7], N0, rfl⟩
      · skip
        refine g_icY X0 hx hby 32 d10_15 (flt hc15_5).2.2.2 (by decide) (by decide) ?_
        refine g_iconst X0 hx hby (1 : Int32) d10_32 rfl ?_
        refine g_goto X0 hx hby 37 d10_33 (by decide) (by decide) ?_
        refine g_nret X0 hx hby (t := .boolean) (by simp) Bd.returns Bd.notSynchronized d10_37 e0 (by decide) (by decide) ?_
        show (Q_al Z c h0 n0) (some (.int (1 : Int32))) _ _
        exact ⟨by simp [own_al, hc3_1, hc9_2, hc15_5], N0, rfl⟩

theorem d2_0 : decode jdk_42_method_149_code 0 = .ok (.aload_n 0, 1) := by decide +kernel
theorem d2_1 : decode jdk_42_method_149_code 1 = .ok (.invokespecial 1, 3) := by decide +kernel
theorem d2_4 : decode jdk_42_method_149_code 4 = .ok (.iload_n 3, 1) := by decide +kernel
theorem d2_5 : decode jdk_42_method_149_code 5 = .ok (.ifCond .ne 22, 3) := by decide +kernel
theorem d2_8 : decode jdk_42_method_149_code 8 = .ok (.aload_n 0, 1) := by decide +kernel
theorem d2_9 : decode jdk_42_method_149_code 9 = .ok (.ldc 7, 2) := by decide +kernel
theorem d2_11 : decode jdk_42_method_149_code 11 = .ok (.getfield 9, 3) := by decide +kernel
theorem d2_14 : decode jdk_42_method_149_code 14 = .ok (.putfield 9, 3) := by decide +kernel
theorem d2_17 : decode jdk_42_method_149_code 17 = .ok (.aload_n 0, 1) := by decide +kernel
theorem d2_18 : decode jdk_42_method_149_code 18 = .ok (.ldc 7, 2) := by decide +kernel
theorem d2_20 : decode jdk_42_method_149_code 20 = .ok (.getfield 15, 3) := by decide +kernel
theorem d2_23 : decode jdk_42_method_149_code 23 = .ok (.putfield 15, 3) := by decide +kernel
theorem d2_26 : decode jdk_42_method_149_code 26 = .ok (.return_, 1) := by decide +kernel
theorem own_pn1 : plainName "java/lang/String" = true := by first | (simp [plainName, overriddenIn]; done) | decide +kernel
def Q_ini2_e (Z : State) (a : Addr) (ca : Addr) (kc : ClassId) (cvs : List Value) (cz : Int32) (h0 : Heap) (n0 : Nat) (v : Option Value) (h : Heap) (L : List Loc) : Prop := v = none ∧ Fr n0 L ∧ Keep h0 h [a] ∧ ∃ (b : Addr) (kb : ClassId), a ≠ b ∧ Exa Z h a "java/lang/String" ∧ Fld Z h a "java/lang/String" "coder" "B" (.int (0 : Int32)) ∧ Fld Z h a "java/lang/String" "value" "[B" (.ref b) ∧ Arv Z h b kb .byte (0 : Int32) [] (.int (0 : Int32))
set_option maxRecDepth 65536 in
set_option maxHeartbeats 40000000 in
theorem rm_ini2_e (l : Launch) (Z : State) (a0 : Array Value) (hw : ∀ d ∈ tables_1, d.before a0 Z = true) (ws : List Jvm.Cond) (a : Addr) (ca : Addr) (kc : ClassId) (cvs : List Value) (cz : Int32) (h0 : Heap) (n0 : Nat) (Z0 : n0 ≤ h0.size) (O2 : Sta Z Z.heap "java/lang/String" "COMPACT_STRINGS" "Z" (.int cz)) (P5 : ¬ cz = (0 : Int32)) (OLD : Old Z n0 h0) (hheld : Jvm.Lit.constHeld Z "java/lang/String" 7) (hcw : Jvm.Lit.compactW.before a0 Z = true) (E : Exa Z h0 a "java/lang/String") (FC : Fld Z h0 a "java/lang/String" "coder" "B" (.int (0 : Int32))) (FV : Fld Z h0 a "java/lang/String" "value" "[B" .null) (VC : Arv Z h0 ca kc .char (0 : Int32) cvs (.int (0 : Int32))) (ga : n0 ≤ a) :
    MetFree l (⟨"java/lang/String", "<init>", "([CIILjava/lang/Void;)V"⟩ : MethodName) (head1 (Jvm.Cond.code (⟨"java/lang/String", "<init>", "([CIILjava/lang/Void;)V"⟩ : MethodName) jdk_42_method_149_code 6 none :: ws) ({ frames := 1, cells := 2, slots := 4, locals := 12 } : Room)) (fun aa_ U => aa_ = #[(.ref a), (.ref ca), (.int (0 : Int32)), (.int (0 : Int32)), .null] ∧ (Z.Warmed39 U.vm ∧ U.vm.interned = Z.vm.interned) ∧ U.heap = h0) (fun _ _ _ _ _ => True) (fun _ U o_ U' => RetW U (Q_ini2_e Z a ca kc cvs cz h0 n0) 2 4 U' o_) := by
  refine MetFree.of_bodySF (plainFor_of_name own_pn1) hisR ?_
  intro p e s m args below meth c_ s₁ Bd hml0 hP hK
  obtain ⟨rfl, ⟨hZ, hI0⟩, hh⟩ := hP
  have hx := Bd.exec
  have hby := Bd.bytes
  have hml : c_.maxLocals = 6 := hml0
  have hS0 : s.Since s.vm 0 := (State.WarmedH.refl s).since 0
  have hown : s.vm.findClass "java/lang/String" = some m.cls := findClass_of_methodNamed Bd.named
  have hnm := (name_of_methodNamed Bd.named Bd.method).1
  have X0 : Stand p l e ({ frames := 1, cells := 2, slots := 4, locals := 12 } : Room) (s.setVm s.vm) m #[(.ref a), (.ref ca), (.int (0 : Int32)), (.int (0 : Int32)), .null] below meth c_ s₁ [] 0 0 := Stand.of_body Bd
  have e0 : s₁.heap = h0 := by rw [← hh, Bd.state]; rfl
  have N0 := Fr.nil n0
  have w2_ := hw _ (List.mem_of_getElem? (i := 2) rfl)
  have w11_ := hw _ (List.mem_of_getElem? (i := 11) rfl)
  have w12_ := hw _ (List.mem_of_getElem? (i := 12) rfl)
  have w13_ := hw _ (List.mem_of_getElem? (i := 13) rfl)
  have w14_ := hw _ (List.mem_of_getElem? (i := 14) rfl)
  have w16_ := hw _ (List.mem_of_getElem? (i := 16) rfl)
  have w17_ := hw _ (List.mem_of_getElem? (i := 17) rfl)
  have w20_ := hw _ (List.mem_of_getElem? (i := 20) rfl)
  have w21_ := hw _ (List.mem_of_getElem? (i := 21) rfl)
  have hkeep : ∀ (b : Addr) (cl : Cell), Z.heap[b]? = some cl → s.heap[b]? = some cl := fun b cl q => by rw [hh]; exact OLD.2.2 b cl q
  have wS : ∀ d ∈ Bundle.stringAtoms, d.before a0 Z = true := fun d hd => hw d ((by decide +kernel : ∀ d ∈ Bundle.stringAtoms, d ∈ tables_1) d hd)
  show Go p e below (RetW s (Q_ini2_e Z a ca kc cvs cz h0 n0) 2 4) (s₁.setTop (entryFrame m #[(.ref a), (.ref ca), (.int (0 : Int32)), (.int (0 : Int32)), .null] 6))
  rw [show entryFrame m #[(.ref a), (.ref ca), (.int (0 : Int32)), (.int (0 : Int32)), .null] 6 = mkF m 0 #[.val (.ref a), .val (.ref ca), .val (.int (0 : Int32)), .val (.int (0 : Int32)), .val .null, .unset] [] from by first | (simp [entryFrame, mkF, argsToLocals, Value.category]; done) | rfl]
  refine g_aloadN X0 hx hby d2_0 rfl rfl ?_
  refine g_initO X0 hx hby hZ hown w11_ w12_ w13_ e0 (by rw [hml]; rfl) (Nat.le_of_ble_eq_true rfl) (Nat.le_of_ble_eq_true rfl) d2_1 (fun T1 X1 e1 => ?_)
  refine g_iloadN X1 hx hby d2_4 rfl ?_
  refine g_ifN X1 hx hby d2_5 (teq (by decide : (0 : Int32) = (0 : Int32))).2 ?_
  refine g_aloadN X1 hx hby d2_8 rfl rfl ?_
  refine g_ldcSV X1 hx hby hZ hown w14_ wS e1 hS0 (Nat.zero_le _) (Fr.nil _) hkeep hI0 hheld hcw [] (0 : Int32) ⟨by decide, by decide⟩ (by decide) rfl 0 (by decide) (by decide) (by decide) (by decide) d2_9 (fun a2 T2 h2 kk2 t2 kt2 X2 e2 E2 hS2 hk2 hZ2 ho2 Es2 Cs2 Vs2 Bs2 Li2 => ?_)
  have ne3 : a2 ≠ a := (Fld.ne Vs2 (FV.ext E2) nofun)
  refine g_getF X2 hx hby hZ2 ho2 (host := "") (Or.inl w20_) Via.refl e2 Vs2 d2_11 (fun T4 X4 e4 => ?_)
  have f5 := (E.ext E2)
  have f6 := (FV.ext E2)
  refine g_putF X4 hx hby hZ2 ho2 (host := "") (Or.inl w20_) Via.refl e4 f6 f5 (Or.inr ⟨w16_, rfl, hnm⟩) w2_ (.array .byte) (by decide) rfl rfl N0 ga d2_14 (fun T7 h7 X7 e7 W7 F7 N7 => ?_)
  refine g_aloadN X7 hx hby d2_17 rfl rfl ?_
  refine g_ldcAgain X7 hx hby hZ2 ho2 w14_ Li2 d2_18 ?_
  have f8 := (Cs2.other W7 (Or.inl ne3))
  refine g_getF X7 hx hby hZ2 ho2 (host := "") (Or.inl w21_) Via.refl e7 f8 d2_20 (fun T9 X9 e9 => ?_)
  have f10 := (f5.wr W7)
  have f11 := ((FC.ext E2).other W7 (Or.inr (slot_ne (Or.inr w17_) (Or.inr w16_) (by decide) (t := .byte) (t' := (.array .byte)) (by decide) (by decide))))
  refine g_putFN X9 hx hby hZ2 ho2 w21_ Via.refl e9 f11 f10 (Or.inr ⟨w17_, rfl, hnm⟩) w2_ .byte (by decide) (.int (0 : Int32)) rfl rfl N7 ga d2_23 (fun T12 h12 X12 e12 W12 F12 N12 => ?_)
  have ne13 : a ≠ t2 := (Exa.neArv f5 Bs2 w2_)
  have f14 := (f10.wr W12)
  have f15 := (F7.other W12 (Or.inr (slot_ne (Or.inr w16_) (Or.inr w17_) (by decide) (t := (.array .byte)) (t' := .byte) (by decide) (by decide))))
  have f16 := ((Bs2.other W7 (Ne.symm ne13)).other W12 (Ne.symm ne13))
  refine g_retW X12 hx hby Bd.returns Bd.notSynchronized hS2 d2_26 e12 (Nat.le_trans hk2 (Nat.le_trans (Keep.of_wr W7).1 (Keep.of_wr W12).1)) (by decide) (by decide) ?_
  show (Q_ini2_e Z a ca kc cvs cz h0 n0) none _ _
  exact ⟨rfl, N12, ((((Keep.refl h0 [a]).ext E2).wr W7 (Or.inl (List.mem_of_getElem? (i := 0) rfl))).wr W12 (Or.inl (List.mem_of_getElem? (i := 0) rfl))), t2, kt2, ne13, f14, F12, f15, f16⟩

theorem d1_0 : decode jdk_42_method_3_code 0 = .ok (.aload_n 0, 1) := by decide +kernel
theorem d1_1 : decode jdk_42_method_3_code 1 = .ok (.aload_n 1, 1) := by decide +kernel
theorem d1_2 : decode jdk_42_method_3_code 2 = .ok (.iconst 0, 1) := by decide +kernel
theorem d1_3 : decode jdk_42_method_3_code 3 = .ok (.aload_n 1, 1) := by decide +kernel
theorem d1_4 : decode jdk_42_method_3_code 4 = .ok (.arraylength, 1) := by decide +kernel
theorem d1_5 : decode jdk_42_method_3_code 5 = .ok (.aconst_null, 1) := by decide +kernel
theorem d1_6 : decode jdk_42_method_3_code 6 = .ok (.invokespecial 27, 3) := by decide +kernel
theorem own_pd0 : parseMethodDescriptor "([CIILjava/lang/Void;)V" = some ⟨[(.array .char), .int, .int, (.object "java/lang/Void")], none⟩ := by decide +kernel
theorem d1_9 : decode jdk_42_method_3_code 9 = .ok (.return_, 1) := by decide +kernel
def Q_ini1_e (Z : State) (a : Addr) (ca : Addr) (kc : ClassId) (cvs : List Value) (cz : Int32) (h0 : Heap) (n0 : Nat) (v : Option Value) (h : Heap) (L : List Loc) : Prop := v = none ∧ Fr n0 L ∧ Keep h0 h [a] ∧ ∃ (b : Addr) (kb : ClassId), a ≠ b ∧ Exa Z h a "java/lang/String" ∧ Fld Z h a "java/lang/String" "coder" "B" (.int (0 : Int32)) ∧ Fld Z h a "java/lang/String" "value" "[B" (.ref b) ∧ Arv Z h b kb .byte (0 : Int32) [] (.int (0 : Int32))
set_option maxRecDepth 65536 in
set_option maxHeartbeats 40000000 in
theorem rm_ini1_e (l : Launch) (Z : State) (a0 : Array Value) (hw : ∀ d ∈ tables_1, d.before a0 Z = true) (ws : List Jvm.Cond) (a : Addr) (ca : Addr) (kc : ClassId) (cvs : List Value) (cz : Int32) (h0 : Heap) (n0 : Nat) (Z0 : n0 ≤ h0.size) (O2 : Sta Z Z.heap "java/lang/String" "COMPACT_STRINGS" "Z" (.int cz)) (P5 : ¬ cz = (0 : Int32)) (OLD : Old Z n0 h0) (hheld : Jvm.Lit.constHeld Z "java/lang/String" 7) (hcw : Jvm.Lit.compactW.before a0 Z = true) (E : Exa Z h0 a "java/lang/String") (FC : Fld Z h0 a "java/lang/String" "coder" "B" (.int (0 : Int32))) (FV : Fld Z h0 a "java/lang/String" "value" "[B" .null) (VC : Arv Z h0 ca kc .char (0 : Int32) cvs (.int (0 : Int32))) (ga : n0 ≤ a) :
    MetFree l (⟨"java/lang/String", "<init>", "([C)V"⟩ : MethodName) (head1 (Jvm.Cond.code (⟨"java/lang/String", "<init>", "([C)V"⟩ : MethodName) jdk_42_method_3_code 2 none :: ws) ({ frames := 2, cells := 2, slots := 4, locals := 29 } : Room)) (fun aa_ U => aa_ = #[(.ref a), (.ref ca)] ∧ (Z.Warmed39 U.vm ∧ U.vm.interned = Z.vm.interned) ∧ U.heap = h0) (fun _ _ _ _ _ => True) (fun _ U o_ U' => RetW U (Q_ini1_e Z a ca kc cvs cz h0 n0) 2 4 U' o_) := by
  refine MetFree.of_bodySF (plainFor_of_name own_pn1) hisR ?_
  intro p e s m args below meth c_ s₁ Bd hml0 hP hK
  obtain ⟨rfl, ⟨hZ, hI0⟩, hh⟩ := hP
  have hx := Bd.exec
  have hby := Bd.bytes
  have hml : c_.maxLocals = 2 := hml0
  have hS0 : s.Since s.vm 0 := (State.WarmedH.refl s).since 0
  have hown : s.vm.findClass "java/lang/String" = some m.cls := findClass_of_methodNamed Bd.named
  have hnm := (name_of_methodNamed Bd.named Bd.method).1
  have X0 : Stand p l e ({ frames := 2, cells := 2, slots := 4, locals := 29 } : Room) (s.setVm s.vm) m #[(.ref a), (.ref ca)] below meth c_ s₁ [] 0 0 := Stand.of_body Bd
  have e0 : s₁.heap = h0 := by rw [← hh, Bd.state]; rfl
  have N0 := Fr.nil n0
  have w3_ := hw _ (List.mem_of_getElem? (i := 3) rfl)
  have w7_ := hw _ (List.mem_of_getElem? (i := 7) rfl)
  have w8_ := hw _ (List.mem_of_getElem? (i := 8) rfl)
  have w10_ := hw _ (List.mem_of_getElem? (i := 10) rfl)
  show Go p e below (RetW s (Q_ini1_e Z a ca kc cvs cz h0 n0) 2 4) (s₁.setTop (entryFrame m #[(.ref a), (.ref ca)] 2))
  rw [show entryFrame m #[(.ref a), (.ref ca)] 2 = mkF m 0 #[.val (.ref a), .val (.ref ca)] [] from by first | (simp [entryFrame, mkF, argsToLocals, Value.category]; done) | rfl]
  refine g_aloadN X0 hx hby d1_0 rfl rfl ?_
  refine g_aloadN X0 hx hby d1_1 rfl rfl ?_
  refine g_iconst X0 hx hby (0 : Int32) d1_2 rfl ?_
  refine g_aloadN X0 hx hby d1_3 rfl rfl ?_
  refine g_arraylength X0 hx hby hZ e0 VC d1_4 ?_
  refine g_aconst_null X0 hx hby d1_5 ?_
  refine g_specialW X0 hx hby hZ hown (PV := fun vm => Z.Warmed39 vm ∧ vm.interned = Z.vm.interned) (rm_ini2_e l Z a0 hw [] a ca kc cvs cz h0 n0 Z0 O2 P5 OLD hheld hcw E FC FV VC ga) (fun _ q => ⟨State.Warmed39.trans hZ q.wide, q.interned_eq.trans hI0⟩) hS0 (Nat.zero_le _) rfl rfl w7_ w8_ w3_ w10_ (by decide) e0 (by rw [hml]; rfl) [(.ref ca), (.int (0 : Int32)), (.int (0 : Int32)), .null] (lenOf own_pd0 rfl) rfl rfl (Nat.le_of_ble_eq_true rfl) (Nat.le_of_ble_eq_true rfl) (Nat.le_of_ble_eq_true rfl) (Nat.le_of_ble_eq_true rfl) d1_6 (fun v1 T1 L1 X1 hS1 hZ1 ho1 hQ1 => ?_)
  obtain ⟨rfl, N1q, R1⟩ := hQ1
  have N1 := Fr.app N0 N1q
  refine g_retW X1 hx hby Bd.returns Bd.notSynchronized hS1 d1_9 rfl (Nat.le_refl _) (by decide) (by decide) ?_
  show (Q_ini1_e Z a ca kc cvs cz h0 n0) none _ _
  exact ⟨rfl, N1, R1⟩

theorem own_pd1 : parseMethodDescriptor "([C)V" = some ⟨[(.array .char)], none⟩ := by decide +kernel
theorem d6_0 : decode jdk_42_method_152_code 0 = .ok (.getstatic 38, 3) := by decide +kernel
theorem d6_3 : decode jdk_42_method_152_code 3 = .ok (.ifCond .eq 10, 3) := by decide +kernel
theorem d6_6 : decode jdk_42_method_152_code 6 = .ok (.aload_n 0, 1) := by decide +kernel
theorem d6_7 : decode jdk_42_method_152_code 7 = .ok (.getfield 15, 3) := by decide +kernel
theorem d6_10 : decode jdk_42_method_152_code 10 = .ok (.goto 4, 3) := by decide +kernel
theorem d6_14 : decode jdk_42_method_152_code 14 = .ok (.ireturn, 1) := by decide +kernel
def Q_coder (Z : State) (a : Addr) (cd : Int32) (cz : Int32) (h0 : Heap) (n0 : Nat) (v : Option Value) (h : Heap) (L : List Loc) : Prop := v = some (.int (nar .byte cd)) ∧ Fr n0 L ∧ h = h0
set_option maxRecDepth 65536 in
set_option maxHeartbeats 40000000 in
theorem rm_coder (l : Launch) (Z : State) (a0 : Array Value) (hw : ∀ d ∈ tables_1, d.before a0 Z = true) (ws : List Jvm.Cond) (a : Addr) (cd : Int32) (cz : Int32) (h0 : Heap) (n0 : Nat) (Z0 : n0 ≤ h0.size) (O2 : Sta Z Z.heap "java/lang/String" "COMPACT_STRINGS" "Z" (.int cz)) (P5 : ¬ cz = (0 : Int32)) (OLD : Old Z n0 h0) (C : Fld Z h0 a "java/lang/String" "coder" "B" (.int cd)) :
    MetFree l (⟨"java/lang/String", "coder", "()B"⟩ : MethodName) (head1 (Jvm.Cond.code (⟨"java/lang/String", "coder", "()B"⟩ : MethodName) jdk_42_method_152_code 1 (some .byte) :: ws) ({ frames := 0, cells := 0, slots := 0, locals := 0 } : Room)) (fun aa_ U => aa_ = #[(.ref a)] ∧ Z.Warmed39 U.vm ∧ U.heap = h0) (fun _ _ _ _ _ => True) (fun _ U o_ U' => RetG U (Q_coder Z a cd cz h0 n0) 0 0 U' o_) := by
  refine MetFree.of_bodySF (plainFor_of_name own_pn1) hisR ?_
  intro p e s m args below meth c_ s₁ Bd hml0 hP hK
  obtain ⟨rfl, hZ, hh⟩ := hP
  have hx := Bd.exec
  have hby := Bd.bytes
  have hml : c_.maxLocals = 1 := hml0
  have hown : s.vm.findClass "java/lang/String" = some m.cls := findClass_of_methodNamed Bd.named
  have hnm := (name_of_methodNamed Bd.named Bd.method).1
  have X0 : Stand p l e ({ frames := 0, cells := 0, slots := 0, locals := 0 } : Room) s m #[(.ref a)] below meth c_ s₁ [] 0 0 := Stand.of_body Bd
  have e0 : s₁.heap = h0 := by rw [← hh, Bd.state]; rfl
  have N0 := Fr.nil n0
  have w21_ := hw _ (List.mem_of_getElem? (i := 21) rfl)
  have w36_ := hw _ (List.mem_of_getElem? (i := 36) rfl)
  show Go p e below (RetG s (Q_coder Z a cd cz h0 n0) 0 0) (s₁.setTop (entryFrame m #[(.ref a)] 1))
  rw [show entryFrame m #[(.ref a)] 1 = mkF m 0 #[.val (.ref a)] [] from by first | (simp [entryFrame, mkF, argsToLocals, Value.category]; done) | rfl]
  refine g_getS X0 hx hby hZ hown (host := "") (Or.inl w36_) Via.refl e0 (O2.ext OLD.2) d6_0 (fun T1 X1 e1 => ?_)
  refine g_ifN X1 hx hby d6_3 (feq (P5 : ¬ (cz = (0 : Int32)))).1 ?_
  refine g_aloadN X1 hx hby d6_6 rfl rfl ?_
  refine g_getF X1 hx hby hZ hown (host := "") (Or.inl w21_) Via.refl e1 C d6_7 (fun T2 X2 e2 => ?_)
  refine g_goto X2 hx hby 14 d6_10 (by decide) (by decide) ?_
  refine g_nret X2 hx hby (t := .byte) (by simp) Bd.returns Bd.notSynchronized d6_14 e2 (by decide) (by decide) ?_
  show (Q_coder Z a cd cz h0 n0) (some (.int (nar .byte cd))) _ _
  exact ⟨rfl, N0, rfl⟩

theorem d5_0 : decode jdk_42_method_54_code 0 = .ok (.aload_n 0, 1) := by decide +kernel
theorem d5_1 : decode jdk_42_method_54_code 1 = .ok (.getfield 9, 3) := by decide +kernel
theorem d5_4 : decode jdk_42_method_54_code 4 = .ok (.arraylength, 1) := by decide +kernel
theorem d5_5 : decode jdk_42_method_54_code 5 = .ok (.aload_n 0, 1) := by decide +kernel
theorem d5_6 : decode jdk_42_method_54_code 6 = .ok (.invokevirtual 335, 3) := by decide +kernel
theorem own_pd2 : parseMethodDescriptor "()B" = some ⟨[], some .byte⟩ := by decide +kernel
theorem d5_9 : decode jdk_42_method_54_code 9 = .ok (.ishr, 1) := by decide +kernel
theorem d5_10 : decode jdk_42_method_54_code 10 = .ok (.ireturn, 1) := by decide +kernel
def Q_slen_0 (Z : State) (a : Addr) (b : Addr) (kb : ClassId) (bs : List Value) (cz : Int32) (h0 : Heap) (n0 : Nat) (v : Option Value) (h : Heap) (L : List Loc) : Prop := v = some (.int (0 : Int32)) ∧ Fr n0 L ∧ h = h0
set_option maxRecDepth 65536 in
set_option maxHeartbeats 40000000 in
theorem rm_slen_0 (l : Launch) (Z : State) (a0 : Array Value) (hw : ∀ d ∈ tables_1, d.before a0 Z = true) (ws : List Jvm.Cond) (a : Addr) (b : Addr) (kb : ClassId) (bs : List Value) (cz : Int32) (h0 : Heap) (n0 : Nat) (Z0 : n0 ≤ h0.size) (O2 : Sta Z Z.heap "java/lang/String" "COMPACT_STRINGS" "Z" (.int cz)) (P5 : ¬ cz = (0 : Int32)) (OLD : Old Z n0 h0) (E : Exa Z h0 a "java/lang/String") (C : Fld Z h0 a "java/lang/String" "coder" "B" (.int (0 : Int32))) (VF : Fld Z h0 a "java/lang/String" "value" "[B" (.ref b)) (VB : Arv Z h0 b kb .byte (0 : Int32) bs (.int (0 : Int32))) :
    MetFree l (⟨"java/lang/String", "length", "()I"⟩ : MethodName) (head1 (Jvm.Cond.code (⟨"java/lang/String", "length", "()I"⟩ : MethodName) jdk_42_method_54_code 1 (some .int) :: ws) ({ frames := 1, cells := 0, slots := 0, locals := 13 } : Room)) (fun aa_ U => aa_ = #[(.ref a)] ∧ Z.Warmed39 U.vm ∧ U.heap = h0) (fun _ _ _ _ _ => True) (fun _ U o_ U' => RetG U (Q_slen_0 Z a b kb bs cz h0 n0) 0 0 U' o_) := by
  refine MetFree.of_bodySF (plainFor_of_name own_pn1) hisR ?_
  intro p e s m args below meth c_ s₁ Bd hml0 hP hK
  obtain ⟨rfl, hZ, hh⟩ := hP
  have hx := Bd.exec
  have hby := Bd.bytes
  have hml : c_.maxLocals = 1 := hml0
  have hown : s.vm.findClass "java/lang/String" = some m.cls := findClass_of_methodNamed Bd.named
  have hnm := (name_of_methodNamed Bd.named Bd.method).1
  have X0 : Stand p l e ({ frames := 1, cells := 0, slots := 0, locals := 13 } : Room) s m #[(.ref a)] below meth c_ s₁ [] 0 0 := Stand.of_body Bd
  have e0 : s₁.heap = h0 := by rw [← hh, Bd.state]; rfl
  have N0 := Fr.nil n0
  have w3_ := hw _ (List.mem_of_getElem? (i := 3) rfl)
  have w20_ := hw _ (List.mem_of_getElem? (i := 20) rfl)
  have w31_ := hw _ (List.mem_of_getElem? (i := 31) rfl)
  have w32_ := hw _ (List.mem_of_getElem? (i := 32) rfl)
  have w33_ := hw _ (List.mem_of_getElem? (i := 33) rfl)
  have w34_ := hw _ (List.mem_of_getElem? (i := 34) rfl)
  have w35_ := hw _ (List.mem_of_getElem? (i := 35) rfl)
  show Go p e below (RetG s (Q_slen_0 Z a b kb bs cz h0 n0) 0 0) (s₁.setTop (entryFrame m #[(.ref a)] 1))
  rw [show entryFrame m #[(.ref a)] 1 = mkF m 0 #[.val (.ref a)] [] from by first | (simp [entryFrame, mkF, argsToLocals, Value.category]; done) | rfl]
  refine g_aloadN X0 hx hby d5_0 rfl rfl ?_
  refine g_getF X0 hx hby hZ hown (host := "") (Or.inl w20_) Via.refl e0 VF d5_1 (fun T1 X1 e1 => ?_)
  refine g_arraylength X1 hx hby hZ e1 VB d5_4 ?_
  refine g_aloadN X1 hx hby d5_5 rfl rfl ?_
  refine g_virtual X1 hx hby hZ hown (rm_coder l Z a0 hw [] a (0 : Int32) cz h0 n0 Z0 O2 P5 OLD C) w31_ w32_ (notFace_of_selects (args := #[]) (mvT hZ w34_)) w34_ w33_ w3_ w35_ (by decide) e1 E (by rw [hml]; rfl) [] (lenOf own_pd2 rfl) rfl rfl (Nat.le_of_ble_eq_true rfl) (Nat.le_of_ble_eq_true rfl) (Nat.le_of_ble_eq_true rfl) (Nat.le_of_ble_eq_true rfl) d5_6 (fun v2 T2 L2 X2 hQ2 => ?_)
  obtain ⟨rfl, N2q, eh2⟩ := hQ2
  have N2 := Fr.app N0 N2q
  refine g_topI (T := T2) (0 : Int32) (by decide) ?_
  refine g_ishr X2 hx hby d5_9 ?_
  refine g_topI (0 : Int32) (by decide) ?_
  refine g_iret X2 hx hby Bd.returns Bd.notSynchronized d5_10 eh2 (by decide) (by decide) ?_
  show (Q_slen_0 Z a b kb bs cz h0 n0) (some (.int (0 : Int32))) _ _
  exact ⟨rfl, N2, rfl⟩

theorem d4_0 : decode prog_2_method_17_code 0 = .ok (.iconst 0, 1) := by decide +kernel
theorem d4_1 : decode prog_2_method_17_code 1 = .ok (.istore_n 1, 1) := by decide +kernel
theorem d4_2 : decode prog_2_method_17_code 2 = .ok (.iload_n 1, 1) := by decide +kernel
theorem d4_3 : decode prog_2_method_17_code 3 = .ok (.aload_n 0, 1) := by decide +kernel
theorem d4_4 : decode prog_2_method_17_code 4 = .ok (.invokevirtual 33, 3) := by decide +kernel
theorem own_pd3 : parseMethodDescriptor "()I" = some ⟨[], some .int⟩ := by decide +kernel
theorem d4_7 : decode prog_2_method_17_code 7 = .ok (.if_icmp .ge 42, 3) := by decide +kernel
theorem d4_49 : decode prog_2_method_17_code 49 = .ok (.iconst 1, 1) := by decide +kernel
theorem d4_50 : decode prog_2_method_17_code 50 = .ok (.ireturn, 1) := by decide +kernel
theorem own_pn2 : plainName "com/example/usher/usher/gateway/http/Http1Input" = true := by first | (simp [plainName, overriddenIn]; done) | decide +kernel
def Q_fv_0 (Z : State) (a : Addr) (b : Addr) (kb : ClassId) (cz : Int32) (fz : Value) (h0 : Heap) (n0 : Nat) (v : Option Value) (h : Heap) (L : List Loc) : Prop := v = some (.int (own_fvs [])) ∧ Fr n0 L ∧ h = h0
set_option maxRecDepth 65536 in
set_option maxHeartbeats 40000000 in
theorem rm_fv_0 (l : Launch) (Z : State) (a0 : Array Value) (hw : ∀ d ∈ tables_1, d.before a0 Z = true) (ws : List Jvm.Cond) (a : Addr) (b : Addr) (kb : ClassId) (cz : Int32) (fz : Value) (h0 : Heap) (n0 : Nat) (Z0 : n0 ≤ h0.size) (O2 : Sta Z Z.heap "java/lang/String" "COMPACT_STRINGS" "Z" (.int cz)) (P5 : ¬ cz = (0 : Int32)) (OLD : Old Z n0 h0) (E : Exa Z h0 a "java/lang/String") (C : Fld Z h0 a "java/lang/String" "coder" "B" (.int (0 : Int32))) (VF : Fld Z h0 a "java/lang/String" "value" "[B" (.ref b)) (VB : Arv Z h0 b kb .byte (0 : Int32) [] (.int (0 : Int32))) (rfz : Rf fz) (O4 : Sta Z Z.heap "jdk/internal/util/Preconditions" "SIOOBE_FORMATTER" "Ljava/util/function/BiFunction;" fz) :
    MetFree l (⟨"com/example/usher/usher/gateway/http/Http1Input", "isFieldValue", "(Ljava/lang/String;)Z"⟩ : MethodName) (head1 (Jvm.Cond.code (⟨"com/example/usher/usher/gateway/http/Http1Input", "isFieldValue", "(Ljava/lang/String;)Z"⟩ : MethodName) prog_2_method_17_code 3 (some .boolean) :: ws) ({ frames := 2, cells := 0, slots := 0, locals := 26 } : Room)) (fun aa_ U => aa_ = #[(.ref a)] ∧ Z.Warmed39 U.vm ∧ U.heap = h0) (fun _ _ _ _ _ => True) (fun _ U o_ U' => RetG U (Q_fv_0 Z a b kb cz fz h0 n0) 0 0 U' o_) := by
  refine MetFree.of_bodySF (plainFor_of_name own_pn2) hisR ?_
  intro p e s m args below meth c_ s₁ Bd hml0 hP hK
  obtain ⟨rfl, hZ, hh⟩ := hP
  have hx := Bd.exec
  have hby := Bd.bytes
  have hml : c_.maxLocals = 3 := hml0
  have hown : s.vm.findClass "com/example/usher/usher/gateway/http/Http1Input" = some m.cls := findClass_of_methodNamed Bd.named
  have hnm := (name_of_methodNamed Bd.named Bd.method).1
  have X0 : Stand p l e ({ frames := 2, cells := 0, slots := 0, locals := 26 } : Room) s m #[(.ref a)] below meth c_ s₁ [] 0 0 := Stand.of_body Bd
  have e0 : s₁.heap = h0 := by rw [← hh, Bd.state]; rfl
  have N0 := Fr.nil n0
  have w3_ := hw _ (List.mem_of_getElem? (i := 3) rfl)
  have w26_ := hw _ (List.mem_of_getElem? (i := 26) rfl)
  have w27_ := hw _ (List.mem_of_getElem? (i := 27) rfl)
  have w28_ := hw _ (List.mem_of_getElem? (i := 28) rfl)
  have w29_ := hw _ (List.mem_of_getElem? (i := 29) rfl)
  have w30_ := hw _ (List.mem_of_getElem? (i := 30) rfl)
  show Go p e below (RetG s (Q_fv_0 Z a b kb cz fz h0 n0) 0 0) (s₁.setTop (entryFrame m #[(.ref a)] 3))
  rw [show entryFrame m #[(.ref a)] 3 = mkF m 0 #[.val (.ref a), .unset, .unset] [] from by first | (simp [entryFrame, mkF, argsToLocals, Value.category]; done) | rfl]
  refine g_iconst X0 hx hby (0 : Int32) d4_0 rfl ?_
  refine g_istoreN X0 hx hby d4_1 (l' := #[.val (.ref a), .val (.int (0 : Int32)), .unset]) rfl ?_
  refine g_iloadN X0 hx hby d4_2 rfl ?_
  refine g_aloadN X0 hx hby d4_3 rfl rfl ?_
  refine g_virtual X0 hx hby hZ hown (rm_slen_0 l Z a0 hw [] a b kb [] cz h0 n0 Z0 O2 P5 OLD E C VF VB) w26_ w27_ (notFace_of_selects (args := #[]) (mvT hZ w29_)) w29_ w28_ w3_ w30_ (by decide) e0 E (by rw [hml]; rfl) [] (lenOf own_pd3 rfl) rfl rfl (Nat.le_of_ble_eq_true rfl) (Nat.le_of_ble_eq_true rfl) (Nat.le_of_ble_eq_true rfl) (Nat.le_of_ble_eq_true rfl) d4_4 (fun v1 T1 L1 X1 hQ1 => ?_)
  obtain ⟨rfl, N1q, eh1⟩ := hQ1
  have N1 := Fr.app N0 N1q
  refine g_icY X1 hx hby 49 d4_7 (flt (by decide : ¬ ((0 : Int32) < (0 : Int32)))).2.1 (by decide) (by decide) ?_
  refine g_iconst X1 hx hby (1 : Int32) d4_49 rfl ?_
  refine g_nret X1 hx hby (t := .boolean) (by simp) Bd.returns Bd.notSynchronized d4_50 eh1 (by decide) (by decide) ?_
  show (Q_fv_0 Z a b kb cz fz h0 n0) (some (.int (1 : Int32))) _ _
  exact ⟨by simp [own_fvs], N1, rfl⟩

theorem own_pd4 : parseMethodDescriptor "(Ljava/lang/String;)Z" = some ⟨[(.object "java/lang/String")], some .boolean⟩ := by decide +kernel
theorem d8_0 : decode jdk_52_method_21_code 0 = .ok (.iconst 0, 1) := by decide +kernel
theorem d8_1 : decode jdk_52_method_21_code 1 = .ok (.istore 5, 2) := by decide +kernel
theorem d8_3 : decode jdk_52_method_21_code 3 = .ok (.iload 5, 2) := by decide +kernel
theorem d8_5 : decode jdk_52_method_21_code 5 = .ok (.iload 4, 2) := by decide +kernel
theorem d8_7 : decode jdk_52_method_21_code 7 = .ok (.if_icmp .ge 37, 3) := by decide +kernel
theorem d8_10 : decode jdk_52_method_21_code 10 = .ok (.aload_n 0, 1) := by decide +kernel
theorem d8_11 : decode jdk_52_method_21_code 11 = .ok (.iload_n 1, 1) := by decide +kernel
theorem d8_12 : decode jdk_52_method_21_code 12 = .ok (.caload, 1) := by decide +kernel
theorem d8_13 : decode jdk_52_method_21_code 13 = .ok (.istore 6, 2) := by decide +kernel
theorem d8_15 : decode jdk_52_method_21_code 15 = .ok (.iload 6, 2) := by decide +kernel
theorem d8_17 : decode jdk_52_method_21_code 17 = .ok (.sipush 255, 3) := by decide +kernel
theorem d8_20 : decode jdk_52_method_21_code 20 = .ok (.if_icmp .le 6, 3) := by decide +kernel
theorem d8_23 : decode jdk_52_method_21_code 23 = .ok (.iload 5, 2) := by decide +kernel
theorem d8_25 : decode jdk_52_method_21_code 25 = .ok (.ireturn, 1) := by decide +kernel
theorem own_pn3 : plainName "java/lang/StringUTF16" = true := by first | (simp [plainName, overriddenIn]; done) | decide +kernel
def Q_cmp5f_1_0 (Z : State) (ca : Addr) (ba : Addr) (kc : ClassId) (kb : ClassId) (c0 : Int32) (h0 : Heap) (n0 : Nat) (v : Option Value) (h : Heap) (L : List Loc) : Prop := v = some (.int (0 : Int32)) ∧ Fr n0 L ∧ Keep h0 h [ba]
set_option maxRecDepth 65536 in
set_option maxHeartbeats 40000000 in
theorem rm_cmp5f_1_0 (l : Launch) (Z : State) (a0 : Array Value) (hw : ∀ d ∈ tables_1, d.before a0 Z = true) (ws : List Jvm.Cond) (ca : Addr) (ba : Addr) (kc : ClassId) (kb : ClassId) (c0 : Int32) (h0 : Heap) (n0 : Nat) (Z0 : n0 ≤ h0.size) (VC : Arv Z h0 ca kc .char (1 : Int32) [(.int c0)] (.int (0 : Int32))) (VB : Arv Z h0 ba kb .byte (1 : Int32) [(.int (0 : Int32))] (.int (0 : Int32))) (nab : ca ≠ ba) (gb : n0 ≤ ba) (hf : (255 : Int32) < c0) :
    MetFree l (⟨"java/lang/StringUTF16", "compress", "([CI[BII)I"⟩ : MethodName) (head1 (Jvm.Cond.code (⟨"java/lang/StringUTF16", "compress", "([CI[BII)I"⟩ : MethodName) jdk_52_method_21_code 7 (some .int) :: ws) ({ frames := 0, cells := 0, slots := 0, locals := 0 } : Room)) (fun aa_ U => aa_ = #[(.ref ca), (.int (0 : Int32)), (.ref ba), (.int (0 : Int32)), (.int (1 : Int32))] ∧ Z.Warmed39 U.vm ∧ U.heap = h0) (fun _ _ _ _ _ => True) (fun _ U o_ U' => RetG U (Q_cmp5f_1_0 Z ca ba kc kb c0 h0 n0) 0 0 U' o_) := by
  refine MetFree.of_bodySF (plainFor_of_name own_pn3) hisR ?_
  intro p e s m args below meth c_ s₁ Bd hml0 hP hK
  obtain ⟨rfl, hZ, hh⟩ := hP
  have hx := Bd.exec
  have hby := Bd.bytes
  have hml : c_.maxLocals = 7 := hml0
  have hown : s.vm.findClass "java/lang/StringUTF16" = some m.cls := findClass_of_methodNamed Bd.named
  have hnm := (name_of_methodNamed Bd.named Bd.method).1
  have X0 : Stand p l e ({ frames := 0, cells := 0, slots := 0, locals := 0 } : Room) s m #[(.ref ca), (.int (0 : Int32)), (.ref ba), (.int (0 : Int32)), (.int (1 : Int32))] below meth c_ s₁ [] 0 0 := Stand.of_body Bd
  have e0 : s₁.heap = h0 := by rw [← hh, Bd.state]; rfl
  have N0 := Fr.nil n0
  show Go p e below (RetG s (Q_cmp5f_1_0 Z ca ba kc kb c0 h0 n0) 0 0) (s₁.setTop (entryFrame m #[(.ref ca), (.int (0 : Int32)), (.ref ba), (.int (0 : Int32)), (.int (1 : Int32))] 7))
  rw [show entryFrame m #[(.ref ca), (.int (0 : Int32)), (.ref ba), (.int (0 : Int32)), (.int (1 : Int32))] 7 = mkF m 0 #[.val (.ref ca), .val (.int (0 : Int32)), .val (.ref ba), .val (.int (0 : Int32)), .val (.int (1 : Int32)), .unset, .unset] [] from by first | (simp [entryFrame, mkF, argsToLocals, Value.category]; done) | rfl]
  refine g_iconst X0 hx hby (0 : Int32) d8_0 rfl ?_
  refine g_istore X0 hx hby d8_1 (l' := #[.val (.ref ca), .val (.int (0 : Int32)), .val (.ref ba), .val (.int (0 : Int32)), .val (.int (1 : Int32)), .val (.int (0 : Int32)), .unset]) rfl ?_
  refine g_iload X0 hx hby d8_3 rfl ?_
  refine g_iload X0 hx hby d8_5 rfl ?_
  refine g_icN X0 hx hby d8_7 (tlt (by decide : (0 : Int32) < (1 : Int32))).2.1 ?_
  refine g_aloadN X0 hx hby d8_10 rfl rfl ?_
  refine g_iloadN X0 hx hby d8_11 rfl ?_
  refine g_caload X0 hx hby hZ e0 VC (.int c0) ⟨by decide, by decide⟩ rfl d8_12 ?_
  refine g_istore X0 hx hby d8_13 (l' := #[.val (.ref ca), .val (.int (0 : Int32)), .val (.ref ba), .val (.int (0 : Int32)), .val (.int (1 : Int32)), .val (.int (0 : Int32)), .val (.int c0)]) rfl ?_
  refine g_iload X0 hx hby d8_15 rfl ?_
  refine g_sipush X0 hx hby (255 : Int32) d8_17 rfl ?_
  refine g_icN X0 hx hby d8_20 (tlt (hf : (255 : Int32) < c0)).2.2.2 ?_
  refine g_iload X0 hx hby d8_23 rfl ?_
  refine g_iret X0 hx hby Bd.returns Bd.notSynchronized d8_25 e0 (by decide) (by decide) ?_
  show (Q_cmp5f_1_0 Z ca ba kc kb c0 h0 n0) (some (.int (0 : Int32))) _ _
  exact ⟨rfl, N0, (Keep.refl h0 [ba])⟩

theorem d18_0 : decode jdk_52_method_3_code 0 = .ok (.iload_n 0, 1) := by decide +kernel
theorem d18_1 : decode jdk_52_method_3_code 1 = .ok (.ifCond .ge 11, 3) := by decide +kernel
theorem d18_12 : decode jdk_52_method_3_code 12 = .ok (.iload_n 0, 1) := by decide +kernel
theorem d18_13 : decode jdk_52_method_3_code 13 = .ok (.ldc 20, 2) := by decide +kernel
theorem d18_15 : decode jdk_52_method_3_code 15 = .ok (.if_icmp .lt 40, 3) := by decide +kernel
theorem d18_55 : decode jdk_52_method_3_code 55 = .ok (.iload_n 0, 1) := by decide +kernel
theorem d18_56 : decode jdk_52_method_3_code 56 = .ok (.iconst 1, 1) := by decide +kernel
theorem d18_57 : decode jdk_52_method_3_code 57 = .ok (.ishl, 1) := by decide +kernel
theorem d18_58 : decode jdk_52_method_3_code 58 = .ok (.ireturn, 1) := by decide +kernel
def Q_nbl_1 (Z : State)  (h0 : Heap) (n0 : Nat) (v : Option Value) (h : Heap) (L : List Loc) : Prop := v = some (.int (2 : Int32)) ∧ Fr n0 L ∧ h = h0
set_option maxRecDepth 65536 in
set_option maxHeartbeats 40000000 in
theorem rm_nbl_1 (l : Launch) (Z : State) (a0 : Array Value) (hw : ∀ d ∈ tables_1, d.before a0 Z = true) (ws : List Jvm.Cond)  (h0 : Heap) (n0 : Nat) (Z0 : n0 ≤ h0.size) :
    MetFree l (⟨"java/lang/StringUTF16", "newBytesLength", "(I)I"⟩ : MethodName) (head1 (Jvm.Cond.code (⟨"java/lang/StringUTF16", "newBytesLength", "(I)I"⟩ : MethodName) jdk_52_method_3_code 1 (some .int) :: ws) ({ frames := 0, cells := 0, slots := 0, locals := 0 } : Room)) (fun aa_ U => aa_ = #[(.int (1 : Int32))] ∧ Z.Warmed39 U.vm ∧ U.heap = h0) (fun _ _ _ _ _ => True) (fun _ U o_ U' => RetG U (Q_nbl_1 Z h0 n0) 0 0 U' o_) := by
  refine MetFree.of_bodySF (plainFor_of_name own_pn3) hisR ?_
  intro p e s m args below meth c_ s₁ Bd hml0 hP hK
  obtain ⟨rfl, hZ, hh⟩ := hP
  have hx := Bd.exec
  have hby := Bd.bytes
  have hml : c_.maxLocals = 1 := hml0
  have hown : s.vm.findClass "java/lang/StringUTF16" = some m.cls := findClass_of_methodNamed Bd.named
  have hnm := (name_of_methodNamed Bd.named Bd.method).1
  have X0 : Stand p l e ({ frames := 0, cells := 0, slots := 0, locals := 0 } : Room) s m #[(.int (1 : Int32))] below meth c_ s₁ [] 0 0 := Stand.of_body Bd
  have e0 : s₁.heap = h0 := by rw [← hh, Bd.state]; rfl
  have N0 := Fr.nil n0
  have w82_ := hw _ (List.mem_of_getElem? (i := 82) rfl)
  show Go p e below (RetG s (Q_nbl_1 Z h0 n0) 0 0) (s₁.setTop (entryFrame m #[(.int (1 : Int32))] 1))
  rw [show entryFrame m #[(.int (1 : Int32))] 1 = mkF m 0 #[.val (.int (1 : Int32))] [] from by first | (simp [entryFrame, mkF, argsToLocals, Value.category]; done) | rfl]
  refine g_iloadN X0 hx hby d18_0 rfl ?_
  refine g_ifY X0 hx hby 12 d18_1 (flt (by decide : ¬ ((1 : Int32) < (0 : Int32)))).2.1 (by decide) (by decide) ?_
  refine g_iloadN X0 hx hby d18_12 rfl ?_
  refine g_ldcI X0 hx hby hZ hown w82_ d18_13 ?_
  refine g_icY X0 hx hby 55 d18_15 (tlt (by decide : (1 : Int32) < (1073741823 : Int32))).1 (by decide) (by decide) ?_
  refine g_iloadN X0 hx hby d18_55 rfl ?_
  refine g_iconst X0 hx hby (1 : Int32) d18_56 rfl ?_
  refine g_ishl X0 hx hby d18_57 ?_
  refine g_topI (2 : Int32) (by decide) ?_
  refine g_iret X0 hx hby Bd.returns Bd.notSynchronized d18_58 e0 (by decide) (by decide) ?_
  show (Q_nbl_1 Z h0 n0) (some (.int (2 : Int32))) _ _
  exact ⟨rfl, N0, rfl⟩

theorem d17_0 : decode jdk_52_method_2_code 0 = .ok (.iload_n 0, 1) := by decide +kernel
theorem d17_1 : decode jdk_52_method_2_code 1 = .ok (.invokestatic 11, 3) := by decide +kernel
theorem own_pd5 : parseMethodDescriptor "(I)I" = some ⟨[.int], some .int⟩ := by decide +kernel
theorem d17_4 : decode jdk_52_method_2_code 4 = .ok (.newarray .byte, 2) := by decide +kernel
theorem d17_6 : decode jdk_52_method_2_code 6 = .ok (.areturn, 1) := by decide +kernel
def Q_nbf_1 (Z : State)  (h0 : Heap) (n0 : Nat) (v : Option Value) (h : Heap) (L : List Loc) : Prop := Fr n0 L ∧ Keep h0 h [] ∧ ∃ (b : Addr) (kb : ClassId), v = some (.ref b) ∧ h0.size ≤ b ∧ Arv Z h b kb .byte (2 : Int32) [(.int (0 : Int32)), (.int (0 : Int32))] (.int (0 : Int32))
set_option maxRecDepth 65536 in
set_option maxHeartbeats 40000000 in
theorem rm_nbf_1 (l : Launch) (Z : State) (a0 : Array Value) (hw : ∀ d ∈ tables_1, d.before a0 Z = true) (ws : List Jvm.Cond)  (h0 : Heap) (n0 : Nat) (Z0 : n0 ≤ h0.size) :
    MetFree l (⟨"java/lang/StringUTF16", "newBytesFor", "(I)[B"⟩ : MethodName) (head1 (Jvm.Cond.code (⟨"java/lang/StringUTF16", "newBytesFor", "(I)[B"⟩ : MethodName) jdk_52_method_2_code 1 (some (.array .byte)) :: ws) ({ frames := 1, cells := 1, slots := 2, locals := 12 } : Room)) (fun aa_ U => aa_ = #[(.int (1 : Int32))] ∧ Z.Warmed39 U.vm ∧ U.heap = h0) (fun _ _ _ _ _ => True) (fun _ U o_ U' => RetG U (Q_nbf_1 Z h0 n0) 1 2 U' o_) := by
  refine MetFree.of_bodySF (plainFor_of_name own_pn3) hisR ?_
  intro p e s m args below meth c_ s₁ Bd hml0 hP hK
  obtain ⟨rfl, hZ, hh⟩ := hP
  have hx := Bd.exec
  have hby := Bd.bytes
  have hml : c_.maxLocals = 1 := hml0
  have hown : s.vm.findClass "java/lang/StringUTF16" = some m.cls := findClass_of_methodNamed Bd.named
  have hnm := (name_of_methodNamed Bd.named Bd.method).1
  have X0 : Stand p l e ({ frames := 1, cells := 1, slots := 2, locals := 12 } : Room) s m #[(.int (1 : Int32))] below meth c_ s₁ [] 0 0 := Stand.of_body Bd
  have e0 : s₁.heap = h0 := by rw [← hh, Bd.state]; rfl
  have N0 := Fr.nil n0
  have w15_ := hw _ (List.mem_of_getElem? (i := 15) rfl)
  have w39_ := hw _ (List.mem_of_getElem? (i := 39) rfl)
  have w79_ := hw _ (List.mem_of_getElem? (i := 79) rfl)
  have w80_ := hw _ (List.mem_of_getElem? (i := 80) rfl)
  have w81_ := hw _ (List.mem_of_getElem? (i := 81) rfl)
  show Go p e below (RetG s (Q_nbf_1 Z h0 n0) 1 2) (s₁.setTop (entryFrame m #[(.int (1 : Int32))] 1))
  rw [show entryFrame m #[(.int (1 : Int32))] 1 = mkF m 0 #[.val (.int (1 : Int32))] [] from by first | (simp [entryFrame, mkF, argsToLocals, Value.category]; done) | rfl]
  refine g_iloadN X0 hx hby d17_0 rfl ?_
  refine g_static X0 hx hby hZ hown (rm_nbl_1 l Z a0 hw []  h0 n0 Z0 ) w79_ w80_ w39_ w81_ (by decide) e0 (by rw [hml]; rfl) [(.int (1 : Int32))] (lenOf own_pd5 rfl) rfl rfl (Nat.le_of_ble_eq_true rfl) (Nat.le_of_ble_eq_true rfl) (Nat.le_of_ble_eq_true rfl) (Nat.le_of_ble_eq_true rfl) d17_1 (fun v1 T1 L1 X1 hQ1 => ?_)
  obtain ⟨rfl, N1q, eh1⟩ := hQ1
  have N1 := Fr.app N0 N1q
  refine g_newarray X1 hx hby hZ .byte .byte (.int (0 : Int32)) [(.int (0 : Int32)), (.int (0 : Int32))] rfl rfl w15_ eh1 (by decide) 2 rfl (by decide) (by decide) (by decide) (by decide) d17_4 (fun T2 h2 k2 b2 g2 X2 e2 E2 V2 => ?_)
  refine g_aret X2 hx hby (t := (.array .byte)) rfl rfl rfl Bd.returns Bd.notSynchronized d17_6 e2 (by decide) (by decide) ?_
  show (Q_nbf_1 Z h0 n0) (some (.ref b2)) _ _
  exact ⟨N1, ((Keep.refl h0 []).ext E2), b2, k2, rfl, (Nat.le_trans (Nat.le_refl _) (Nat.le_of_eq g2)), V2⟩

theorem d19_0 : decode jdk_52_method_4_code 0 = .ok (.getstatic 44, 3) := by decide +kernel
theorem d19_3 : decode jdk_52_method_4_code 3 = .ok (.ifCond .ne 25, 3) := by decide +kernel
theorem d19_28 : decode jdk_52_method_4_code 28 = .ok (.iload_n 1, 1) := by decide +kernel
theorem d19_29 : decode jdk_52_method_4_code 29 = .ok (.iconst 1, 1) := by decide +kernel
theorem d19_30 : decode jdk_52_method_4_code 30 = .ok (.ishl, 1) := by decide +kernel
theorem d19_31 : decode jdk_52_method_4_code 31 = .ok (.istore_n 1, 1) := by decide +kernel
theorem d19_32 : decode jdk_52_method_4_code 32 = .ok (.aload_n 0, 1) := by decide +kernel
theorem d19_33 : decode jdk_52_method_4_code 33 = .ok (.iload_n 1, 1) := by decide +kernel
theorem d19_34 : decode jdk_52_method_4_code 34 = .ok (.iinc 1 1, 3) := by decide +kernel
theorem d19_37 : decode jdk_52_method_4_code 37 = .ok (.iload_n 2, 1) := by decide +kernel
theorem d19_38 : decode jdk_52_method_4_code 38 = .ok (.getstatic 59, 3) := by decide +kernel
theorem d19_41 : decode jdk_52_method_4_code 41 = .ok (.ishr, 1) := by decide +kernel
theorem d19_42 : decode jdk_52_method_4_code 42 = .ok (.i2b, 1) := by decide +kernel
theorem d19_43 : decode jdk_52_method_4_code 43 = .ok (.bastore, 1) := by decide +kernel
theorem d19_44 : decode jdk_52_method_4_code 44 = .ok (.aload_n 0, 1) := by decide +kernel
theorem d19_45 : decode jdk_52_method_4_code 45 = .ok (.iload_n 1, 1) := by decide +kernel
theorem d19_46 : decode jdk_52_method_4_code 46 = .ok (.iload_n 2, 1) := by decide +kernel
theorem d19_47 : decode jdk_52_method_4_code 47 = .ok (.getstatic 63, 3) := by decide +kernel
theorem d19_50 : decode jdk_52_method_4_code 50 = .ok (.ishr, 1) := by decide +kernel
theorem d19_51 : decode jdk_52_method_4_code 51 = .ok (.i2b, 1) := by decide +kernel
theorem d19_52 : decode jdk_52_method_4_code 52 = .ok (.bastore, 1) := by decide +kernel
theorem d19_53 : decode jdk_52_method_4_code 53 = .ok (.return_, 1) := by decide +kernel
def Q_putc_1_0 (Z : State) (b : Addr) (kb : ClassId) (c : Int32) (v0 : Int32) (v1 : Int32) (h0 : Heap) (n0 : Nat) (v : Option Value) (h : Heap) (L : List Loc) : Prop := v = none ∧ Fr n0 L ∧ Keep h0 h [b] ∧ Arv Z h b kb .byte (2 : Int32) [(.int (own_lob c)), (.int (own_hib c))] (.int (0 : Int32))
set_option maxRecDepth 65536 in
set_option maxHeartbeats 40000000 in
theorem rm_putc_1_0 (l : Launch) (Z : State) (a0 : Array Value) (hw : ∀ d ∈ tables_1, d.before a0 Z = true) (ws : List Jvm.Cond) (b : Addr) (kb : ClassId) (c : Int32) (v0 : Int32) (v1 : Int32) (h0 : Heap) (n0 : Nat) (Z0 : n0 ≤ h0.size) (Uad : Sta Z Z.heap "java/lang/StringUTF16" "$assertionsDisabled" "Z" (.int (1 : Int32))) (Uhi : Sta Z Z.heap "java/lang/StringUTF16" "HI_BYTE_SHIFT" "I" (.int (0 : Int32))) (Ulo : Sta Z Z.heap "java/lang/StringUTF16" "LO_BYTE_SHIFT" "I" (.int (8 : Int32))) (OLD : Old Z n0 h0) (VB : Arv Z h0 b kb .byte (2 : Int32) [(.int v0), (.int v1)] (.int (0 : Int32))) (gb : n0 ≤ b) :
    MetFree l (⟨"java/lang/StringUTF16", "putChar", "([BII)V"⟩ : MethodName) (head1 (Jvm.Cond.code (⟨"java/lang/StringUTF16", "putChar", "([BII)V"⟩ : MethodName) jdk_52_method_4_code 3 none :: ws) ({ frames := 0, cells := 0, slots := 0, locals := 0 } : Room)) (fun aa_ U => aa_ = #[(.ref b), (.int (0 : Int32)), (.int c)] ∧ Z.Warmed39 U.vm ∧ U.heap = h0) (fun _ _ _ _ _ => True) (fun _ U o_ U' => RetG U (Q_putc_1_0 Z b kb c v0 v1 h0 n0) 0 0 U' o_) := by
  refine MetFree.of_bodySF (plainFor_of_name own_pn3) hisR ?_
  intro p e s m args below meth c_ s₁ Bd hml0 hP hK
  obtain ⟨rfl, hZ, hh⟩ := hP
  have hx := Bd.exec
  have hby := Bd.bytes
  have hml : c_.maxLocals = 3 := hml0
  have hown : s.vm.findClass "java/lang/StringUTF16" = some m.cls := findClass_of_methodNamed Bd.named
  have hnm := (name_of_methodNamed Bd.named Bd.method).1
  have X0 : Stand p l e ({ frames := 0, cells := 0, slots := 0, locals := 0 } : Room) s m #[(.ref b), (.int (0 : Int32)), (.int c)] below meth c_ s₁ [] 0 0 := Stand.of_body Bd
  have e0 : s₁.heap = h0 := by rw [← hh, Bd.state]; rfl
  have N0 := Fr.nil n0
  have w86_ := hw _ (List.mem_of_getElem? (i := 86) rfl)
  have w87_ := hw _ (List.mem_of_getElem? (i := 87) rfl)
  have w88_ := hw _ (List.mem_of_getElem? (i := 88) rfl)
  show Go p e below (RetG s (Q_putc_1_0 Z b kb c v0 v1 h0 n0) 0 0) (s₁.setTop (entryFrame m #[(.ref b), (.int (0 : Int32)), (.int c)] 3))
  rw [show entryFrame m #[(.ref b), (.int (0 : Int32)), (.int c)] 3 = mkF m 0 #[.val (.ref b), .val (.int (0 : Int32)), .val (.int c)] [] from by first | (simp [entryFrame, mkF, argsToLocals, Value.category]; done) | rfl]
  refine g_getS X0 hx hby hZ hown (host := "") (Or.inl w86_) Via.refl e0 (Uad.ext OLD.2) d19_0 (fun T1 X1 e1 => ?_)
  refine g_ifY X1 hx hby 28 d19_3 (feq (by decide : ¬ ((1 : Int32) = (0 : Int32)))).2 (by decide) (by decide) ?_
  refine g_iloadN X1 hx hby d19_28 rfl ?_
  refine g_iconst X1 hx hby (1 : Int32) d19_29 rfl ?_
  refine g_ishl X1 hx hby d19_30 ?_
  refine g_topI (0 : Int32) (by decide) ?_
  refine g_istoreN X1 hx hby d19_31 (l' := #[.val (.ref b), .val (.int (0 : Int32)), .val (.int c)]) rfl ?_
  refine g_aloadN X1 hx hby d19_32 rfl rfl ?_
  refine g_iloadN X1 hx hby d19_33 rfl ?_
  refine g_iinc X1 hx hby (1 : Int32) d19_34 rfl (by decide) (l' := #[.val (.ref b), .val (.int (1 : Int32)), .val (.int c)]) rfl ?_
  refine g_iloadN X1 hx hby d19_37 rfl ?_
  refine g_getS X1 hx hby hZ hown (host := "") (Or.inl w87_) Via.refl e1 (Uhi.ext OLD.2) d19_38 (fun T2 X2 e2 => ?_)
  refine g_ishr X2 hx hby d19_41 ?_
  refine g_i2b X2 hx hby d19_42 ?_
  refine g_bastore X2 hx hby hZ e2 VB 0 [(.int (nar .byte ((c >>> ((0 : Int32) &&& 31)).toInt8.toInt32))), (.int v1)] rfl ⟨by decide, by decide⟩ rfl (Nat.le_of_ble_eq_true rfl) N0 gb d19_43 (fun T3 h3 X3 e3 W3 V3 N3 => ?_)
  refine g_aloadN X3 hx hby d19_44 rfl rfl ?_
  refine g_iloadN X3 hx hby d19_45 rfl ?_
  refine g_iloadN X3 hx hby d19_46 rfl ?_
  have f4 := (OLD.wr W3 gb)
  refine g_getS X3 hx hby hZ hown (host := "") (Or.inl w88_) Via.refl e3 (Ulo.ext f4.2) d19_47 (fun T5 X5 e5 => ?_)
  refine g_ishr X5 hx hby d19_50 ?_
  refine g_i2b X5 hx hby d19_51 ?_
  refine g_bastore X5 hx hby hZ e5 V3 1 [(.int (nar .byte ((c >>> ((0 : Int32) &&& 31)).toInt8.toInt32))), (.int (nar .byte ((c >>> ((8 : Int32) &&& 31)).toInt8.toInt32)))] rfl ⟨by decide, by decide⟩ rfl (Nat.le_of_ble_eq_true rfl) N3 gb d19_52 (fun T6 h6 X6 e6 W6 V6 N6 => ?_)
  refine g_ret X6 hx hby Bd.returns Bd.notSynchronized d19_53 e6 (by decide) (by decide) ?_
  show (Q_putc_1_0 Z b kb c v0 v1 h0 n0) none _ _
  exact ⟨rfl, N6, (((Keep.refl h0 [b]).wr W3 (Or.inl (List.mem_of_getElem? (i := 0) rfl))).wr W6 (Or.inl (List.mem_of_getElem? (i := 0) rfl))), V6⟩

theorem d16_0 : decode jdk_52_method_14_code 0 = .ok (.iload_n 2, 1) := by decide +kernel
theorem d16_1 : decode jdk_52_method_14_code 1 = .ok (.invokestatic 107, 3) := by decide +kernel
theorem own_pd6 : parseMethodDescriptor "(I)[B" = some ⟨[.int], some (.array .byte)⟩ := by decide +kernel
theorem d16_4 : decode jdk_52_method_14_code 4 = .ok (.astore_n 3, 1) := by decide +kernel
theorem d16_5 : decode jdk_52_method_14_code 5 = .ok (.iconst 0, 1) := by decide +kernel
theorem d16_6 : decode jdk_52_method_14_code 6 = .ok (.istore 4, 2) := by decide +kernel
theorem d16_8 : decode jdk_52_method_14_code 8 = .ok (.iload 4, 2) := by decide +kernel
theorem d16_10 : decode jdk_52_method_14_code 10 = .ok (.iload_n 2, 1) := by decide +kernel
theorem d16_11 : decode jdk_52_method_14_code 11 = .ok (.if_icmp .ge 21, 3) := by decide +kernel
theorem d16_14 : decode jdk_52_method_14_code 14 = .ok (.aload_n 3, 1) := by decide +kernel
theorem d16_15 : decode jdk_52_method_14_code 15 = .ok (.iload 4, 2) := by decide +kernel
theorem d16_17 : decode jdk_52_method_14_code 17 = .ok (.aload_n 0, 1) := by decide +kernel
theorem d16_18 : decode jdk_52_method_14_code 18 = .ok (.iload_n 1, 1) := by decide +kernel
theorem d16_19 : decode jdk_52_method_14_code 19 = .ok (.caload, 1) := by decide +kernel
theorem d16_20 : decode jdk_52_method_14_code 20 = .ok (.invokestatic 111, 3) := by decide +kernel
theorem own_pd7 : parseMethodDescriptor "([BII)V" = some ⟨[(.array .byte), .int, .int], none⟩ := by decide +kernel
theorem d16_23 : decode jdk_52_method_14_code 23 = .ok (.iinc 1 1, 3) := by decide +kernel
theorem d16_26 : decode jdk_52_method_14_code 26 = .ok (.iinc 4 1, 3) := by decide +kernel
theorem d16_29 : decode jdk_52_method_14_code 29 = .ok (.goto (-21), 3) := by decide +kernel
theorem d16_32 : decode jdk_52_method_14_code 32 = .ok (.aload_n 3, 1) := by decide +kernel
theorem d16_33 : decode jdk_52_method_14_code 33 = .ok (.areturn, 1) := by decide +kernel
def Q_tob_1 (Z : State) (ca : Addr) (kc : ClassId) (c0 : Int32) (h0 : Heap) (n0 : Nat) (v : Option Value) (h : Heap) (L : List Loc) : Prop := Fr n0 L ∧ Keep h0 h [] ∧ ∃ (b : Addr) (kb : ClassId), v = some (.ref b) ∧ h0.size ≤ b ∧ Arv Z h b kb .byte (2 : Int32) [(.int (own_lob c0)), (.int (own_hib c0))] (.int (0 : Int32))
set_option maxRecDepth 65536 in
set_option maxHeartbeats 40000000 in
theorem rm_tob_1 (l : Launch) (Z : State) (a0 : Array Value) (hw : ∀ d ∈ tables_1, d.before a0 Z = true) (ws : List Jvm.Cond) (ca : Addr) (kc : ClassId) (c0 : Int32) (h0 : Heap) (n0 : Nat) (Z0 : n0 ≤ h0.size) (Uad : Sta Z Z.heap "java/lang/StringUTF16" "$assertionsDisabled" "Z" (.int (1 : Int32))) (Uhi : Sta Z Z.heap "java/lang/StringUTF16" "HI_BYTE_SHIFT" "I" (.int (0 : Int32))) (Ulo : Sta Z Z.heap "java/lang/StringUTF16" "LO_BYTE_SHIFT" "I" (.int (8 : Int32))) (OLD : Old Z n0 h0) (VC : Arv Z h0 ca kc .char (1 : Int32) [(.int c0)] (.int (0 : Int32))) :
    MetFree l (⟨"java/lang/StringUTF16", "toBytes", "([CII)[B"⟩ : MethodName) (head1 (Jvm.Cond.code (⟨"java/lang/StringUTF16", "toBytes", "([CII)[B"⟩ : MethodName) jdk_52_method_14_code 5 (some (.array .byte)) :: ws) ({ frames := 2, cells := 1, slots := 2, locals := 24 } : Room)) (fun aa_ U => aa_ = #[(.ref ca), (.int (0 : Int32)), (.int (1 : Int32))] ∧ Z.Warmed39 U.vm ∧ U.heap = h0) (fun _ _ _ _ _ => True) (fun _ U o_ U' => RetG U (Q_tob_1 Z ca kc c0 h0 n0) 1 2 U' o_) := by
  refine MetFree.of_bodySF (plainFor_of_name own_pn3) hisR ?_
  intro p e s m args below meth c_ s₁ Bd hml0 hP hK
  obtain ⟨rfl, hZ, hh⟩ := hP
  have hx := Bd.exec
  have hby := Bd.bytes
  have hml : c_.maxLocals = 5 := hml0
  have hown : s.vm.findClass "java/lang/StringUTF16" = some m.cls := findClass_of_methodNamed Bd.named
  have hnm := (name_of_methodNamed Bd.named Bd.method).1
  have X0 : Stand p l e ({ frames := 2, cells := 1, slots := 2, locals := 24 } : Room) s m #[(.ref ca), (.int (0 : Int32)), (.int (1 : Int32))] below meth c_ s₁ [] 0 0 := Stand.of_body Bd
  have e0 : s₁.heap = h0 := by rw [← hh, Bd.state]; rfl
  have N0 := Fr.nil n0
  have w39_ := hw _ (List.mem_of_getElem? (i := 39) rfl)
  have w76_ := hw _ (List.mem_of_getElem? (i := 76) rfl)
  have w77_ := hw _ (List.mem_of_getElem? (i := 77) rfl)
  have w78_ := hw _ (List.mem_of_getElem? (i := 78) rfl)
  have w83_ := hw _ (List.mem_of_getElem? (i := 83) rfl)
  have w84_ := hw _ (List.mem_of_getElem? (i := 84) rfl)
  have w85_ := hw _ (List.mem_of_getElem? (i := 85) rfl)
  show Go p e below (RetG s (Q_tob_1 Z ca kc c0 h0 n0) 1 2) (s₁.setTop (entryFrame m #[(.ref ca), (.int (0 : Int32)), (.int (1 : Int32))] 5))
  rw [show entryFrame m #[(.ref ca), (.int (0 : Int32)), (.int (1 : Int32))] 5 = mkF m 0 #[.val (.ref ca), .val (.int (0 : Int32)), .val (.int (1 : Int32)), .unset, .unset] [] from by first | (simp [entryFrame, mkF, argsToLocals, Value.category]; done) | rfl]
  refine g_iloadN X0 hx hby d16_0 rfl ?_
  refine g_static X0 hx hby hZ hown (rm_nbf_1 l Z a0 hw []  h0 n0 Z0 ) w76_ w77_ w39_ w78_ (by decide) e0 (by rw [hml]; rfl) [(.int (1 : Int32))] (lenOf own_pd6 rfl) rfl rfl (Nat.le_of_ble_eq_true rfl) (Nat.le_of_ble_eq_true rfl) (Nat.le_of_ble_eq_true rfl) (Nat.le_of_ble_eq_true rfl) d16_1 (fun v1 T1 L1 X1 hQ1 => ?_)
  obtain ⟨N1q, K1, bb, kbb, rfl, lob, Vb⟩ := hQ1
  have N1 := Fr.app N0 N1q
  refine g_astoreN X1 hx hby d16_4 rfl (l' := #[.val (.ref ca), .val (.int (0 : Int32)), .val (.int (1 : Int32)), .val (.ref bb), .unset]) rfl ?_
  refine g_iconst X1 hx hby (0 : Int32) d16_5 rfl ?_
  refine g_istore X1 hx hby d16_6 (l' := #[.val (.ref ca), .val (.int (0 : Int32)), .val (.int (1 : Int32)), .val (.ref bb), .val (.int (0 : Int32))]) rfl ?_
  refine g_iload X1 hx hby d16_8 rfl ?_
  refine g_iloadN X1 hx hby d16_10 rfl ?_
  refine g_icN X1 hx hby d16_11 (tlt (by decide : (0 : Int32) < (1 : Int32))).2.1 ?_
  refine g_aloadN X1 hx hby d16_14 rfl rfl ?_
  refine g_iload X1 hx hby d16_15 rfl ?_
  refine g_aloadN X1 hx hby d16_17 rfl rfl ?_
  refine g_iloadN X1 hx hby d16_18 rfl ?_
  have f2 := (VC.keep K1 nin0)
  refine g_caload X1 hx hby hZ rfl f2 (.int c0) ⟨by decide, by decide⟩ rfl d16_19 ?_
  have f4 := (OLD.keep K1 all0)
  have g_bb : n0 ≤ bb := Nat.le_trans Z0 lob
  have z5 := (Nat.le_trans Z0 K1.1)
  refine g_static X1 hx hby hZ hown (rm_putc_1_0 l Z a0 hw [] bb kbb c0 (0 : Int32) (0 : Int32) T1.heap n0 z5 Uad Uhi Ulo f4 Vb g_bb) w83_ w84_ w39_ w85_ (by decide) rfl (by rw [hml]; rfl) [(.ref bb), (.int (0 : Int32)), (.int c0)] (lenOf own_pd7 rfl) rfl rfl (Nat.le_of_ble_eq_true rfl) (Nat.le_of_ble_eq_true rfl) (Nat.le_of_ble_eq_true rfl) (Nat.le_of_ble_eq_true rfl) d16_20 (fun v3 T3 L3 X3 hQ3 => ?_)
  obtain ⟨rfl, N3q, K3, V3⟩ := hQ3
  have N3 := Fr.app N1 N3q
  refine g_iinc X3 hx hby (1 : Int32) d16_23 rfl (by decide) (l' := #[.val (.ref ca), .val (.int (1 : Int32)), .val (.int (1 : Int32)), .val (.ref bb), .val (.int (0 : Int32))]) rfl ?_
  refine g_at 26 rfl rfl rfl ?_
  refine g_iinc X3 hx hby (1 : Int32) d16_26 rfl (by decide) (l' := #[.val (.ref ca), .val (.int (1 : Int32)), .val (.int (1 : Int32)), .val (.ref bb), .val (.int (1 : Int32))]) rfl ?_
  refine g_goto X3 hx hby 8 d16_29 (by decide) (by decide) ?_
  refine g_iload X3 hx hby d16_8 rfl ?_
  refine g_iloadN X3 hx hby d16_10 rfl ?_
  refine g_icY X3 hx hby 32 d16_11 (flt (by decide : ¬ ((1 : Int32) < (1 : Int32)))).2.1 (by decide) (by decide) ?_
  refine g_aloadN X3 hx hby d16_32 rfl rfl ?_
  refine g_aret X3 hx hby (t := (.array .byte)) rfl rfl rfl Bd.returns Bd.notSynchronized d16_33 rfl (by decide) (by decide) ?_
  show (Q_tob_1 Z ca kc c0 h0 n0) (some (.ref bb)) _ _
  exact ⟨N3, (((Keep.refl h0 []).trans K1 all0).trans K3 (allS (Or.inr (Nat.le_trans (Nat.le_refl _) lob)) all0)), bb, kbb, rfl, (Nat.le_trans (Nat.le_refl _) lob), V3⟩

theorem d20_0 : decode jdk_52_method_5_code 0 = .ok (.getstatic 44, 3) := by decide +kernel
theorem d20_3 : decode jdk_52_method_5_code 3 = .ok (.ifCond .ne 25, 3) := by decide +kernel
theorem d20_28 : decode jdk_52_method_5_code 28 = .ok (.iload_n 1, 1) := by decide +kernel
theorem d20_29 : decode jdk_52_method_5_code 29 = .ok (.iconst 1, 1) := by decide +kernel
theorem d20_30 : decode jdk_52_method_5_code 30 = .ok (.ishl, 1) := by decide +kernel
theorem d20_31 : decode jdk_52_method_5_code 31 = .ok (.istore_n 1, 1) := by decide +kernel
theorem d20_32 : decode jdk_52_method_5_code 32 = .ok (.aload_n 0, 1) := by decide +kernel
theorem d20_33 : decode jdk_52_method_5_code 33 = .ok (.iload_n 1, 1) := by decide +kernel
theorem d20_34 : decode jdk_52_method_5_code 34 = .ok (.iinc 1 1, 3) := by decide +kernel
theorem d20_37 : decode jdk_52_method_5_code 37 = .ok (.baload, 1) := by decide +kernel
theorem d20_38 : decode jdk_52_method_5_code 38 = .ok (.sipush 255, 3) := by decide +kernel
theorem d20_41 : decode jdk_52_method_5_code 41 = .ok (.iand, 1) := by decide +kernel
theorem d20_42 : decode jdk_52_method_5_code 42 = .ok (.getstatic 59, 3) := by decide +kernel
theorem d20_45 : decode jdk_52_method_5_code 45 = .ok (.ishl, 1) := by decide +kernel
theorem d20_46 : decode jdk_52_method_5_code 46 = .ok (.aload_n 0, 1) := by decide +kernel
theorem d20_47 : decode jdk_52_method_5_code 47 = .ok (.iload_n 1, 1) := by decide +kernel
theorem d20_48 : decode jdk_52_method_5_code 48 = .ok (.baload, 1) := by decide +kernel
theorem d20_49 : decode jdk_52_method_5_code 49 = .ok (.sipush 255, 3) := by decide +kernel
theorem d20_52 : decode jdk_52_method_5_code 52 = .ok (.iand, 1) := by decide +kernel
theorem d20_53 : decode jdk_52_method_5_code 53 = .ok (.getstatic 63, 3) := by decide +kernel
theorem d20_56 : decode jdk_52_method_5_code 56 = .ok (.ishl, 1) := by decide +kernel
theorem d20_57 : decode jdk_52_method_5_code 57 = .ok (.ior, 1) := by decide +kernel
theorem d20_58 : decode jdk_52_method_5_code 58 = .ok (.i2c, 1) := by decide +kernel
theorem d20_59 : decode jdk_52_method_5_code 59 = .ok (.ireturn, 1) := by decide +kernel
def Q_getc_1_0 (Z : State) (b : Addr) (kb : ClassId) (v0 : Int32) (v1 : Int32) (h0 : Heap) (n0 : Nat) (v : Option Value) (h : Heap) (L : List Loc) : Prop := v = some (.int (nar .char (own_u16e v0 v1))) ∧ Fr n0 L ∧ h = h0
set_option maxRecDepth 65536 in
set_option maxHeartbeats 40000000 in
theorem rm_getc_1_0 (l : Launch) (Z : State) (a0 : Array Value) (hw : ∀ d ∈ tables_1, d.before a0 Z = true) (ws : List Jvm.Cond) (b : Addr) (kb : ClassId) (v0 : Int32) (v1 : Int32) (h0 : Heap) (n0 : Nat) (Z0 : n0 ≤ h0.size) (Uad : Sta Z Z.heap "java/lang/StringUTF16" "$assertionsDisabled" "Z" (.int (1 : Int32))) (Uhi : Sta Z Z.heap "java/lang/StringUTF16" "HI_BYTE_SHIFT" "I" (.int (0 : Int32))) (Ulo : Sta Z Z.heap "java/lang/StringUTF16" "LO_BYTE_SHIFT" "I" (.int (8 : Int32))) (OLD : Old Z n0 h0) (VB : Arv Z h0 b kb .byte (2 : Int32) [(.int v0), (.int v1)] (.int (0 : Int32))) :
    MetFree l (⟨"java/lang/StringUTF16", "getChar", "([BI)C"⟩ : MethodName) (head1 (Jvm.Cond.code (⟨"java/lang/StringUTF16", "getChar", "([BI)C"⟩ : MethodName) jdk_52_method_5_code 2 (some .char) :: ws) ({ frames := 0, cells := 0, slots := 0, locals := 0 } : Room)) (fun aa_ U => aa_ = #[(.ref b), (.int (0 : Int32))] ∧ Z.Warmed39 U.vm ∧ U.heap = h0) (fun _ _ _ _ _ => True) (fun _ U o_ U' => RetG U (Q_getc_1_0 Z b kb v0 v1 h0 n0) 0 0 U' o_) := by
  refine MetFree.of_bodySF (plainFor_of_name own_pn3) hisR ?_
  intro p e s m args below meth c_ s₁ Bd hml0 hP hK
  obtain ⟨rfl, hZ, hh⟩ := hP
  have hx := Bd.exec
  have hby := Bd.bytes
  have hml : c_.maxLocals = 2 := hml0
  have hown : s.vm.findClass "java/lang/StringUTF16" = some m.cls := findClass_of_methodNamed Bd.named
  have hnm := (name_of_methodNamed Bd.named Bd.method).1
  have X0 : Stand p l e ({ frames := 0, cells := 0, slots := 0, locals := 0 } : Room) s m #[(.ref b), (.int (0 : Int32))] below meth c_ s₁ [] 0 0 := Stand.of_body Bd
  have e0 : s₁.heap = h0 := by rw [← hh, Bd.state]; rfl
  have N0 := Fr.nil n0
  have w86_ := hw _ (List.mem_of_getElem? (i := 86) rfl)
  have w87_ := hw _ (List.mem_of_getElem? (i := 87) rfl)
  have w88_ := hw _ (List.mem_of_getElem? (i := 88) rfl)
  show Go p e below (RetG s (Q_getc_1_0 Z b kb v0 v1 h0 n0) 0 0) (s₁.setTop (entryFrame m #[(.ref b), (.int (0 : Int32))] 2))
  rw [show entryFrame m #[(.ref b), (.int (0 : Int32))] 2 = mkF m 0 #[.val (.ref b), .val (.int (0 : Int32))] [] from by first | (simp [entryFrame, mkF, argsToLocals, Value.category]; done) | rfl]
  refine g_getS X0 hx hby hZ hown (host := "") (Or.inl w86_) Via.refl e0 (Uad.ext OLD.2) d20_0 (fun T1 X1 e1 => ?_)
  refine g_ifY X1 hx hby 28 d20_3 (feq (by decide : ¬ ((1 : Int32) = (0 : Int32)))).2 (by decide) (by decide) ?_
  refine g_iloadN X1 hx hby d20_28 rfl ?_
  refine g_iconst X1 hx hby (1 : Int32) d20_29 rfl ?_
  refine g_ishl X1 hx hby d20_30 ?_
  refine g_topI (0 : Int32) (by decide) ?_
  refine g_istoreN X1 hx hby d20_31 (l' := #[.val (.ref b), .val (.int (0 : Int32))]) rfl ?_
  refine g_aloadN X1 hx hby d20_32 rfl rfl ?_
  refine g_iloadN X1 hx hby d20_33 rfl ?_
  refine g_iinc X1 hx hby (1 : Int32) d20_34 rfl (by decide) (l' := #[.val (.ref b), .val (.int (1 : Int32))]) rfl ?_
  refine g_baload X1 hx hby hZ e1 VB (.int v0) ⟨by decide, by decide⟩ rfl d20_37 ?_
  refine g_sipush X1 hx hby (255 : Int32) d20_38 rfl ?_
  refine g_iand X1 hx hby d20_41 ?_
  refine g_getS X1 hx hby hZ hown (host := "") (Or.inl w87_) Via.refl e1 (Uhi.ext OLD.2) d20_42 (fun T2 X2 e2 => ?_)
  refine g_ishl X2 hx hby d20_45 ?_
  refine g_aloadN X2 hx hby d20_46 rfl rfl ?_
  refine g_iloadN X2 hx hby d20_47 rfl ?_
  refine g_baload X2 hx hby hZ e2 VB (.int v1) ⟨by decide, by decide⟩ rfl d20_48 ?_
  refine g_sipush X2 hx hby (255 : Int32) d20_49 rfl ?_
  refine g_iand X2 hx hby d20_52 ?_
  refine g_getS X2 hx hby hZ hown (host := "") (Or.inl w88_) Via.refl e2 (Ulo.ext OLD.2) d20_53 (fun T3 X3 e3 => ?_)
  refine g_ishl X3 hx hby d20_56 ?_
  refine g_ior X3 hx hby d20_57 ?_
  refine g_i2c X3 hx hby d20_58 ?_
  refine g_nret X3 hx hby (t := .char) (by simp) Bd.returns Bd.notSynchronized d20_59 e3 (by decide) (by decide) ?_
  show (Q_getc_1_0 Z b kb v0 v1 h0 n0) (some (.int (nar .char ((((v0 &&& (255 : Int32)) <<< ((0 : Int32) &&& 31)) ||| ((v1 &&& (255 : Int32)) <<< ((8 : Int32) &&& 31))).toUInt32.toUInt16.toUInt32.toInt32)))) _ _
  exact ⟨rfl, N0, rfl⟩

theorem d7_0 : decode jdk_52_method_16_code 0 = .ok (.iload_n 2, 1) := by decide +kernel
theorem d7_1 : decode jdk_52_method_16_code 1 = .ok (.newarray .byte, 2) := by decide +kernel
theorem d7_3 : decode jdk_52_method_16_code 3 = .ok (.astore_n 3, 1) := by decide +kernel
theorem d7_4 : decode jdk_52_method_16_code 4 = .ok (.aload_n 0, 1) := by decide +kernel
theorem d7_5 : decode jdk_52_method_16_code 5 = .ok (.iload_n 1, 1) := by decide +kernel
theorem d7_6 : decode jdk_52_method_16_code 6 = .ok (.aload_n 3, 1) := by decide +kernel
theorem d7_7 : decode jdk_52_method_16_code 7 = .ok (.iconst 0, 1) := by decide +kernel
theorem d7_8 : decode jdk_52_method_16_code 8 = .ok (.iload_n 2, 1) := by decide +kernel
theorem d7_9 : decode jdk_52_method_16_code 9 = .ok (.invokestatic 115, 3) := by decide +kernel
theorem own_pd8 : parseMethodDescriptor "([CI[BII)I" = some ⟨[(.array .char), .int, (.array .byte), .int, .int], some .int⟩ := by decide +kernel
theorem d7_12 : decode jdk_52_method_16_code 12 = .ok (.istore 4, 2) := by decide +kernel
theorem d7_14 : decode jdk_52_method_16_code 14 = .ok (.iload 4, 2) := by decide +kernel
theorem d7_16 : decode jdk_52_method_16_code 16 = .ok (.iload_n 2, 1) := by decide +kernel
theorem d7_17 : decode jdk_52_method_16_code 17 = .ok (.if_icmp .eq 40, 3) := by decide +kernel
theorem d7_20 : decode jdk_52_method_16_code 20 = .ok (.aload_n 0, 1) := by decide +kernel
theorem d7_21 : decode jdk_52_method_16_code 21 = .ok (.iload_n 1, 1) := by decide +kernel
theorem d7_22 : decode jdk_52_method_16_code 22 = .ok (.iload_n 2, 1) := by decide +kernel
theorem d7_23 : decode jdk_52_method_16_code 23 = .ok (.invokestatic 119, 3) := by decide +kernel
theorem own_pd9 : parseMethodDescriptor "([CII)[B" = some ⟨[(.array .char), .int, .int], some (.array .byte)⟩ := by decide +kernel
theorem d7_26 : decode jdk_52_method_16_code 26 = .ok (.astore 5, 2) := by decide +kernel
theorem d7_28 : decode jdk_52_method_16_code 28 = .ok (.aload 5, 2) := by decide +kernel
theorem d7_30 : decode jdk_52_method_16_code 30 = .ok (.iload 4, 2) := by decide +kernel
theorem d7_32 : decode jdk_52_method_16_code 32 = .ok (.invokestatic 71, 3) := by decide +kernel
theorem own_pd10 : parseMethodDescriptor "([BI)C" = some ⟨[(.array .byte), .int], some .char⟩ := by decide +kernel
theorem d7_35 : decode jdk_52_method_16_code 35 = .ok (.sipush 255, 3) := by decide +kernel
theorem d7_38 : decode jdk_52_method_16_code 38 = .ok (.if_icmp .gt 16, 3) := by decide +kernel
theorem d7_54 : decode jdk_52_method_16_code 54 = .ok (.aload 5, 2) := by decide +kernel
theorem d7_56 : decode jdk_52_method_16_code 56 = .ok (.areturn, 1) := by decide +kernel
def Q_cmpf_1_0 (Z : State) (ca : Addr) (kc : ClassId) (c0 : Int32) (h0 : Heap) (n0 : Nat) (v : Option Value) (h : Heap) (L : List Loc) : Prop := Fr n0 L ∧ Keep h0 h [] ∧ ∃ (b : Addr) (kb : ClassId), v = some (.ref b) ∧ h0.size ≤ b ∧ Arv Z h b kb .byte (2 : Int32) [(.int (own_lob c0)), (.int (own_hib c0))] (.int (0 : Int32))
set_option maxRecDepth 65536 in
set_option maxHeartbeats 40000000 in
theorem rm_cmpf_1_0 (l : Launch) (Z : State) (a0 : Array Value) (hw : ∀ d ∈ tables_1, d.before a0 Z = true) (ws : List Jvm.Cond) (ca : Addr) (kc : ClassId) (c0 : Int32) (h0 : Heap) (n0 : Nat) (Z0 : n0 ≤ h0.size) (Uad : Sta Z Z.heap "java/lang/StringUTF16" "$assertionsDisabled" "Z" (.int (1 : Int32))) (Uhi : Sta Z Z.heap "java/lang/StringUTF16" "HI_BYTE_SHIFT" "I" (.int (0 : Int32))) (Ulo : Sta Z Z.heap "java/lang/StringUTF16" "LO_BYTE_SHIFT" "I" (.int (8 : Int32))) (OLD : Old Z n0 h0) (VC : Arv Z h0 ca kc .char (1 : Int32) [(.int c0)] (.int (0 : Int32))) (hf : (255 : Int32) < c0) (hr0 : 0 ≤ c0.toInt ∧ c0.toInt < 65536) :
    MetFree l (⟨"java/lang/StringUTF16", "compress", "([CII)[B"⟩ : MethodName) (head1 (Jvm.Cond.code (⟨"java/lang/StringUTF16", "compress", "([CII)[B"⟩ : MethodName) jdk_52_method_16_code 6 (some (.array .byte)) :: ws) ({ frames := 3, cells := 2, slots := 3, locals := 40 } : Room)) (fun aa_ U => aa_ = #[(.ref ca), (.int (0 : Int32)), (.int (1 : Int32))] ∧ Z.Warmed39 U.vm ∧ U.heap = h0) (fun _ _ _ _ _ => True) (fun _ U o_ U' => RetG U (Q_cmpf_1_0 Z ca kc c0 h0 n0) 2 3 U' o_) := by
  refine MetFree.of_bodySF (plainFor_of_name own_pn3) hisR ?_
  intro p e s m args below meth c_ s₁ Bd hml0 hP hK
  obtain ⟨rfl, hZ, hh⟩ := hP
  have hx := Bd.exec
  have hby := Bd.bytes
  have hml : c_.maxLocals = 6 := hml0
  have hown : s.vm.findClass "java/lang/StringUTF16" = some m.cls := findClass_of_methodNamed Bd.named
  have hnm := (name_of_methodNamed Bd.named Bd.method).1
  have X0 : Stand p l e ({ frames := 3, cells := 2, slots := 3, locals := 40 } : Room) s m #[(.ref ca), (.int (0 : Int32)), (.int (1 : Int32))] below meth c_ s₁ [] 0 0 := Stand.of_body Bd
  have e0 : s₁.heap = h0 := by rw [← hh, Bd.state]; rfl
  have N0 := Fr.nil n0
  have w15_ := hw _ (List.mem_of_getElem? (i := 15) rfl)
  have w39_ := hw _ (List.mem_of_getElem? (i := 39) rfl)
  have w41_ := hw _ (List.mem_of_getElem? (i := 41) rfl)
  have w42_ := hw _ (List.mem_of_getElem? (i := 42) rfl)
  have w43_ := hw _ (List.mem_of_getElem? (i := 43) rfl)
  have w73_ := hw _ (List.mem_of_getElem? (i := 73) rfl)
  have w74_ := hw _ (List.mem_of_getElem? (i := 74) rfl)
  have w75_ := hw _ (List.mem_of_getElem? (i := 75) rfl)
  have w89_ := hw _ (List.mem_of_getElem? (i := 89) rfl)
  have w90_ := hw _ (List.mem_of_getElem? (i := 90) rfl)
  have w91_ := hw _ (List.mem_of_getElem? (i := 91) rfl)
  show Go p e below (RetG s (Q_cmpf_1_0 Z ca kc c0 h0 n0) 2 3) (s₁.setTop (entryFrame m #[(.ref ca), (.int (0 : Int32)), (.int (1 : Int32))] 6))
  rw [show entryFrame m #[(.ref ca), (.int (0 : Int32)), (.int (1 : Int32))] 6 = mkF m 0 #[.val (.ref ca), .val (.int (0 : Int32)), .val (.int (1 : Int32)), .unset, .unset, .unset] [] from by first | (simp [entryFrame, mkF, argsToLocals, Value.category]; done) | rfl]
  refine g_iloadN X0 hx hby d7_0 rfl ?_
  refine g_newarray X0 hx hby hZ .byte .byte (.int (0 : Int32)) [(.int (0 : Int32))] rfl rfl w15_ e0 (by decide) 1 rfl (by decide) (by decide) (by decide) (by decide) d7_1 (fun T1 h1 k1 b1 g1 X1 e1 E1 V1 => ?_)
  refine g_astoreN X1 hx hby d7_3 rfl (l' := #[.val (.ref ca), .val (.int (0 : Int32)), .val (.int (1 : Int32)), .val (.ref b1), .unset, .unset]) rfl ?_
  refine g_aloadN X1 hx hby d7_4 rfl rfl ?_
  refine g_iloadN X1 hx hby d7_5 rfl ?_
  refine g_aloadN X1 hx hby d7_6 rfl rfl ?_
  refine g_iconst X1 hx hby (0 : Int32) d7_7 rfl ?_
  refine g_iloadN X1 hx hby d7_8 rfl ?_
  have f3 := (VC.ext E1)
  have ne4 : ca ≠ b1 := (Nat.ne_of_lt (Nat.lt_of_lt_of_le VC.lt (Nat.le_of_eq g1)))
  have g_b1 : n0 ≤ b1 := Nat.le_trans Z0 (Nat.le_of_eq g1)
  have z5 := (Nat.le_trans Z0 E1.1)
  refine g_static X1 hx hby hZ hown (rm_cmp5f_1_0 l Z a0 hw [] ca b1 kc k1 c0 h1 n0 z5 f3 V1 ne4 g_b1 hf) w41_ w42_ w39_ w43_ (by decide) e1 (by rw [hml]; rfl) [(.ref ca), (.int (0 : Int32)), (.ref b1), (.int (0 : Int32)), (.int (1 : Int32))] (lenOf own_pd8 rfl) rfl rfl (Nat.le_of_ble_eq_true rfl) (Nat.le_of_ble_eq_true rfl) (Nat.le_of_ble_eq_true rfl) (Nat.le_of_ble_eq_true rfl) d7_9 (fun v2 T2 L2 X2 hQ2 => ?_)
  obtain ⟨rfl, N2q, K2⟩ := hQ2
  have N2 := Fr.app N0 N2q
  refine g_istore X2 hx hby d7_12 (l' := #[.val (.ref ca), .val (.int (0 : Int32)), .val (.int (1 : Int32)), .val (.ref b1), .val (.int (0 : Int32)), .unset]) rfl ?_
  refine g_iload X2 hx hby d7_14 rfl ?_
  refine g_iloadN X2 hx hby d7_16 rfl ?_
  refine g_icN X2 hx hby d7_17 (feq (by decide : ¬ ((0 : Int32) = (1 : Int32)))).1 ?_
  refine g_aloadN X2 hx hby d7_20 rfl rfl ?_
  refine g_iloadN X2 hx hby d7_21 rfl ?_
  refine g_iloadN X2 hx hby d7_22 rfl ?_
  have f7 := ((OLD.ext E1).keep K2 (allS g_b1 all0))
  have f8 := (f3.keep K2 (ninS ne4 nin0))
  have z9 := (Nat.le_trans z5 K2.1)
  refine g_static X2 hx hby hZ hown (rm_tob_1 l Z a0 hw [] ca kc c0 T2.heap n0 z9 Uad Uhi Ulo f7 f8) w73_ w74_ w39_ w75_ (by decide) rfl (by rw [hml]; rfl) [(.ref ca), (.int (0 : Int32)), (.int (1 : Int32))] (lenOf own_pd9 rfl) rfl rfl (Nat.le_of_ble_eq_true rfl) (Nat.le_of_ble_eq_true rfl) (Nat.le_of_ble_eq_true rfl) (Nat.le_of_ble_eq_true rfl) d7_23 (fun v6 T6 L6 X6 hQ6 => ?_)
  obtain ⟨N6q, K6, bb, kbb, rfl, lob, Vb⟩ := hQ6
  have N6 := Fr.app N2 N6q
  refine g_at 26 rfl rfl rfl ?_
  refine g_astore X6 hx hby d7_26 rfl (l' := #[.val (.ref ca), .val (.int (0 : Int32)), .val (.int (1 : Int32)), .val (.ref b1), .val (.int (0 : Int32)), .val (.ref bb)]) rfl ?_
  refine g_aload X6 hx hby d7_28 rfl rfl ?_
  refine g_iload X6 hx hby d7_30 rfl ?_
  have f11 := (f7.keep K6 all0)
  have z12 := (Nat.le_trans z9 K6.1)
  refine g_static X6 hx hby hZ hown (rm_getc_1_0 l Z a0 hw [] bb kbb (own_lob c0) (own_hib c0) T6.heap n0 z12 Uad Uhi Ulo f11 Vb) w89_ w90_ w39_ w91_ (by decide) rfl (by rw [hml]; rfl) [(.ref bb), (.int (0 : Int32))] (lenOf own_pd10 rfl) rfl rfl (Nat.le_of_ble_eq_true rfl) (Nat.le_of_ble_eq_true rfl) (Nat.le_of_ble_eq_true rfl) (Nat.le_of_ble_eq_true rfl) d7_32 (fun v10 T10 L10 X10 hQ10 => ?_)
  obtain ⟨rfl, N10q, eh10⟩ := hQ10
  have N10 := Fr.app N6 N10q
  refine g_topI (T := T10) c0 (own_u16 hr0) ?_
  refine g_sipush X10 hx hby (255 : Int32) d7_35 rfl ?_
  refine g_icY X10 hx hby 54 d7_38 (tlt (hf : (255 : Int32) < c0)).2.2.1 (by decide) (by decide) ?_
  refine g_aload X10 hx hby d7_54 rfl rfl ?_
  refine g_aret X10 hx hby (t := (.array .byte)) rfl rfl rfl Bd.returns Bd.notSynchronized d7_56 eh10 (by decide) (by decide) ?_
  show (Q_cmpf_1_0 Z ca kc c0 h0 n0) (some (.ref bb)) _ _
  exact ⟨N10, ((((Keep.refl h0 []).ext E1).trans K2 (allS (Or.inr (Nat.le_trans (Nat.le_refl _) (Nat.le_of_eq g1))) all0)).trans K6 all0), bb, kbb, rfl, (Nat.le_trans (Nat.le_trans E1.1 K2.1) lob), Vb⟩

theorem d9_0 : decode jdk_52_method_15_code 0 = .ok (.iload_n 1, 1) := by decide +kernel
theorem d9_1 : decode jdk_52_method_15_code 1 = .ok (.aload_n 0, 1) := by decide +kernel
theorem d9_2 : decode jdk_52_method_15_code 2 = .ok (.arraylength, 1) := by decide +kernel
theorem d9_3 : decode jdk_52_method_15_code 3 = .ok (.isub, 1) := by decide +kernel
theorem d9_4 : decode jdk_52_method_15_code 4 = .ok (.bipush 31, 2) := by decide +kernel
theorem d9_6 : decode jdk_52_method_15_code 6 = .ok (.iushr, 1) := by decide +kernel
theorem d9_7 : decode jdk_52_method_15_code 7 = .ok (.i2b, 1) := by decide +kernel
theorem d9_8 : decode jdk_52_method_15_code 8 = .ok (.ireturn, 1) := by decide +kernel
def Q_cfal_1_2 (Z : State) (ba : Addr) (kb : ClassId) (bs : List Value) (h0 : Heap) (n0 : Nat) (v : Option Value) (h : Heap) (L : List Loc) : Prop := v = some (.int (1 : Int32)) ∧ Fr n0 L ∧ h = h0
set_option maxRecDepth 65536 in
set_option maxHeartbeats 40000000 in
theorem rm_cfal_1_2 (l : Launch) (Z : State) (a0 : Array Value) (hw : ∀ d ∈ tables_1, d.before a0 Z = true) (ws : List Jvm.Cond) (ba : Addr) (kb : ClassId) (bs : List Value) (h0 : Heap) (n0 : Nat) (Z0 : n0 ≤ h0.size) (VB : Arv Z h0 ba kb .byte (2 : Int32) bs (.int (0 : Int32))) :
    MetFree l (⟨"java/lang/StringUTF16", "coderFromArrayLen", "([BI)B"⟩ : MethodName) (head1 (Jvm.Cond.code (⟨"java/lang/StringUTF16", "coderFromArrayLen", "([BI)B"⟩ : MethodName) jdk_52_method_15_code 2 (some .byte) :: ws) ({ frames := 0, cells := 0, slots := 0, locals := 0 } : Room)) (fun aa_ U => aa_ = #[(.ref ba), (.int (1 : Int32))] ∧ Z.Warmed39 U.vm ∧ U.heap = h0) (fun _ _ _ _ _ => True) (fun _ U o_ U' => RetG U (Q_cfal_1_2 Z ba kb bs h0 n0) 0 0 U' o_) := by
  refine MetFree.of_bodySF (plainFor_of_name own_pn3) hisR ?_
  intro p e s m args below meth c_ s₁ Bd hml0 hP hK
  obtain ⟨rfl, hZ, hh⟩ := hP
  have hx := Bd.exec
  have hby := Bd.bytes
  have hml : c_.maxLocals = 2 := hml0
  have hown : s.vm.findClass "java/lang/StringUTF16" = some m.cls := findClass_of_methodNamed Bd.named
  have hnm := (name_of_methodNamed Bd.named Bd.method).1
  have X0 : Stand p l e ({ frames := 0, cells := 0, slots := 0, locals := 0 } : Room) s m #[(.ref ba), (.int (1 : Int32))] below meth c_ s₁ [] 0 0 := Stand.of_body Bd
  have e0 : s₁.heap = h0 := by rw [← hh, Bd.state]; rfl
  have N0 := Fr.nil n0
  show Go p e below (RetG s (Q_cfal_1_2 Z ba kb bs h0 n0) 0 0) (s₁.setTop (entryFrame m #[(.ref ba), (.int (1 : Int32))] 2))
  rw [show entryFrame m #[(.ref ba), (.int (1 : Int32))] 2 = mkF m 0 #[.val (.ref ba), .val (.int (1 : Int32))] [] from by first | (simp [entryFrame, mkF, argsToLocals, Value.category]; done) | rfl]
  refine g_iloadN X0 hx hby d9_0 rfl ?_
  refine g_aloadN X0 hx hby d9_1 rfl rfl ?_
  refine g_arraylength X0 hx hby hZ e0 VB d9_2 ?_
  refine g_isub X0 hx hby d9_3 ?_
  refine g_topI (-1 : Int32) (by decide) ?_
  refine g_bipush X0 hx hby (31 : Int32) d9_4 rfl ?_
  refine g_iushr X0 hx hby d9_6 ?_
  refine g_topI (1 : Int32) (by decide) ?_
  refine g_i2b X0 hx hby d9_7 ?_
  refine g_topI (1 : Int32) (by decide) ?_
  refine g_nret X0 hx hby (t := .byte) (by simp) Bd.returns Bd.notSynchronized d9_8 e0 (by decide) (by decide) ?_
  show (Q_cfal_1_2 Z ba kb bs h0 n0) (some (.int (1 : Int32))) _ _
  exact ⟨rfl, N0, rfl⟩

theorem d2_27 : decode jdk_42_method_149_code 27 = .ok (.getstatic 38, 3) := by decide +kernel
theorem d2_30 : decode jdk_42_method_149_code 30 = .ok (.ifCond .eq 28, 3) := by decide +kernel
theorem d2_33 : decode jdk_42_method_149_code 33 = .ok (.aload_n 1, 1) := by decide +kernel
theorem d2_34 : decode jdk_42_method_149_code 34 = .ok (.iload_n 2, 1) := by decide +kernel
theorem d2_35 : decode jdk_42_method_149_code 35 = .ok (.iload_n 3, 1) := by decide +kernel
theorem d2_36 : decode jdk_42_method_149_code 36 = .ok (.invokestatic 177, 3) := by decide +kernel
theorem d2_39 : decode jdk_42_method_149_code 39 = .ok (.astore 5, 2) := by decide +kernel
theorem d2_41 : decode jdk_42_method_149_code 41 = .ok (.aload_n 0, 1) := by decide +kernel
theorem d2_42 : decode jdk_42_method_149_code 42 = .ok (.aload 5, 2) := by decide +kernel
theorem d2_44 : decode jdk_42_method_149_code 44 = .ok (.iload_n 3, 1) := by decide +kernel
theorem d2_45 : decode jdk_42_method_149_code 45 = .ok (.invokestatic 47, 3) := by decide +kernel
theorem own_pd11 : parseMethodDescriptor "([BI)B" = some ⟨[(.array .byte), .int], some .byte⟩ := by decide +kernel
theorem d2_48 : decode jdk_42_method_149_code 48 = .ok (.putfield 15, 3) := by decide +kernel
theorem d2_51 : decode jdk_42_method_149_code 51 = .ok (.aload_n 0, 1) := by decide +kernel
theorem d2_52 : decode jdk_42_method_149_code 52 = .ok (.aload 5, 2) := by decide +kernel
theorem d2_54 : decode jdk_42_method_149_code 54 = .ok (.putfield 9, 3) := by decide +kernel
theorem d2_57 : decode jdk_42_method_149_code 57 = .ok (.return_, 1) := by decide +kernel
def Q_ini2f_1_0 (Z : State) (a : Addr) (ca : Addr) (kc : ClassId) (c0 : Int32) (cz : Int32) (h0 : Heap) (n0 : Nat) (v : Option Value) (h : Heap) (L : List Loc) : Prop := v = none ∧ Fr n0 L ∧ Keep h0 h [a] ∧ ∃ (b : Addr) (kb : ClassId), h0.size ≤ b ∧ Exa Z h a "java/lang/String" ∧ Fld Z h a "java/lang/String" "coder" "B" (.int (1 : Int32)) ∧ Fld Z h a "java/lang/String" "value" "[B" (.ref b) ∧ Arv Z h b kb .byte (2 : Int32) [(.int (own_lob c0)), (.int (own_hib c0))] (.int (0 : Int32))
set_option maxRecDepth 65536 in
set_option maxHeartbeats 40000000 in
theorem rm_ini2f_1_0 (l : Launch) (Z : State) (a0 : Array Value) (hw : ∀ d ∈ tables_1, d.before a0 Z = true) (ws : List Jvm.Cond) (a : Addr) (ca : Addr) (kc : ClassId) (c0 : Int32) (cz : Int32) (h0 : Heap) (n0 : Nat) (Z0 : n0 ≤ h0.size) (O2 : Sta Z Z.heap "java/lang/String" "COMPACT_STRINGS" "Z" (.int cz)) (P5 : ¬ cz = (0 : Int32)) (OLD : Old Z n0 h0) (Uad : Sta Z Z.heap "java/lang/StringUTF16" "$assertionsDisabled" "Z" (.int (1 : Int32))) (Uhi : Sta Z Z.heap "java/lang/StringUTF16" "HI_BYTE_SHIFT" "I" (.int (0 : Int32))) (Ulo : Sta Z Z.heap "java/lang/StringUTF16" "LO_BYTE_SHIFT" "I" (.int (8 : Int32))) (E : Exa Z h0 a "java/lang/String") (FC : Fld Z h0 a "java/lang/String" "coder" "B" (.int (0 : Int32))) (FV : Fld Z h0 a "java/lang/String" "value" "[B" .null) (VC : Arv Z h0 ca kc .char (1 : Int32) [(.int c0)] (.int (0 : Int32))) (ga : n0 ≤ a) (hf : (255 : Int32) < c0) (hr0 : 0 ≤ c0.toInt ∧ c0.toInt < 65536) :
    MetFree l (⟨"java/lang/String", "<init>", "([CIILjava/lang/Void;)V"⟩ : MethodName) (head1 (Jvm.Cond.code (⟨"java/lang/String", "<init>", "([CIILjava/lang/Void;)V"⟩ : MethodName) jdk_42_method_149_code 6 none :: ws) ({ frames := 4, cells := 2, slots := 3, locals := 57 } : Room)) (fun aa_ U => aa_ = #[(.ref a), (.ref ca), (.int (0 : Int32)), (.int (1 : Int32)), .null] ∧ Z.Warmed39 U.vm ∧ U.heap = h0) (fun _ _ _ _ _ => True) (fun _ U o_ U' => RetG U (Q_ini2f_1_0 Z a ca kc c0 cz h0 n0) 2 3 U' o_) := by
  refine MetFree.of_bodySF (plainFor_of_name own_pn1) hisR ?_
  intro p e s m args below meth c_ s₁ Bd hml0 hP hK
  obtain ⟨rfl, hZ, hh⟩ := hP
  have hx := Bd.exec
  have hby := Bd.bytes
  have hml : c_.maxLocals = 6 := hml0
  have hown : s.vm.findClass "java/lang/String" = some m.cls := findClass_of_methodNamed Bd.named
  have hnm := (name_of_methodNamed Bd.named Bd.method).1
  have X0 : Stand p l e ({ frames := 4, cells := 2, slots := 3, locals := 57 } : Room) s m #[(.ref a), (.ref ca), (.int (0 : Int32)), (.int (1 : Int32)), .null] below meth c_ s₁ [] 0 0 := Stand.of_body Bd
  have e0 : s₁.heap = h0 := by rw [← hh, Bd.state]; rfl
  have N0 := Fr.nil n0
  have w2_ := hw _ (List.mem_of_getElem? (i := 2) rfl)
  have w11_ := hw _ (List.mem_of_getElem? (i := 11) rfl)
  have w12_ := hw _ (List.mem_of_getElem? (i := 12) rfl)
  have w13_ := hw _ (List.mem_of_getElem? (i := 13) rfl)
  have w16_ := hw _ (List.mem_of_getElem? (i := 16) rfl)
  have w17_ := hw _ (List.mem_of_getElem? (i := 17) rfl)
  have w20_ := hw _ (List.mem_of_getElem? (i := 20) rfl)
  have w21_ := hw _ (List.mem_of_getElem? (i := 21) rfl)
  have w36_ := hw _ (List.mem_of_getElem? (i := 36) rfl)
  have w37_ := hw _ (List.mem_of_getElem? (i := 37) rfl)
  have w38_ := hw _ (List.mem_of_getElem? (i := 38) rfl)
  have w39_ := hw _ (List.mem_of_getElem? (i := 39) rfl)
  have w40_ := hw _ (List.mem_of_getElem? (i := 40) rfl)
  have w44_ := hw _ (List.mem_of_getElem? (i := 44) rfl)
  have w45_ := hw _ (List.mem_of_getElem? (i := 45) rfl)
  have w46_ := hw _ (List.mem_of_getElem? (i := 46) rfl)
  show Go p e below (RetG s (Q_ini2f_1_0 Z a ca kc c0 cz h0 n0) 2 3) (s₁.setTop (entryFrame m #[(.ref a), (.ref ca), (.int (0 : Int32)), (.int (1 : Int32)), .null] 6))
  rw [show entryFrame m #[(.ref a), (.ref ca), (.int (0 : Int32)), (.int (1 : Int32)), .null] 6 = mkF m 0 #[.val (.ref a), .val (.ref ca), .val (.int (0 : Int32)), .val (.int (1 : Int32)), .val .null, .unset] [] from by first | (simp [entryFrame, mkF, argsToLocals, Value.category]; done) | rfl]
  refine g_aloadN X0 hx hby d2_0 rfl rfl ?_
  refine g_initO X0 hx hby hZ hown w11_ w12_ w13_ e0 (by rw [hml]; rfl) (Nat.le_of_ble_eq_true rfl) (Nat.le_of_ble_eq_true rfl) d2_1 (fun T1 X1 e1 => ?_)
  refine g_iloadN X1 hx hby d2_4 rfl ?_
  refine g_ifY X1 hx hby 27 d2_5 (feq (by decide : ¬ ((1 : Int32) = (0 : Int32)))).2 (by decide) (by decide) ?_
  refine g_getS X1 hx hby hZ hown (host := "") (Or.inl w36_) Via.refl e1 (O2.ext OLD.2) d2_27 (fun T2 X2 e2 => ?_)
  refine g_ifN X2 hx hby d2_30 (feq (P5 : ¬ (cz = (0 : Int32)))).1 ?_
  refine g_aloadN X2 hx hby d2_33 rfl rfl ?_
  refine g_iloadN X2 hx hby d2_34 rfl ?_
  refine g_iloadN X2 hx hby d2_35 rfl ?_
  refine g_static X2 hx hby hZ hown (rm_cmpf_1_0 l Z a0 hw [] ca kc c0 h0 n0 Z0 Uad Uhi Ulo OLD VC hf hr0) w37_ w38_ w39_ w40_ (by decide) e2 (by rw [hml]; rfl) [(.ref ca), (.int (0 : Int32)), (.int (1 : Int32))] (lenOf own_pd9 rfl) rfl rfl (Nat.le_of_ble_eq_true rfl) (Nat.le_of_ble_eq_true rfl) (Nat.le_of_ble_eq_true rfl) (Nat.le_of_ble_eq_true rfl) d2_36 (fun v3 T3 L3 X3 hQ3 => ?_)
  obtain ⟨N3q, K3, bb, kbb, rfl, lob, Vb⟩ := hQ3
  have N3 := Fr.app N0 N3q
  refine g_astore X3 hx hby d2_39 rfl (l' := #[.val (.ref a), .val (.ref ca), .val (.int (0 : Int32)), .val (.int (1 : Int32)), .val .null, .val (.ref bb)]) rfl ?_
  refine g_aloadN X3 hx hby d2_41 rfl rfl ?_
  refine g_aload X3 hx hby d2_42 rfl rfl ?_
  refine g_iloadN X3 hx hby d2_44 rfl ?_
  have z5 := (Nat.le_trans Z0 K3.1)
  refine g_static X3 hx hby hZ hown (rm_cfal_1_2 l Z a0 hw [] bb kbb [(.int (own_lob c0)), (.int (own_hib c0))] T3.heap n0 z5 Vb) w44_ w45_ w39_ w46_ (by decide) rfl (by rw [hml]; rfl) [(.ref bb), (.int (1 : Int32))] (lenOf own_pd11 rfl) rfl rfl (Nat.le_of_ble_eq_true rfl) (Nat.le_of_ble_eq_true rfl) (Nat.le_of_ble_eq_true rfl) (Nat.le_of_ble_eq_true rfl) d2_45 (fun v4 T4 L4 X4 hQ4 => ?_)
  obtain ⟨rfl, N4q, eh4⟩ := hQ4
  have N4 := Fr.app N3 N4q
  have f6 := (E.keep K3)
  have f7 := (FC.keep K3 nin0)
  refine g_putFN X4 hx hby hZ hown w21_ Via.refl eh4 f7 f6 (Or.inr ⟨w17_, rfl, hnm⟩) w2_ .byte (by decide) (.int (1 : Int32)) rfl rfl N4 ga d2_48 (fun T8 h8 X8 e8 W8 F8 N8 => ?_)
  refine g_aloadN X8 hx hby d2_51 rfl rfl ?_
  refine g_aload X8 hx hby d2_52 rfl rfl ?_
  have f9 := (f6.wr W8)
  have f10 := ((FV.keep K3 nin0).other W8 (Or.inr (slot_ne (Or.inr w16_) (Or.inr w17_) (by decide) (t := (.array .byte)) (t' := .byte) (by decide) (by decide))))
  refine g_putF X8 hx hby hZ hown (host := "") (Or.inl w20_) Via.refl e8 f10 f9 (Or.inr ⟨w16_, rfl, hnm⟩) w2_ (.array .byte) (by decide) rfl rfl N8 ga d2_54 (fun T11 h11 X11 e11 W11 F11 N11 => ?_)
  have f12 := (f9.wr W11)
  have f13 := (F8.other W11 (Or.inr (slot_ne (Or.inr w17_) (Or.inr w16_) (by decide) (t := .byte) (t' := (.array .byte)) (by decide) (by decide))))
  have ne14 : bb ≠ a := (Ne.symm (Nat.ne_of_lt (Nat.lt_of_lt_of_le E.lt lob)))
  have f15 := ((Vb.other W8 ne14).other W11 ne14)
  refine g_ret X11 hx hby Bd.returns Bd.notSynchronized d2_57 e11 (by decide) (by decide) ?_
  show (Q_ini2f_1_0 Z a ca kc c0 cz h0 n0) none _ _
  exact ⟨rfl, N11, ((((Keep.refl h0 [a]).trans K3 all0).wr W8 (Or.inl (List.mem_of_getElem? (i := 0) rfl))).wr W11 (Or.inl (List.mem_of_getElem? (i := 0) rfl))), bb, kbb, (Nat.le_trans (Nat.le_refl _) lob), f12, f13, F11, f15⟩

def Q_ini1f_1_0 (Z : State) (a : Addr) (ca : Addr) (kc : ClassId) (c0 : Int32) (cz : Int32) (h0 : Heap) (n0 : Nat) (v : Option Value) (h : Heap) (L : List Loc) : Prop := v = none ∧ Fr n0 L ∧ Keep h0 h [a] ∧ ∃ (b : Addr) (kb : ClassId), h0.size ≤ b ∧ Exa Z h a "java/lang/String" ∧ Fld Z h a "java/lang/String" "coder" "B" (.int (1 : Int32)) ∧ Fld Z h a "java/lang/String" "value" "[B" (.ref b) ∧ Arv Z h b kb .byte (2 : Int32) [(.int (own_lob c0)), (.int (own_hib c0))] (.int (0 : Int32))
set_option maxRecDepth 65536 in
set_option maxHeartbeats 40000000 in
theorem rm_ini1f_1_0 (l : Launch) (Z : State) (a0 : Array Value) (hw : ∀ d ∈ tables_1, d.before a0 Z = true) (ws : List Jvm.Cond) (a : Addr) (ca : Addr) (kc : ClassId) (c0 : Int32) (cz : Int32) (h0 : Heap) (n0 : Nat) (Z0 : n0 ≤ h0.size) (O2 : Sta Z Z.heap "java/lang/String" "COMPACT_STRINGS" "Z" (.int cz)) (P5 : ¬ cz = (0 : Int32)) (OLD : Old Z n0 h0) (Uad : Sta Z Z.heap "java/lang/StringUTF16" "$assertionsDisabled" "Z" (.int (1 : Int32))) (Uhi : Sta Z Z.heap "java/lang/StringUTF16" "HI_BYTE_SHIFT" "I" (.int (0 : Int32))) (Ulo : Sta Z Z.heap "java/lang/StringUTF16" "LO_BYTE_SHIFT" "I" (.int (8 : Int32))) (E : Exa Z h0 a "java/lang/String") (FC : Fld Z h0 a "java/lang/String" "coder" "B" (.int (0 : Int32))) (FV : Fld Z h0 a "java/lang/String" "value" "[B" .null) (VC : Arv Z h0 ca kc .char (1 : Int32) [(.int c0)] (.int (0 : Int32))) (ga : n0 ≤ a) (hf : (255 : Int32) < c0) (hr0 : 0 ≤ c0.toInt ∧ c0.toInt < 65536) :
    MetFree l (⟨"java/lang/String", "<init>", "([C)V"⟩ : MethodName) (head1 (Jvm.Cond.code (⟨"java/lang/String", "<init>", "([C)V"⟩ : MethodName) jdk_42_method_3_code 2 none :: ws) ({ frames := 5, cells := 2, slots := 3, locals := 74 } : Room)) (fun aa_ U => aa_ = #[(.ref a), (.ref ca)] ∧ Z.Warmed39 U.vm ∧ U.heap = h0) (fun _ _ _ _ _ => True) (fun _ U o_ U' => RetG U (Q_ini1f_1_0 Z a ca kc c0 cz h0 n0) 2 3 U' o_) := by
  refine MetFree.of_bodySF (plainFor_of_name own_pn1) hisR ?_
  intro p e s m args below meth c_ s₁ Bd hml0 hP hK
  obtain ⟨rfl, hZ, hh⟩ := hP
  have hx := Bd.exec
  have hby := Bd.bytes
  have hml : c_.maxLocals = 2 := hml0
  have hown : s.vm.findClass "java/lang/String" = some m.cls := findClass_of_methodNamed Bd.named
  have hnm := (name_of_methodNamed Bd.named Bd.method).1
  have X0 : Stand p l e ({ frames := 5, cells := 2, slots := 3, locals := 74 } : Room) s m #[(.ref a), (.ref ca)] below meth c_ s₁ [] 0 0 := Stand.of_body Bd
  have e0 : s₁.heap = h0 := by rw [← hh, Bd.state]; rfl
  have N0 := Fr.nil n0
  have w3_ := hw _ (List.mem_of_getElem? (i := 3) rfl)
  have w7_ := hw _ (List.mem_of_getElem? (i := 7) rfl)
  have w8_ := hw _ (List.mem_of_getElem? (i := 8) rfl)
  have w10_ := hw _ (List.mem_of_getElem? (i := 10) rfl)
  show Go p e below (RetG s (Q_ini1f_1_0 Z a ca kc c0 cz h0 n0) 2 3) (s₁.setTop (entryFrame m #[(.ref a), (.ref ca)] 2))
  rw [show entryFrame m #[(.ref a), (.ref ca)] 2 = mkF m 0 #[.val (.ref a), .val (.ref ca)] [] from by first | (simp [entryFrame, mkF, argsToLocals, Value.category]; done) | rfl]
  refine g_aloadN X0 hx hby d1_0 rfl rfl ?_
  refine g_aloadN X0 hx hby d1_1 rfl rfl ?_
  refine g_iconst X0 hx hby (0 : Int32) d1_2 rfl ?_
  refine g_aloadN X0 hx hby d1_3 rfl rfl ?_
  refine g_arraylength X0 hx hby hZ e0 VC d1_4 ?_
  refine g_aconst_null X0 hx hby d1_5 ?_
  refine g_special X0 hx hby hZ hown (rm_ini2f_1_0 l Z a0 hw [] a ca kc c0 cz h0 n0 Z0 O2 P5 OLD Uad Uhi Ulo E FC FV VC ga hf hr0) rfl rfl w7_ w8_ w3_ w10_ (by decide) e0 (by rw [hml]; rfl) [(.ref ca), (.int (0 : Int32)), (.int (1 : Int32)), .null] (lenOf own_pd0 rfl) rfl rfl (Nat.le_of_ble_eq_true rfl) (Nat.le_of_ble_eq_true rfl) (Nat.le_of_ble_eq_true rfl) (Nat.le_of_ble_eq_true rfl) d1_6 (fun v1 T1 L1 X1 hQ1 => ?_)
  obtain ⟨rfl, N1q, R1⟩ := hQ1
  have N1 := Fr.app N0 N1q
  refine g_ret X1 hx hby Bd.returns Bd.notSynchronized d1_9 rfl (by decide) (by decide) ?_
  show (Q_ini1f_1_0 Z a ca kc c0 cz h0 n0) none _ _
  exact ⟨rfl, N1, R1⟩

theorem own_pd12 : parseMethodDescriptor "(C)Z" = some ⟨[.char], some .boolean⟩ := by decide +kernel
def Q_slen16_1 (Z : State) (a : Addr) (b : Addr) (kb : ClassId) (c0 : Int32) (cz : Int32) (h0 : Heap) (n0 : Nat) (v : Option Value) (h : Heap) (L : List Loc) : Prop := v = some (.int (1 : Int32)) ∧ Fr n0 L ∧ h = h0
set_option maxRecDepth 65536 in
set_option maxHeartbeats 40000000 in
theorem rm_slen16_1 (l : Launch) (Z : State) (a0 : Array Value) (hw : ∀ d ∈ tables_1, d.before a0 Z = true) (ws : List Jvm.Cond) (a : Addr) (b : Addr) (kb : ClassId) (c0 : Int32) (cz : Int32) (h0 : Heap) (n0 : Nat) (Z0 : n0 ≤ h0.size) (O2 : Sta Z Z.heap "java/lang/String" "COMPACT_STRINGS" "Z" (.int cz)) (P5 : ¬ cz = (0 : Int32)) (OLD : Old Z n0 h0) (Uad : Sta Z Z.heap "java/lang/StringUTF16" "$assertionsDisabled" "Z" (.int (1 : Int32))) (Uhi : Sta Z Z.heap "java/lang/StringUTF16" "HI_BYTE_SHIFT" "I" (.int (0 : Int32))) (Ulo : Sta Z Z.heap "java/lang/StringUTF16" "LO_BYTE_SHIFT" "I" (.int (8 : Int32))) (E : Exa Z h0 a "java/lang/String") (C : Fld Z h0 a "java/lang/String" "coder" "B" (.int (1 : Int32))) (VF : Fld Z h0 a "java/lang/String" "value" "[B" (.ref b)) (VB : Arv Z h0 b kb .byte (2 : Int32) [(.int (own_lob c0)), (.int (own_hib c0))] (.int (0 : Int32))) :
    MetFree l (⟨"java/lang/String", "length", "()I"⟩ : MethodName) (head1 (Jvm.Cond.code (⟨"java/lang/String", "length", "()I"⟩ : MethodName) jdk_42_method_54_code 1 (some .int) :: ws) ({ frames := 1, cells := 0, slots := 0, locals := 13 } : Room)) (fun aa_ U => aa_ = #[(.ref a)] ∧ Z.Warmed39 U.vm ∧ U.heap = h0) (fun _ _ _ _ _ => True) (fun _ U o_ U' => RetG U (Q_slen16_1 Z a b kb c0 cz h0 n0) 0 0 U' o_) := by
  refine MetFree.of_bodySF (plainFor_of_name own_pn1) hisR ?_
  intro p e s m args below meth c_ s₁ Bd hml0 hP hK
  obtain ⟨rfl, hZ, hh⟩ := hP
  have hx := Bd.exec
  have hby := Bd.bytes
  have hml : c_.maxLocals = 1 := hml0
  have hown : s.vm.findClass "java/lang/String" = some m.cls := findClass_of_methodNamed Bd.named
  have hnm := (name_of_methodNamed Bd.named Bd.method).1
  have X0 : Stand p l e ({ frames := 1, cells := 0, slots := 0, locals := 13 } : Room) s m #[(.ref a)] below meth c_ s₁ [] 0 0 := Stand.of_body Bd
  have e0 : s₁.heap = h0 := by rw [← hh, Bd.state]; rfl
  have N0 := Fr.nil n0
  have w3_ := hw _ (List.mem_of_getElem? (i := 3) rfl)
  have w20_ := hw _ (List.mem_of_getElem? (i := 20) rfl)
  have w31_ := hw _ (List.mem_of_getElem? (i := 31) rfl)
  have w32_ := hw _ (List.mem_of_getElem? (i := 32) rfl)
  have w33_ := hw _ (List.mem_of_getElem? (i := 33) rfl)
  have w34_ := hw _ (List.mem_of_getElem? (i := 34) rfl)
  have w35_ := hw _ (List.mem_of_getElem? (i := 35) rfl)
  show Go p e below (RetG s (Q_slen16_1 Z a b kb c0 cz h0 n0) 0 0) (s₁.setTop (entryFrame m #[(.ref a)] 1))
  rw [show entryFrame m #[(.ref a)] 1 = mkF m 0 #[.val (.ref a)] [] from by first | (simp [entryFrame, mkF, argsToLocals, Value.category]; done) | rfl]
  refine g_aloadN X0 hx hby d5_0 rfl rfl ?_
  refine g_getF X0 hx hby hZ hown (host := "") (Or.inl w20_) Via.refl e0 VF d5_1 (fun T1 X1 e1 => ?_)
  refine g_arraylength X1 hx hby hZ e1 VB d5_4 ?_
  refine g_aloadN X1 hx hby d5_5 rfl rfl ?_
  refine g_virtual X1 hx hby hZ hown (rm_coder l Z a0 hw [] a (1 : Int32) cz h0 n0 Z0 O2 P5 OLD C) w31_ w32_ (notFace_of_selects (args := #[]) (mvT hZ w34_)) w34_ w33_ w3_ w35_ (by decide) e1 E (by rw [hml]; rfl) [] (lenOf own_pd2 rfl) rfl rfl (Nat.le_of_ble_eq_true rfl) (Nat.le_of_ble_eq_true rfl) (Nat.le_of_ble_eq_true rfl) (Nat.le_of_ble_eq_true rfl) d5_6 (fun v2 T2 L2 X2 hQ2 => ?_)
  obtain ⟨rfl, N2q, eh2⟩ := hQ2
  have N2 := Fr.app N0 N2q
  refine g_topI (T := T2) (1 : Int32) (by decide) ?_
  refine g_ishr X2 hx hby d5_9 ?_
  refine g_topI (1 : Int32) (by decide) ?_
  refine g_iret X2 hx hby Bd.returns Bd.notSynchronized d5_10 eh2 (by decide) (by decide) ?_
  show (Q_slen16_1 Z a b kb c0 cz h0 n0) (some (.int (1 : Int32))) _ _
  exact ⟨rfl, N2, rfl⟩

theorem d15_0 : decode jdk_41_method_11_code 0 = .ok (.iload_n 0, 1) := by decide +kernel
theorem d15_1 : decode jdk_41_method_11_code 1 = .ok (.ifCond .lt 8, 3) := by decide +kernel
theorem d15_4 : decode jdk_41_method_11_code 4 = .ok (.iload_n 0, 1) := by decide +kernel
theorem d15_5 : decode jdk_41_method_11_code 5 = .ok (.iload_n 1, 1) := by decide +kernel
theorem d15_6 : decode jdk_41_method_11_code 6 = .ok (.if_icmp .lt 10, 3) := by decide +kernel
theorem d15_16 : decode jdk_41_method_11_code 16 = .ok (.iload_n 0, 1) := by decide +kernel
theorem d15_17 : decode jdk_41_method_11_code 17 = .ok (.ireturn, 1) := by decide +kernel
theorem own_pn4 : plainName "jdk/internal/util/Preconditions" = true := by first | (simp [plainName, overriddenIn]; done) | decide +kernel
def Q_pchk (Z : State) (j : Int32) (z : Int32) (fz : Value) (h0 : Heap) (n0 : Nat) (v : Option Value) (h : Heap) (L : List Loc) : Prop := v = some (.int j) ∧ Fr n0 L ∧ h = h0
set_option maxRecDepth 65536 in
set_option maxHeartbeats 40000000 in
theorem rm_pchk (l : Launch) (Z : State) (a0 : Array Value) (hw : ∀ d ∈ tables_1, d.before a0 Z = true) (ws : List Jvm.Cond) (j : Int32) (z : Int32) (fz : Value) (h0 : Heap) (n0 : Nat) (Z0 : n0 ≤ h0.size) (hj : ¬ j < 0 ∧ j < z) (rfz : Rf fz) :
    MetFree l (⟨"jdk/internal/util/Preconditions", "checkIndex", "(IILjava/util/function/BiFunction;)I"⟩ : MethodName) (head1 (Jvm.Cond.code (⟨"jdk/internal/util/Preconditions", "checkIndex", "(IILjava/util/function/BiFunction;)I"⟩ : MethodName) jdk_41_method_11_code 3 (some .int) :: ws) ({ frames := 0, cells := 0, slots := 0, locals := 0 } : Room)) (fun aa_ U => aa_ = #[(.int j), (.int z), fz] ∧ Z.Warmed39 U.vm ∧ U.heap = h0) (fun _ _ _ _ _ => True) (fun _ U o_ U' => RetG U (Q_pchk Z j z fz h0 n0) 0 0 U' o_) := by
  refine MetFree.of_bodySF (plainFor_of_name own_pn4) hisR ?_
  intro p e s m args below meth c_ s₁ Bd hml0 hP hK
  obtain ⟨rfl, hZ, hh⟩ := hP
  have hx := Bd.exec
  have hby := Bd.bytes
  have hml : c_.maxLocals = 3 := hml0
  have hown : s.vm.findClass "jdk/internal/util/Preconditions" = some m.cls := findClass_of_methodNamed Bd.named
  have hnm := (name_of_methodNamed Bd.named Bd.method).1
  have X0 : Stand p l e ({ frames := 0, cells := 0, slots := 0, locals := 0 } : Room) s m #[(.int j), (.int z), fz] below meth c_ s₁ [] 0 0 := Stand.of_body Bd
  have e0 : s₁.heap = h0 := by rw [← hh, Bd.state]; rfl
  have N0 := Fr.nil n0
  show Go p e below (RetG s (Q_pchk Z j z fz h0 n0) 0 0) (s₁.setTop (entryFrame m #[(.int j), (.int z), fz] 3))
  rw [show entryFrame m #[(.int j), (.int z), fz] 3 = mkF m 0 #[.val (.int j), .val (.int z), .val fz] [] from by rcases rfz with rfl | ⟨_, rfl⟩ <;> first | (simp [entryFrame, mkF, argsToLocals, Value.category]; done) | rfl]
  refine g_iloadN X0 hx hby d15_0 rfl ?_
  refine g_ifN X0 hx hby d15_1 (flt (hj.1 : ¬ (j < (0 : Int32)))).1 ?_
  refine g_iloadN X0 hx hby d15_4 rfl ?_
  refine g_iloadN X0 hx hby d15_5 rfl ?_
  refine g_icY X0 hx hby 16 d15_6 (tlt (hj.2 : j < z)).1 (by decide) (by decide) ?_
  refine g_iloadN X0 hx hby d15_16 rfl ?_
  refine g_iret X0 hx hby Bd.returns Bd.notSynchronized d15_17 e0 (by decide) (by decide) ?_
  show (Q_pchk Z j z fz h0 n0) (some (.int j)) _ _
  exact ⟨rfl, N0, rfl⟩

theorem d14_0 : decode jdk_42_method_155_code 0 = .ok (.iload_n 0, 1) := by decide +kernel
theorem d14_1 : decode jdk_42_method_155_code 1 = .ok (.iload_n 1, 1) := by decide +kernel
theorem d14_2 : decode jdk_42_method_155_code 2 = .ok (.getstatic 1053, 3) := by decide +kernel
theorem d14_5 : decode jdk_42_method_155_code 5 = .ok (.invokestatic 1059, 3) := by decide +kernel
theorem own_pd13 : parseMethodDescriptor "(IILjava/util/function/BiFunction;)I" = some ⟨[.int, .int, (.object "java/util/function/BiFunction")], some .int⟩ := by decide +kernel
theorem d14_8 : decode jdk_42_method_155_code 8 = .ok (.pop, 1) := by decide +kernel
theorem d14_9 : decode jdk_42_method_155_code 9 = .ok (.return_, 1) := by decide +kernel
def Q_schk (Z : State) (j : Int32) (z : Int32) (fz : Value) (h0 : Heap) (n0 : Nat) (v : Option Value) (h : Heap) (L : List Loc) : Prop := v = none ∧ Fr n0 L ∧ h = h0
set_option maxRecDepth 65536 in
set_option maxHeartbeats 40000000 in
theorem rm_schk (l : Launch) (Z : State) (a0 : Array Value) (hw : ∀ d ∈ tables_1, d.before a0 Z = true) (ws : List Jvm.Cond) (j : Int32) (z : Int32) (fz : Value) (h0 : Heap) (n0 : Nat) (Z0 : n0 ≤ h0.size) (hj : ¬ j < 0 ∧ j < z) (rfz : Rf fz) (O4 : Sta Z Z.heap "jdk/internal/util/Preconditions" "SIOOBE_FORMATTER" "Ljava/util/function/BiFunction;" fz) (OLD : Old Z n0 h0) :
    MetFree l (⟨"java/lang/String", "checkIndex", "(II)V"⟩ : MethodName) (head1 (Jvm.Cond.code (⟨"java/lang/String", "checkIndex", "(II)V"⟩ : MethodName) jdk_42_method_155_code 2 none :: ws) ({ frames := 1, cells := 0, slots := 0, locals := 14 } : Room)) (fun aa_ U => aa_ = #[(.int j), (.int z)] ∧ Z.Warmed39 U.vm ∧ U.heap = h0) (fun _ _ _ _ _ => True) (fun _ U o_ U' => RetG U (Q_schk Z j z fz h0 n0) 0 0 U' o_) := by
  refine MetFree.of_bodySF (plainFor_of_name own_pn1) hisR ?_
  intro p e s m args below meth c_ s₁ Bd hml0 hP hK
  obtain ⟨rfl, hZ, hh⟩ := hP
  have hx := Bd.exec
  have hby := Bd.bytes
  have hml : c_.maxLocals = 2 := hml0
  have hown : s.vm.findClass "java/lang/String" = some m.cls := findClass_of_methodNamed Bd.named
  have hnm := (name_of_methodNamed Bd.named Bd.method).1
  have X0 : Stand p l e ({ frames := 1, cells := 0, slots := 0, locals := 14 } : Room) s m #[(.int j), (.int z)] below meth c_ s₁ [] 0 0 := Stand.of_body Bd
  have e0 : s₁.heap = h0 := by rw [← hh, Bd.state]; rfl
  have N0 := Fr.nil n0
  have w68_ := hw _ (List.mem_of_getElem? (i := 68) rfl)
  have w69_ := hw _ (List.mem_of_getElem? (i := 69) rfl)
  have w70_ := hw _ (List.mem_of_getElem? (i := 70) rfl)
  have w71_ := hw _ (List.mem_of_getElem? (i := 71) rfl)
  have w72_ := hw _ (List.mem_of_getElem? (i := 72) rfl)
  show Go p e below (RetG s (Q_schk Z j z fz h0 n0) 0 0) (s₁.setTop (entryFrame m #[(.int j), (.int z)] 2))
  rw [show entryFrame m #[(.int j), (.int z)] 2 = mkF m 0 #[.val (.int j), .val (.int z)] [] from by first | (simp [entryFrame, mkF, argsToLocals, Value.category]; done) | rfl]
  refine g_iloadN X0 hx hby d14_0 rfl ?_
  refine g_iloadN X0 hx hby d14_1 rfl ?_
  refine g_getS X0 hx hby hZ hown (host := "") (Or.inl w68_) Via.refl e0 (O4.ext OLD.2) d14_2 (fun T1 X1 e1 => ?_)
  refine g_static X1 hx hby hZ hown (rm_pchk l Z a0 hw [] j z fz h0 n0 Z0 hj rfz) w70_ w71_ w69_ w72_ (by decide) e1 (by rw [hml]; rfl) [(.int j), (.int z), fz] (lenOf own_pd13 rfl) rfl rfl (Nat.le_of_ble_eq_true rfl) (Nat.le_of_ble_eq_true rfl) (Nat.le_of_ble_eq_true rfl) (Nat.le_of_ble_eq_true rfl) d14_5 (fun v2 T2 L2 X2 hQ2 => ?_)
  obtain ⟨rfl, N2q, eh2⟩ := hQ2
  have N2 := Fr.app N0 N2q
  refine g_pop X2 hx hby d14_8 rfl ?_
  refine g_ret X2 hx hby Bd.returns Bd.notSynchronized d14_9 eh2 (by decide) (by decide) ?_
  show (Q_schk Z j z fz h0 n0) none _ _
  exact ⟨rfl, N2, rfl⟩

theorem d12_0 : decode jdk_42_method_154_code 0 = .ok (.getstatic 38, 3) := by decide +kernel
theorem d12_3 : decode jdk_42_method_154_code 3 = .ok (.ifCond .eq 14, 3) := by decide +kernel
theorem d12_6 : decode jdk_42_method_154_code 6 = .ok (.aload_n 0, 1) := by decide +kernel
theorem d12_7 : decode jdk_42_method_154_code 7 = .ok (.getfield 15, 3) := by decide +kernel
theorem d12_10 : decode jdk_42_method_154_code 10 = .ok (.ifCond .ne 7, 3) := by decide +kernel
theorem d12_17 : decode jdk_42_method_154_code 17 = .ok (.iconst 0, 1) := by decide +kernel
theorem d12_18 : decode jdk_42_method_154_code 18 = .ok (.ireturn, 1) := by decide +kernel
def Q_islat16 (Z : State) (a : Addr) (cz : Int32) (h0 : Heap) (n0 : Nat) (v : Option Value) (h : Heap) (L : List Loc) : Prop := v = some (.int (0 : Int32)) ∧ Fr n0 L ∧ h = h0
set_option maxRecDepth 65536 in
set_option maxHeartbeats 40000000 in
theorem rm_islat16 (l : Launch) (Z : State) (a0 : Array Value) (hw : ∀ d ∈ tables_1, d.before a0 Z = true) (ws : List Jvm.Cond) (a : Addr) (cz : Int32) (h0 : Heap) (n0 : Nat) (Z0 : n0 ≤ h0.size) (O2 : Sta Z Z.heap "java/lang/String" "COMPACT_STRINGS" "Z" (.int cz)) (P5 : ¬ cz = (0 : Int32)) (OLD : Old Z n0 h0) (C : Fld Z h0 a "java/lang/String" "coder" "B" (.int (1 : Int32))) :
    MetFree l (⟨"java/lang/String", "isLatin1", "()Z"⟩ : MethodName) (head1 (Jvm.Cond.code (⟨"java/lang/String", "isLatin1", "()Z"⟩ : MethodName) jdk_42_method_154_code 1 (some .boolean) :: ws) ({ frames := 0, cells := 0, slots := 0, locals := 0 } : Room)) (fun aa_ U => aa_ = #[(.ref a)] ∧ Z.Warmed39 U.vm ∧ U.heap = h0) (fun _ _ _ _ _ => True) (fun _ U o_ U' => RetG U (Q_islat16 Z a cz h0 n0) 0 0 U' o_) := by
  refine MetFree.of_bodySF (plainFor_of_name own_pn1) hisR ?_
  intro p e s m args below meth c_ s₁ Bd hml0 hP hK
  obtain ⟨rfl, hZ, hh⟩ := hP
  have hx := Bd.exec
  have hby := Bd.bytes
  have hml : c_.maxLocals = 1 := hml0
  have hown : s.vm.findClass "java/lang/String" = some m.cls := findClass_of_methodNamed Bd.named
  have hnm := (name_of_methodNamed Bd.named Bd.method).1
  have X0 : Stand p l e ({ frames := 0, cells := 0, slots := 0, locals := 0 } : Room) s m #[(.ref a)] below meth c_ s₁ [] 0 0 := Stand.of_body Bd
  have e0 : s₁.heap = h0 := by rw [← hh, Bd.state]; rfl
  have N0 := Fr.nil n0
  have w21_ := hw _ (List.mem_of_getElem? (i := 21) rfl)
  have w36_ := hw _ (List.mem_of_getElem? (i := 36) rfl)
  show Go p e below (RetG s (Q_islat16 Z a cz h0 n0) 0 0) (s₁.setTop (entryFrame m #[(.ref a)] 1))
  rw [show entryFrame m #[(.ref a)] 1 = mkF m 0 #[.val (.ref a)] [] from by first | (simp [entryFrame, mkF, argsToLocals, Value.category]; done) | rfl]
  refine g_getS X0 hx hby hZ hown (host := "") (Or.inl w36_) Via.refl e0 (O2.ext OLD.2) d12_0 (fun T1 X1 e1 => ?_)
  refine g_ifN X1 hx hby d12_3 (feq (P5 : ¬ (cz = (0 : Int32)))).1 ?_
  refine g_aloadN X1 hx hby d12_6 rfl rfl ?_
  refine g_getF X1 hx hby hZ hown (host := "") (Or.inl w21_) Via.refl e1 C d12_7 (fun T2 X2 e2 => ?_)
  refine g_ifY X2 hx hby 17 d12_10 (feq (by decide : ¬ ((1 : Int32) = (0 : Int32)))).2 (by decide) (by decide) ?_
  refine g_iconst X2 hx hby (0 : Int32) d12_17 rfl ?_
  refine g_nret X2 hx hby (t := .boolean) (by simp) Bd.returns Bd.notSynchronized d12_18 e2 (by decide) (by decide) ?_
  show (Q_islat16 Z a cz h0 n0) (some (.int (0 : Int32))) _ _
  exact ⟨rfl, N0, rfl⟩

theorem d23_0 : decode jdk_52_method_6_code 0 = .ok (.aload_n 0, 1) := by decide +kernel
theorem d23_1 : decode jdk_52_method_6_code 1 = .ok (.arraylength, 1) := by decide +kernel
theorem d23_2 : decode jdk_52_method_6_code 2 = .ok (.iconst 1, 1) := by decide +kernel
theorem d23_3 : decode jdk_52_method_6_code 3 = .ok (.ishr, 1) := by decide +kernel
theorem d23_4 : decode jdk_52_method_6_code 4 = .ok (.ireturn, 1) := by decide +kernel
def Q_ulen_1 (Z : State) (b : Addr) (kb : ClassId) (c0 : Int32) (h0 : Heap) (n0 : Nat) (v : Option Value) (h : Heap) (L : List Loc) : Prop := v = some (.int (1 : Int32)) ∧ Fr n0 L ∧ h = h0
set_option maxRecDepth 65536 in
set_option maxHeartbeats 40000000 in
theorem rm_ulen_1 (l : Launch) (Z : State) (a0 : Array Value) (hw : ∀ d ∈ tables_1, d.before a0 Z = true) (ws : List Jvm.Cond) (b : Addr) (kb : ClassId) (c0 : Int32) (h0 : Heap) (n0 : Nat) (Z0 : n0 ≤ h0.size) (VB : Arv Z h0 b kb .byte (2 : Int32) [(.int (own_lob c0)), (.int (own_hib c0))] (.int (0 : Int32))) :
    MetFree l (⟨"java/lang/StringUTF16", "length", "([B)I"⟩ : MethodName) (head1 (Jvm.Cond.code (⟨"java/lang/StringUTF16", "length", "([B)I"⟩ : MethodName) jdk_52_method_6_code 1 (some .int) :: ws) ({ frames := 0, cells := 0, slots := 0, locals := 0 } : Room)) (fun aa_ U => aa_ = #[(.ref b)] ∧ Z.Warmed39 U.vm ∧ U.heap = h0) (fun _ _ _ _ _ => True) (fun _ U o_ U' => RetG U (Q_ulen_1 Z b kb c0 h0 n0) 0 0 U' o_) := by
  refine MetFree.of_bodySF (plainFor_of_name own_pn3) hisR ?_
  intro p e s m args below meth c_ s₁ Bd hml0 hP hK
  obtain ⟨rfl, hZ, hh⟩ := hP
  have hx := Bd.exec
  have hby := Bd.bytes
  have hml : c_.maxLocals = 1 := hml0
  have hown : s.vm.findClass "java/lang/StringUTF16" = some m.cls := findClass_of_methodNamed Bd.named
  have hnm := (name_of_methodNamed Bd.named Bd.method).1
  have X0 : Stand p l e ({ frames := 0, cells := 0, slots := 0, locals := 0 } : Room) s m #[(.ref b)] below meth c_ s₁ [] 0 0 := Stand.of_body Bd
  have e0 : s₁.heap = h0 := by rw [← hh, Bd.state]; rfl
  have N0 := Fr.nil n0
  show Go p e below (RetG s (Q_ulen_1 Z b kb c0 h0 n0) 0 0) (s₁.setTop (entryFrame m #[(.ref b)] 1))
  rw [show entryFrame m #[(.ref b)] 1 = mkF m 0 #[.val (.ref b)] [] from by first | (simp [entryFrame, mkF, argsToLocals, Value.category]; done) | rfl]
  refine g_aloadN X0 hx hby d23_0 rfl rfl ?_
  refine g_arraylength X0 hx hby hZ e0 VB d23_1 ?_
  refine g_iconst X0 hx hby (1 : Int32) d23_2 rfl ?_
  refine g_ishr X0 hx hby d23_3 ?_
  refine g_topI (1 : Int32) (by decide) ?_
  refine g_iret X0 hx hby Bd.returns Bd.notSynchronized d23_4 e0 (by decide) (by decide) ?_
  show (Q_ulen_1 Z b kb c0 h0 n0) (some (.int (1 : Int32))) _ _
  exact ⟨rfl, N0, rfl⟩

theorem d22_0 : decode jdk_52_method_91_code 0 = .ok (.iload_n 0, 1) := by decide +kernel
theorem d22_1 : decode jdk_52_method_91_code 1 = .ok (.aload_n 1, 1) := by decide +kernel
theorem d22_2 : decode jdk_52_method_91_code 2 = .ok (.invokestatic 48, 3) := by decide +kernel
theorem own_pd14 : parseMethodDescriptor "([B)I" = some ⟨[(.array .byte)], some .int⟩ := by decide +kernel
theorem d22_5 : decode jdk_52_method_91_code 5 = .ok (.invokestatic 414, 3) := by decide +kernel
theorem own_pd15 : parseMethodDescriptor "(II)V" = some ⟨[.int, .int], none⟩ := by decide +kernel
theorem d22_8 : decode jdk_52_method_91_code 8 = .ok (.return_, 1) := by decide +kernel
def Q_uchk_1_0 (Z : State) (b : Addr) (kb : ClassId) (c0 : Int32) (fz : Value) (h0 : Heap) (n0 : Nat) (v : Option Value) (h : Heap) (L : List Loc) : Prop := v = none ∧ Fr n0 L ∧ h = h0
set_option maxRecDepth 65536 in
set_option maxHeartbeats 40000000 in
theorem rm_uchk_1_0 (l : Launch) (Z : State) (a0 : Array Value) (hw : ∀ d ∈ tables_1, d.before a0 Z = true) (ws : List Jvm.Cond) (b : Addr) (kb : ClassId) (c0 : Int32) (fz : Value) (h0 : Heap) (n0 : Nat) (Z0 : n0 ≤ h0.size) (VB : Arv Z h0 b kb .byte (2 : Int32) [(.int (own_lob c0)), (.int (own_hib c0))] (.int (0 : Int32))) (OLD : Old Z n0 h0) (rfz : Rf fz) (O4 : Sta Z Z.heap "jdk/internal/util/Preconditions" "SIOOBE_FORMATTER" "Ljava/util/function/BiFunction;" fz) :
    MetFree l (⟨"java/lang/StringUTF16", "checkIndex", "(I[B)V"⟩ : MethodName) (head1 (Jvm.Cond.code (⟨"java/lang/StringUTF16", "checkIndex", "(I[B)V"⟩ : MethodName) jdk_52_method_91_code 2 none :: ws) ({ frames := 2, cells := 0, slots := 0, locals := 27 } : Room)) (fun aa_ U => aa_ = #[(.int (0 : Int32)), (.ref b)] ∧ Z.Warmed39 U.vm ∧ U.heap = h0) (fun _ _ _ _ _ => True) (fun _ U o_ U' => RetG U (Q_uchk_1_0 Z b kb c0 fz h0 n0) 0 0 U' o_) := by
  refine MetFree.of_bodySF (plainFor_of_name own_pn3) hisR ?_
  intro p e s m args below meth c_ s₁ Bd hml0 hP hK
  obtain ⟨rfl, hZ, hh⟩ := hP
  have hx := Bd.exec
  have hby := Bd.bytes
  have hml : c_.maxLocals = 2 := hml0
  have hown : s.vm.findClass "java/lang/StringUTF16" = some m.cls := findClass_of_methodNamed Bd.named
  have hnm := (name_of_methodNamed Bd.named Bd.method).1
  have X0 : Stand p l e ({ frames := 2, cells := 0, slots := 0, locals := 27 } : Room) s m #[(.int (0 : Int32)), (.ref b)] below meth c_ s₁ [] 0 0 := Stand.of_body Bd
  have e0 : s₁.heap = h0 := by rw [← hh, Bd.state]; rfl
  have N0 := Fr.nil n0
  have w3_ := hw _ (List.mem_of_getElem? (i := 3) rfl)
  have w39_ := hw _ (List.mem_of_getElem? (i := 39) rfl)
  have w66_ := hw _ (List.mem_of_getElem? (i := 66) rfl)
  have w67_ := hw _ (List.mem_of_getElem? (i := 67) rfl)
  have w98_ := hw _ (List.mem_of_getElem? (i := 98) rfl)
  have w99_ := hw _ (List.mem_of_getElem? (i := 99) rfl)
  have w100_ := hw _ (List.mem_of_getElem? (i := 100) rfl)
  have w101_ := hw _ (List.mem_of_getElem? (i := 101) rfl)
  show Go p e below (RetG s (Q_uchk_1_0 Z b kb c0 fz h0 n0) 0 0) (s₁.setTop (entryFrame m #[(.int (0 : Int32)), (.ref b)] 2))
  rw [show entryFrame m #[(.int (0 : Int32)), (.ref b)] 2 = mkF m 0 #[.val (.int (0 : Int32)), .val (.ref b)] [] from by first | (simp [entryFrame, mkF, argsToLocals, Value.category]; done) | rfl]
  refine g_iloadN X0 hx hby d22_0 rfl ?_
  refine g_aloadN X0 hx hby d22_1 rfl rfl ?_
  refine g_static X0 hx hby hZ hown (rm_ulen_1 l Z a0 hw [] b kb c0 h0 n0 Z0 VB) w98_ w99_ w39_ w100_ (by decide) e0 (by rw [hml]; rfl) [(.ref b)] (lenOf own_pd14 rfl) rfl rfl (Nat.le_of_ble_eq_true rfl) (Nat.le_of_ble_eq_true rfl) (Nat.le_of_ble_eq_true rfl) (Nat.le_of_ble_eq_true rfl) d22_2 (fun v1 T1 L1 X1 hQ1 => ?_)
  obtain ⟨rfl, N1q, eh1⟩ := hQ1
  have N1 := Fr.app N0 N1q
  refine g_static X1 hx hby hZ hown (rm_schk l Z a0 hw [] (0 : Int32) (1 : Int32) fz h0 n0 Z0 ⟨by decide, by decide⟩ rfz O4 OLD) w101_ w66_ w3_ w67_ (by decide) eh1 (by rw [hml]; rfl) [(.int (0 : Int32)), (.int (1 : Int32))] (lenOf own_pd15 rfl) rfl rfl (Nat.le_of_ble_eq_true rfl) (Nat.le_of_ble_eq_true rfl) (Nat.le_of_ble_eq_true rfl) (Nat.le_of_ble_eq_true rfl) d22_5 (fun v2 T2 L2 X2 hQ2 => ?_)
  obtain ⟨rfl, N2q, eh2⟩ := hQ2
  have N2 := Fr.app N1 N2q
  refine g_ret X2 hx hby Bd.returns Bd.notSynchronized d22_8 eh2 (by decide) (by decide) ?_
  show (Q_uchk_1_0 Z b kb c0 fz h0 n0) none _ _
  exact ⟨rfl, N2, rfl⟩

theorem d21_0 : decode jdk_52_method_83_code 0 = .ok (.iload_n 1, 1) := by decide +kernel
theorem d21_1 : decode jdk_52_method_83_code 1 = .ok (.aload_n 0, 1) := by decide +kernel
theorem d21_2 : decode jdk_52_method_83_code 2 = .ok (.invokestatic 67, 3) := by decide +kernel
theorem own_pd16 : parseMethodDescriptor "(I[B)V" = some ⟨[.int, (.array .byte)], none⟩ := by decide +kernel
theorem d21_5 : decode jdk_52_method_83_code 5 = .ok (.aload_n 0, 1) := by decide +kernel
theorem d21_6 : decode jdk_52_method_83_code 6 = .ok (.iload_n 1, 1) := by decide +kernel
theorem d21_7 : decode jdk_52_method_83_code 7 = .ok (.invokestatic 71, 3) := by decide +kernel
theorem d21_10 : decode jdk_52_method_83_code 10 = .ok (.ireturn, 1) := by decide +kernel
def Q_uchar_1_0 (Z : State) (b : Addr) (kb : ClassId) (c0 : Int32) (fz : Value) (h0 : Heap) (n0 : Nat) (v : Option Value) (h : Heap) (L : List Loc) : Prop := v = some (.int c0) ∧ Fr n0 L ∧ h = h0
set_option maxRecDepth 65536 in
set_option maxHeartbeats 40000000 in
theorem rm_uchar_1_0 (l : Launch) (Z : State) (a0 : Array Value) (hw : ∀ d ∈ tables_1, d.before a0 Z = true) (ws : List Jvm.Cond) (b : Addr) (kb : ClassId) (c0 : Int32) (fz : Value) (h0 : Heap) (n0 : Nat) (Z0 : n0 ≤ h0.size) (Uad : Sta Z Z.heap "java/lang/StringUTF16" "$assertionsDisabled" "Z" (.int (1 : Int32))) (Uhi : Sta Z Z.heap "java/lang/StringUTF16" "HI_BYTE_SHIFT" "I" (.int (0 : Int32))) (Ulo : Sta Z Z.heap "java/lang/StringUTF16" "LO_BYTE_SHIFT" "I" (.int (8 : Int32))) (VB : Arv Z h0 b kb .byte (2 : Int32) [(.int (own_lob c0)), (.int (own_hib c0))] (.int (0 : Int32))) (OLD : Old Z n0 h0) (rfz : Rf fz) (O4 : Sta Z Z.heap "jdk/internal/util/Preconditions" "SIOOBE_FORMATTER" "Ljava/util/function/BiFunction;" fz) (hr : 0 ≤ c0.toInt ∧ c0.toInt < 65536) :
    MetFree l (⟨"java/lang/StringUTF16", "charAt", "([BI)C"⟩ : MethodName) (head1 (Jvm.Cond.code (⟨"java/lang/StringUTF16", "charAt", "([BI)C"⟩ : MethodName) jdk_52_method_83_code 2 (some .char) :: ws) ({ frames := 3, cells := 0, slots := 0, locals := 40 } : Room)) (fun aa_ U => aa_ = #[(.ref b), (.int (0 : Int32))] ∧ Z.Warmed39 U.vm ∧ U.heap = h0) (fun _ _ _ _ _ => True) (fun _ U o_ U' => RetG U (Q_uchar_1_0 Z b kb c0 fz h0 n0) 0 0 U' o_) := by
  refine MetFree.of_bodySF (plainFor_of_name own_pn3) hisR ?_
  intro p e s m args below meth c_ s₁ Bd hml0 hP hK
  obtain ⟨rfl, hZ, hh⟩ := hP
  have hx := Bd.exec
  have hby := Bd.bytes
  have hml : c_.maxLocals = 2 := hml0
  have hown : s.vm.findClass "java/lang/StringUTF16" = some m.cls := findClass_of_methodNamed Bd.named
  have hnm := (name_of_methodNamed Bd.named Bd.method).1
  have X0 : Stand p l e ({ frames := 3, cells := 0, slots := 0, locals := 40 } : Room) s m #[(.ref b), (.int (0 : Int32))] below meth c_ s₁ [] 0 0 := Stand.of_body Bd
  have e0 : s₁.heap = h0 := by rw [← hh, Bd.state]; rfl
  have N0 := Fr.nil n0
  have w39_ := hw _ (List.mem_of_getElem? (i := 39) rfl)
  have w89_ := hw _ (List.mem_of_getElem? (i := 89) rfl)
  have w90_ := hw _ (List.mem_of_getElem? (i := 90) rfl)
  have w91_ := hw _ (List.mem_of_getElem? (i := 91) rfl)
  have w95_ := hw _ (List.mem_of_getElem? (i := 95) rfl)
  have w96_ := hw _ (List.mem_of_getElem? (i := 96) rfl)
  have w97_ := hw _ (List.mem_of_getElem? (i := 97) rfl)
  show Go p e below (RetG s (Q_uchar_1_0 Z b kb c0 fz h0 n0) 0 0) (s₁.setTop (entryFrame m #[(.ref b), (.int (0 : Int32))] 2))
  rw [show entryFrame m #[(.ref b), (.int (0 : Int32))] 2 = mkF m 0 #[.val (.ref b), .val (.int (0 : Int32))] [] from by first | (simp [entryFrame, mkF, argsToLocals, Value.category]; done) | rfl]
  refine g_iloadN X0 hx hby d21_0 rfl ?_
  refine g_aloadN X0 hx hby d21_1 rfl rfl ?_
  refine g_static X0 hx hby hZ hown (rm_uchk_1_0 l Z a0 hw [] b kb c0 fz h0 n0 Z0 VB OLD rfz O4) w95_ w96_ w39_ w97_ (by decide) e0 (by rw [hml]; rfl) [(.int (0 : Int32)), (.ref b)] (lenOf own_pd16 rfl) rfl rfl (Nat.le_of_ble_eq_true rfl) (Nat.le_of_ble_eq_true rfl) (Nat.le_of_ble_eq_true rfl) (Nat.le_of_ble_eq_true rfl) d21_2 (fun v1 T1 L1 X1 hQ1 => ?_)
  obtain ⟨rfl, N1q, eh1⟩ := hQ1
  have N1 := Fr.app N0 N1q
  refine g_aloadN X1 hx hby d21_5 rfl rfl ?_
  refine g_iloadN X1 hx hby d21_6 rfl ?_
  refine g_static X1 hx hby hZ hown (rm_getc_1_0 l Z a0 hw [] b kb (own_lob c0) (own_hib c0) h0 n0 Z0 Uad Uhi Ulo OLD VB) w89_ w90_ w39_ w91_ (by decide) eh1 (by rw [hml]; rfl) [(.ref b), (.int (0 : Int32))] (lenOf own_pd10 rfl) rfl rfl (Nat.le_of_ble_eq_true rfl) (Nat.le_of_ble_eq_true rfl) (Nat.le_of_ble_eq_true rfl) (Nat.le_of_ble_eq_true rfl) d21_7 (fun v2 T2 L2 X2 hQ2 => ?_)
  obtain ⟨rfl, N2q, eh2⟩ := hQ2
  have N2 := Fr.app N1 N2q
  refine g_topI (T := T2) c0 (own_u16 hr) ?_
  refine g_nret X2 hx hby (t := .char) (by simp) Bd.returns Bd.notSynchronized d21_10 eh2 (by decide) (by decide) ?_
  show (Q_uchar_1_0 Z b kb c0 fz h0 n0) (some (.int (nar .char c0))) _ _
  exact ⟨by rw [own_nc16 hr], N2, rfl⟩

theorem d11_0 : decode jdk_42_method_56_code 0 = .ok (.aload_n 0, 1) := by decide +kernel
theorem d11_1 : decode jdk_42_method_56_code 1 = .ok (.invokevirtual 492, 3) := by decide +kernel
theorem own_pd17 : parseMethodDescriptor "()Z" = some ⟨[], some .boolean⟩ := by decide +kernel
theorem d11_4 : decode jdk_42_method_56_code 4 = .ok (.ifCond .eq 12, 3) := by decide +kernel
theorem d11_16 : decode jdk_42_method_56_code 16 = .ok (.aload_n 0, 1) := by decide +kernel
theorem d11_17 : decode jdk_42_method_56_code 17 = .ok (.getfield 9, 3) := by decide +kernel
theorem d11_20 : decode jdk_42_method_56_code 20 = .ok (.iload_n 1, 1) := by decide +kernel
theorem d11_21 : decode jdk_42_method_56_code 21 = .ok (.invokestatic 498, 3) := by decide +kernel
theorem d11_24 : decode jdk_42_method_56_code 24 = .ok (.ireturn, 1) := by decide +kernel
def Q_schar16_1_0 (Z : State) (a : Addr) (b : Addr) (kb : ClassId) (c0 : Int32) (fz : Value) (cz : Int32) (h0 : Heap) (n0 : Nat) (v : Option Value) (h : Heap) (L : List Loc) : Prop := v = some (.int c0) ∧ Fr n0 L ∧ h = h0
set_option maxRecDepth 65536 in
set_option maxHeartbeats 40000000 in
theorem rm_schar16_1_0 (l : Launch) (Z : State) (a0 : Array Value) (hw : ∀ d ∈ tables_1, d.before a0 Z = true) (ws : List Jvm.Cond) (a : Addr) (b : Addr) (kb : ClassId) (c0 : Int32) (fz : Value) (cz : Int32) (h0 : Heap) (n0 : Nat) (Z0 : n0 ≤ h0.size) (O2 : Sta Z Z.heap "java/lang/String" "COMPACT_STRINGS" "Z" (.int cz)) (P5 : ¬ cz = (0 : Int32)) (OLD : Old Z n0 h0) (Uad : Sta Z Z.heap "java/lang/StringUTF16" "$assertionsDisabled" "Z" (.int (1 : Int32))) (Uhi : Sta Z Z.heap "java/lang/StringUTF16" "HI_BYTE_SHIFT" "I" (.int (0 : Int32))) (Ulo : Sta Z Z.heap "java/lang/StringUTF16" "LO_BYTE_SHIFT" "I" (.int (8 : Int32))) (E : Exa Z h0 a "java/lang/String") (C : Fld Z h0 a "java/lang/String" "coder" "B" (.int (1 : Int32))) (VF : Fld Z h0 a "java/lang/String" "value" "[B" (.ref b)) (VB : Arv Z h0 b kb .byte (2 : Int32) [(.int (own_lob c0)), (.int (own_hib c0))] (.int (0 : Int32))) (rfz : Rf fz) (O4 : Sta Z Z.heap "jdk/internal/util/Preconditions" "SIOOBE_FORMATTER" "Ljava/util/function/BiFunction;" fz) (hr : 0 ≤ c0.toInt ∧ c0.toInt < 65536) :
    MetFree l (⟨"java/lang/String", "charAt", "(I)C"⟩ : MethodName) (head1 (Jvm.Cond.code (⟨"java/lang/String", "charAt", "(I)C"⟩ : MethodName) jdk_42_method_56_code 2 (some .char) :: ws) ({ frames := 4, cells := 0, slots := 0, locals := 53 } : Room)) (fun aa_ U => aa_ = #[(.ref a), (.int (0 : Int32))] ∧ Z.Warmed39 U.vm ∧ U.heap = h0) (fun _ _ _ _ _ => True) (fun _ U o_ U' => RetG U (Q_schar16_1_0 Z a b kb c0 fz cz h0 n0) 0 0 U' o_) := by
  refine MetFree.of_bodySF (plainFor_of_name own_pn1) hisR ?_
  intro p e s m args below meth c_ s₁ Bd hml0 hP hK
  obtain ⟨rfl, hZ, hh⟩ := hP
  have hx := Bd.exec
  have hby := Bd.bytes
  have hml : c_.maxLocals = 2 := hml0
  have hown : s.vm.findClass "java/lang/String" = some m.cls := findClass_of_methodNamed Bd.named
  have hnm := (name_of_methodNamed Bd.named Bd.method).1
  have X0 : Stand p l e ({ frames := 4, cells := 0, slots := 0, locals := 53 } : Room) s m #[(.ref a), (.int (0 : Int32))] below meth c_ s₁ [] 0 0 := Stand.of_body Bd
  have e0 : s₁.heap = h0 := by rw [← hh, Bd.state]; rfl
  have N0 := Fr.nil n0
  have w3_ := hw _ (List.mem_of_getElem? (i := 3) rfl)
  have w20_ := hw _ (List.mem_of_getElem? (i := 20) rfl)
  have w39_ := hw _ (List.mem_of_getElem? (i := 39) rfl)
  have w56_ := hw _ (List.mem_of_getElem? (i := 56) rfl)
  have w57_ := hw _ (List.mem_of_getElem? (i := 57) rfl)
  have w58_ := hw _ (List.mem_of_getElem? (i := 58) rfl)
  have w59_ := hw _ (List.mem_of_getElem? (i := 59) rfl)
  have w60_ := hw _ (List.mem_of_getElem? (i := 60) rfl)
  have w92_ := hw _ (List.mem_of_getElem? (i := 92) rfl)
  have w93_ := hw _ (List.mem_of_getElem? (i := 93) rfl)
  have w94_ := hw _ (List.mem_of_getElem? (i := 94) rfl)
  show Go p e below (RetG s (Q_schar16_1_0 Z a b kb c0 fz cz h0 n0) 0 0) (s₁.setTop (entryFrame m #[(.ref a), (.int (0 : Int32))] 2))
  rw [show entryFrame m #[(.ref a), (.int (0 : Int32))] 2 = mkF m 0 #[.val (.ref a), .val (.int (0 : Int32))] [] from by first | (simp [entryFrame, mkF, argsToLocals, Value.category]; done) | rfl]
  refine g_aloadN X0 hx hby d11_0 rfl rfl ?_
  refine g_virtual X0 hx hby hZ hown (rm_islat16 l Z a0 hw [] a cz h0 n0 Z0 O2 P5 OLD C) w56_ w57_ (notFace_of_selects (args := #[]) (mvT hZ w59_)) w59_ w58_ w3_ w60_ (by decide) e0 E (by rw [hml]; rfl) [] (lenOf own_pd17 rfl) rfl rfl (Nat.le_of_ble_eq_true rfl) (Nat.le_of_ble_eq_true rfl) (Nat.le_of_ble_eq_true rfl) (Nat.le_of_ble_eq_true rfl) d11_1 (fun v1 T1 L1 X1 hQ1 => ?_)
  obtain ⟨rfl, N1q, eh1⟩ := hQ1
  have N1 := Fr.app N0 N1q
  refine g_ifY X1 hx hby 16 d11_4 (teq (by decide : (0 : Int32) = (0 : Int32))).1 (by decide) (by decide) ?_
  refine g_aloadN X1 hx hby d11_16 rfl rfl ?_
  refine g_getF X1 hx hby hZ hown (host := "") (Or.inl w20_) Via.refl eh1 VF d11_17 (fun T2 X2 e2 => ?_)
  refine g_iloadN X2 hx hby d11_20 rfl ?_
  refine g_static X2 hx hby hZ hown (rm_uchar_1_0 l Z a0 hw [] b kb c0 fz h0 n0 Z0 Uad Uhi Ulo VB OLD rfz O4 hr) w92_ w93_ w39_ w94_ (by decide) e2 (by rw [hml]; rfl) [(.ref b), (.int (0 : Int32))] (lenOf own_pd10 rfl) rfl rfl (Nat.le_of_ble_eq_true rfl) (Nat.le_of_ble_eq_true rfl) (Nat.le_of_ble_eq_true rfl) (Nat.le_of_ble_eq_true rfl) d11_21 (fun v3 T3 L3 X3 hQ3 => ?_)
  obtain ⟨rfl, N3q, eh3⟩ := hQ3
  have N3 := Fr.app N1 N3q
  refine g_nret X3 hx hby (t := .char) (by simp) Bd.returns Bd.notSynchronized d11_24 eh3 (by decide) (by decide) ?_
  show (Q_schar16_1_0 Z a b kb c0 fz cz h0 n0) (some (.int (nar .char c0))) _ _
  exact ⟨by rw [own_nc16 hr], N3, rfl⟩

theorem d4_10 : decode prog_2_method_17_code 10 = .ok (.aload_n 0, 1) := by decide +kernel
theorem d4_11 : decode prog_2_method_17_code 11 = .ok (.iload_n 1, 1) := by decide +kernel
theorem d4_12 : decode prog_2_method_17_code 12 = .ok (.invokevirtual 171, 3) := by decide +kernel
theorem own_pd18 : parseMethodDescriptor "(I)C" = some ⟨[.int], some .char⟩ := by decide +kernel
theorem d4_15 : decode prog_2_method_17_code 15 = .ok (.istore_n 2, 1) := by decide +kernel
theorem d4_43 : decode prog_2_method_17_code 43 = .ok (.iinc 1 1, 3) := by decide +kernel
theorem d4_46 : decode prog_2_method_17_code 46 = .ok (.goto (-44), 3) := by decide +kernel
theorem d4_16 : decode prog_2_method_17_code 16 = .ok (.iload_n 2, 1) := by decide +kernel
theorem d4_17 : decode prog_2_method_17_code 17 = .ok (.bipush 32, 2) := by decide +kernel
theorem d4_19 : decode prog_2_method_17_code 19 = .ok (.if_icmp .ge 9, 3) := by decide +kernel
theorem d4_22 : decode prog_2_method_17_code 22 = .ok (.iload_n 2, 1) := by decide +kernel
theorem d4_23 : decode prog_2_method_17_code 23 = .ok (.bipush 9, 2) := by decide +kernel
theorem d4_25 : decode prog_2_method_17_code 25 = .ok (.if_icmp .ne 16, 3) := by decide +kernel
theorem d4_28 : decode prog_2_method_17_code 28 = .ok (.iload_n 2, 1) := by decide +kernel
theorem d4_29 : decode prog_2_method_17_code 29 = .ok (.bipush 127, 2) := by decide +kernel
theorem d4_31 : decode prog_2_method_17_code 31 = .ok (.if_icmp .eq 10, 3) := by decide +kernel
theorem d4_41 : decode prog_2_method_17_code 41 = .ok (.iconst 0, 1) := by decide +kernel
theorem d4_42 : decode prog_2_method_17_code 42 = .ok (.ireturn, 1) := by decide +kernel
theorem d4_34 : decode prog_2_method_17_code 34 = .ok (.iload_n 2, 1) := by decide +kernel
theorem d4_35 : decode prog_2_method_17_code 35 = .ok (.sipush 255, 3) := by decide +kernel
theorem d4_38 : decode prog_2_method_17_code 38 = .ok (.if_icmp .le 5, 3) := by decide +kernel
def Q_fv_1u (Z : State) (a : Addr) (b : Addr) (kb : ClassId) (c0 : Int32) (cz : Int32) (fz : Value) (h0 : Heap) (n0 : Nat) (v : Option Value) (h : Heap) (L : List Loc) : Prop := v = some (.int (own_fvs [c0])) ∧ Fr n0 L ∧ h = h0
set_option maxRecDepth 65536 in
set_option maxHeartbeats 40000000 in
theorem rm_fv_1u (l : Launch) (Z : State) (a0 : Array Value) (hw : ∀ d ∈ tables_1, d.before a0 Z = true) (ws : List Jvm.Cond) (a : Addr) (b : Addr) (kb : ClassId) (c0 : Int32) (cz : Int32) (fz : Value) (h0 : Heap) (n0 : Nat) (Z0 : n0 ≤ h0.size) (O2 : Sta Z Z.heap "java/lang/String" "COMPACT_STRINGS" "Z" (.int cz)) (P5 : ¬ cz = (0 : Int32)) (OLD : Old Z n0 h0) (Uad : Sta Z Z.heap "java/lang/StringUTF16" "$assertionsDisabled" "Z" (.int (1 : Int32))) (Uhi : Sta Z Z.heap "java/lang/StringUTF16" "HI_BYTE_SHIFT" "I" (.int (0 : Int32))) (Ulo : Sta Z Z.heap "java/lang/StringUTF16" "LO_BYTE_SHIFT" "I" (.int (8 : Int32))) (E : Exa Z h0 a "java/lang/String") (C : Fld Z h0 a "java/lang/String" "coder" "B" (.int (1 : Int32))) (VF : Fld Z h0 a "java/lang/String" "value" "[B" (.ref b)) (VB : Arv Z h0 b kb .byte (2 : Int32) [(.int (own_lob c0)), (.int (own_hib c0))] (.int (0 : Int32))) (rfz : Rf fz) (O4 : Sta Z Z.heap "jdk/internal/util/Preconditions" "SIOOBE_FORMATTER" "Ljava/util/function/BiFunction;" fz) (hr0 : 0 ≤ c0.toInt ∧ c0.toInt < 65536) :
    MetFree l (⟨"com/example/usher/usher/gateway/http/Http1Input", "isFieldValue", "(Ljava/lang/String;)Z"⟩ : MethodName) (head1 (Jvm.Cond.code (⟨"com/example/usher/usher/gateway/http/Http1Input", "isFieldValue", "(Ljava/lang/String;)Z"⟩ : MethodName) prog_2_method_17_code 3 (some .boolean) :: ws) ({ frames := 5, cells := 0, slots := 0, locals := 66 } : Room)) (fun aa_ U => aa_ = #[(.ref a)] ∧ Z.Warmed39 U.vm ∧ U.heap = h0) (fun _ _ _ _ _ => True) (fun _ U o_ U' => RetG U (Q_fv_1u Z a b kb c0 cz fz h0 n0) 0 0 U' o_) := by
  refine MetFree.of_bodySF (plainFor_of_name own_pn2) hisR ?_
  intro p e s m args below meth c_ s₁ Bd hml0 hP hK
  obtain ⟨rfl, hZ, hh⟩ := hP
  have hx := Bd.exec
  have hby := Bd.bytes
  have hml : c_.maxLocals = 3 := hml0
  have hown : s.vm.findClass "com/example/usher/usher/gateway/http/Http1Input" = some m.cls := findClass_of_methodNamed Bd.named
  have hnm := (name_of_methodNamed Bd.named Bd.method).1
  have X0 : Stand p l e ({ frames := 5, cells := 0, slots := 0, locals := 66 } : Room) s m #[(.ref a)] below meth c_ s₁ [] 0 0 := Stand.of_body Bd
  have e0 : s₁.heap = h0 := by rw [← hh, Bd.state]; rfl
  have N0 := Fr.nil n0
  have w3_ := hw _ (List.mem_of_getElem? (i := 3) rfl)
  have w26_ := hw _ (List.mem_of_getElem? (i := 26) rfl)
  have w27_ := hw _ (List.mem_of_getElem? (i := 27) rfl)
  have w28_ := hw _ (List.mem_of_getElem? (i := 28) rfl)
  have w29_ := hw _ (List.mem_of_getElem? (i := 29) rfl)
  have w30_ := hw _ (List.mem_of_getElem? (i := 30) rfl)
  have w51_ := hw _ (List.mem_of_getElem? (i := 51) rfl)
  have w52_ := hw _ (List.mem_of_getElem? (i := 52) rfl)
  have w53_ := hw _ (List.mem_of_getElem? (i := 53) rfl)
  have w54_ := hw _ (List.mem_of_getElem? (i := 54) rfl)
  have w55_ := hw _ (List.mem_of_getElem? (i := 55) rfl)
  show Go p e below (RetG s (Q_fv_1u Z a b kb c0 cz fz h0 n0) 0 0) (s₁.setTop (entryFrame m #[(.ref a)] 3))
  rw [show entryFrame m #[(.ref a)] 3 = mkF m 0 #[.val (.ref a), .unset, .unset] [] from by first | (simp [entryFrame, mkF, argsToLocals, Value.category]; done) | rfl]
  refine g_iconst X0 hx hby (0 : Int32) d4_0 rfl ?_
  refine g_istoreN X0 hx hby d4_1 (l' := #[.val (.ref a), .val (.int (0 : Int32)), .unset]) rfl ?_
  refine g_iloadN X0 hx hby d4_2 rfl ?_
  refine g_aloadN X0 hx hby d4_3 rfl rfl ?_
  refine g_virtual X0 hx hby hZ hown (rm_slen16_1 l Z a0 hw [] a b kb c0 cz h0 n0 Z0 O2 P5 OLD Uad Uhi Ulo E C VF VB) w26_ w27_ (notFace_of_selects (args := #[]) (mvT hZ w29_)) w29_ w28_ w3_ w30_ (by decide) e0 E (by rw [hml]; rfl) [] (lenOf own_pd3 rfl) rfl rfl (Nat.le_of_ble_eq_true rfl) (Nat.le_of_ble_eq_true rfl) (Nat.le_of_ble_eq_true rfl) (Nat.le_of_ble_eq_true rfl) d4_4 (fun v1 T1 L1 X1 hQ1 => ?_)
  obtain ⟨rfl, N1q, eh1⟩ := hQ1
  have N1 := Fr.app N0 N1q
  refine g_icN X1 hx hby d4_7 (tlt (by decide : (0 : Int32) < (1 : Int32))).2.1 ?_
  refine g_aloadN X1 hx hby d4_10 rfl rfl ?_
  refine g_iloadN X1 hx hby d4_11 rfl ?_
  refine g_virtual X1 hx hby hZ hown (rm_schar16_1_0 l Z a0 hw [] a b kb c0 fz cz h0 n0 Z0 O2 P5 OLD Uad Uhi Ulo E C VF VB rfz O4 hr0) w51_ w52_ (notFace_of_selects (args := #[]) (mvT hZ w54_)) w54_ w53_ w3_ w55_ (by decide) eh1 E (by rw [hml]; rfl) [(.int (0 : Int32))] (lenOf own_pd18 rfl) rfl rfl (Nat.le_of_ble_eq_true rfl) (Nat.le_of_ble_eq_true rfl) (Nat.le_of_ble_eq_true rfl) (Nat.le_of_ble_eq_true rfl) d4_12 (fun v2 T2 L2 X2 hQ2 => ?_)
  obtain ⟨rfl, N2q, eh2⟩ := hQ2
  have N2 := Fr.app N1 N2q
  refine g_istoreN X2 hx hby d4_15 (l' := #[.val (.ref a), .val (.int (0 : Int32)), .val (.int c0)]) rfl ?_
  have J3 : ∀ (T3 : State) (L3 : List Loc), Stand p l e ({ frames := 5, cells := 0, slots := 0, locals := 66 } : Room) s m #[(.ref a)] below meth c_ T3 L3 0 0 → T3.heap = h0 → Fr n0 L3 → (own_fv c0 = (1 : Int32)) → Go p e below (RetG s (Q_fv_1u Z a b kb c0 cz fz h0 n0) 0 0) (T3.setTop (mkF m 43 #[.val (.ref a), .val (.int (0 : Int32)), .val (.int c0)] [])) := by
    intro T3 L3 X3 e3 N3 hp_c0
    refine g_iinc X3 hx hby (1 : Int32) d4_43 rfl (by decide) (l' := #[.val (.ref a), .val (.int (1 : Int32)), .val (.int c0)]) rfl ?_
    refine g_goto X3 hx hby 2 d4_46 (by decide) (by decide) ?_
    refine g_iloadN X3 hx hby d4_2 rfl ?_
    refine g_aloadN X3 hx hby d4_3 rfl rfl ?_
    refine g_virtual X3 hx hby hZ hown (rm_slen16_1 l Z a0 hw [] a b kb c0 cz h0 n0 Z0 O2 P5 OLD Uad Uhi Ulo E C VF VB) w26_ w27_ (notFace_of_selects (args := #[]) (mvT hZ w29_)) w29_ w28_ w3_ w30_ (by decide) e3 E (by rw [hml]; rfl) [] (lenOf own_pd3 rfl) rfl rfl (Nat.le_of_ble_eq_true rfl) (Nat.le_of_ble_eq_true rfl) (Nat.le_of_ble_eq_true rfl) (Nat.le_of_ble_eq_true rfl) d4_4 (fun v4 T4 L4 X4 hQ4 => ?_)
    obtain ⟨rfl, N4q, eh4⟩ := hQ4
    have N4 := Fr.app N3 N4q
    refine g_icY X4 hx hby 49 d4_7 (flt (by decide : ¬ ((1 : Int32) < (1 : Int32)))).2.1 (by decide) (by decide) ?_
    refine g_iconst X4 hx hby (1 : Int32) d4_49 rfl ?_
    refine g_nret X4 hx hby (t := .boolean) (by simp) Bd.returns Bd.notSynchronized d4_50 eh4 (by decide) (by decide) ?_
    show (Q_fv_1u Z a b kb c0 cz fz h0 n0) (some (.int (1 : Int32))) _ _
    exact ⟨by simp [own_fvs, hp_c0], N4, rfl⟩
  refine g_iloadN X2 hx hby d4_16 rfl ?_
  refine g_bipush X2 hx hby (32 : Int32) d4_17 rfl ?_
  by_cases hc19_5 : c0 < (32 : Int32)
  · skip
    refine g_icN X2 hx hby d4_19 (tlt hc19_5).2.1 ?_
    refine g_iloadN X2 hx hby d4_22 rfl ?_
    refine g_bipush X2 hx hby (9 : Int32) d4_23 rfl ?_
    refine g_at 25 rfl rfl rfl ?_
    by_cases hc25_6 : c0 = (9 : Int32)
    · skip
      refine g_icN X2 hx hby d4_25 (teq hc25_6).2 ?_
      refine g_iloadN X2 hx hby d4_28 rfl ?_
      refine g_bipush X2 hx hby (127 : Int32) d4_29 rfl ?_
      by_cases hc31_7 : c0 = (127 : Int32)
      · skip
        refine g_icY X2 hx hby 41 d4_31 (teq hc31_7).1 (by decide) (by decide) ?_
        refine g_iconst X2 hx hby (0 : Int32) d4_41 rfl ?_
        refine g_nret X2 hx hby (t := .boolean) (by simp) Bd.returns Bd.notSynchronized d4_42 eh2 (by decide) (by decide) ?_
        show (Q_fv_1u Z a b kb c0 cz fz h0 n0) (some (.int (0 : Int32))) _ _
        have hz : own_fv c0 = (0 : Int32) := by first | (simp [own_fv, hc19_5, hc25_6, hc31_7]; done) | (exact absurd hc19_5 (by rw [hc25_6]; decide)) | (exact absurd hc31_7 (by rw [hc25_6]; decide))
        exact ⟨by simp [own_fvs, hz], N2, rfl⟩
      · skip
        refine g_icN X2 hx hby d4_31 (feq hc31_7).1 ?_
        refine g_iloadN X2 hx hby d4_34 rfl ?_
        refine g_sipush X2 hx hby (255 : Int32) d4_35 rfl ?_
        by_cases hc38_8 : (255 : Int32) < c0
        · skip
          refine g_icN X2 hx hby d4_38 (tlt hc38_8).2.2.2 ?_
          refine g_iconst X2 hx hby (0 : Int32) d4_41 rfl ?_
          refine g_nret X2 hx hby (t := .boolean) (by simp) Bd.returns Bd.notSynchronized d4_42 eh2 (by decide) (by decide) ?_
          show (Q_fv_1u Z a b kb c0 cz fz h0 n0) (some (.int (0 : Int32))) _ _
          have hz : own_fv c0 = (0 : Int32) := by first | (simp [own_fv, hc19_5, hc25_6, hc31_7, hc38_8]; done) | (exact absurd hc19_5 (by rw [hc25_6]; decide)) | (exact absurd hc38_8 (by rw [hc25_6]; decide))
          exact ⟨by simp [own_fvs, hz], N2, rfl⟩
        · skip
          refine g_icY X2 hx hby 43 d4_38 (flt hc38_8).2.2.2 (by decide) (by decide) ?_
          exact J3 _ _ X2 eh2 N2 (by simp [own_fv, hc19_5, hc25_6, hc31_7, hc38_8])
    · skip
      refine g_icY X2 hx hby 41 d4_25 (feq hc25_6).2 (by decide) (by decide) ?_
      refine g_iconst X2 hx hby (0 : Int32) d4_41 rfl ?_
      refine g_nret X2 hx hby (t := .boolean) (by simp) Bd.returns Bd.notSynchronized d4_42 eh2 (by decide) (by decide) ?_
      show (Q_fv_1u Z a b kb c0 cz fz h0 n0) (some (.int (0 : Int32))) _ _
      have hz : own_fv c0 = (0 : Int32) := by first | (simp [own_fv, hc19_5, hc25_6]; done)
      exact ⟨by simp [own_fvs, hz], N2, rfl⟩
  · skip
    refine g_icY X2 hx hby 28 d4_19 (flt hc19_5).2.1 (by decide) (by decide) ?_
    refine g_iloadN X2 hx hby d4_28 rfl ?_
    refine g_bipush X2 hx hby (127 : Int32) d4_29 rfl ?_
    by_cases hc31_9 : c0 = (127 : Int32)
    · skip
      refine g_icY X2 hx hby 41 d4_31 (teq hc31_9).1 (by decide) (by decide) ?_
      refine g_iconst X2 hx hby (0 : Int32) d4_41 rfl ?_
      refine g_nret X2 hx hby (t := .boolean) (by simp) Bd.returns Bd.notSynchronized d4_42 eh2 (by decide) (by decide) ?_
      show (Q_fv_1u Z a b kb c0 cz fz h0 n0) (some (.int (0 : Int32))) _ _
      have hz : own_fv c0 = (0 : Int32) := by first | (simp [own_fv, hc19_5, hc31_9]; done)
      exact ⟨by simp [own_fvs, hz], N2, rfl⟩
    · skip
      refine g_icN X2 hx hby d4_31 (feq hc31_9).1 ?_
      refine g_iloadN X2 hx hby d4_34 rfl ?_
      refine g_sipush X2 hx hby (255 : Int32) d4_35 rfl ?_
      by_cases hc38_10 : (255 : Int32) < c0
      · skip
        refine g_icN X2 hx hby d4_38 (tlt hc38_10).2.2.2 ?_
        refine g_iconst X2 hx hby (0 : Int32) d4_41 rfl ?_
        refine g_nret X2 hx hby (t := .boolean) (by simp) Bd.returns Bd.notSynchronized d4_42 eh2 (by decide) (by decide) ?_
        show (Q_fv_1u Z a b kb c0 cz fz h0 n0) (some (.int (0 : Int32))) _ _
        have hz : own_fv c0 = (0 : Int32) := by first | (simp [own_fv, hc19_5, hc31_9, hc38_10]; done)
        exact ⟨by simp [own_fvs, hz], N2, rfl⟩
      · skip
        refine g_icY X2 hx hby 43 d4_38 (flt hc38_10).2.2.2 (by decide) (by decide) ?_
        exact J3 _ _ X2 eh2 N2 (by simp [own_fv, hc19_5, hc31_9, hc38_10])

theorem d8_26 : decode jdk_52_method_21_code 26 = .ok (.aload_n 2, 1) := by decide +kernel
theorem d8_27 : decode jdk_52_method_21_code 27 = .ok (.iload_n 3, 1) := by decide +kernel
theorem d8_28 : decode jdk_52_method_21_code 28 = .ok (.iload 6, 2) := by decide +kernel
theorem d8_30 : decode jdk_52_method_21_code 30 = .ok (.i2b, 1) := by decide +kernel
theorem d8_31 : decode jdk_52_method_21_code 31 = .ok (.bastore, 1) := by decide +kernel
theorem d8_32 : decode jdk_52_method_21_code 32 = .ok (.iinc 1 1, 3) := by decide +kernel
theorem d8_35 : decode jdk_52_method_21_code 35 = .ok (.iinc 3 1, 3) := by decide +kernel
theorem d8_38 : decode jdk_52_method_21_code 38 = .ok (.iinc 5 1, 3) := by decide +kernel
theorem d8_41 : decode jdk_52_method_21_code 41 = .ok (.goto (-38), 3) := by decide +kernel
theorem d8_44 : decode jdk_52_method_21_code 44 = .ok (.iload 4, 2) := by decide +kernel
theorem d8_46 : decode jdk_52_method_21_code 46 = .ok (.ireturn, 1) := by decide +kernel
def Q_cmp5_1 (Z : State) (ca : Addr) (ba : Addr) (kc : ClassId) (kb : ClassId) (c0 : Int32) (h0 : Heap) (n0 : Nat) (v : Option Value) (h : Heap) (L : List Loc) : Prop := v = some (.int (1 : Int32)) ∧ Fr n0 L ∧ Keep h0 h [ba] ∧ Arv Z h ba kb .byte (1 : Int32) [(.int (nar .byte (c0.toInt8.toInt32)))] (.int (0 : Int32))
set_option maxRecDepth 65536 in
set_option maxHeartbeats 40000000 in
theorem rm_cmp5_1 (l : Launch) (Z : State) (a0 : Array Value) (hw : ∀ d ∈ tables_1, d.before a0 Z = true) (ws : List Jvm.Cond) (ca : Addr) (ba : Addr) (kc : ClassId) (kb : ClassId) (c0 : Int32) (h0 : Heap) (n0 : Nat) (Z0 : n0 ≤ h0.size) (VC : Arv Z h0 ca kc .char (1 : Int32) [(.int c0)] (.int (0 : Int32))) (VB : Arv Z h0 ba kb .byte (1 : Int32) [(.int (0 : Int32))] (.int (0 : Int32))) (nab : ca ≠ ba) (gb : n0 ≤ ba) (hc0 : ¬ (255 : Int32) < c0) :
    MetFree l (⟨"java/lang/StringUTF16", "compress", "([CI[BII)I"⟩ : MethodName) (head1 (Jvm.Cond.code (⟨"java/lang/StringUTF16", "compress", "([CI[BII)I"⟩ : MethodName) jdk_52_method_21_code 7 (some .int) :: ws) ({ frames := 0, cells := 0, slots := 0, locals := 0 } : Room)) (fun aa_ U => aa_ = #[(.ref ca), (.int (0 : Int32)), (.ref ba), (.int (0 : Int32)), (.int (1 : Int32))] ∧ Z.Warmed39 U.vm ∧ U.heap = h0) (fun _ _ _ _ _ => True) (fun _ U o_ U' => RetG U (Q_cmp5_1 Z ca ba kc kb c0 h0 n0) 0 0 U' o_) := by
  refine MetFree.of_bodySF (plainFor_of_name own_pn3) hisR ?_
  intro p e s m args below meth c_ s₁ Bd hml0 hP hK
  obtain ⟨rfl, hZ, hh⟩ := hP
  have hx := Bd.exec
  have hby := Bd.bytes
  have hml : c_.maxLocals = 7 := hml0
  have hown : s.vm.findClass "java/lang/StringUTF16" = some m.cls := findClass_of_methodNamed Bd.named
  have hnm := (name_of_methodNamed Bd.named Bd.method).1
  have X0 : Stand p l e ({ frames := 0, cells := 0, slots := 0, locals := 0 } : Room) s m #[(.ref ca), (.int (0 : Int32)), (.ref ba), (.int (0 : Int32)), (.int (1 : Int32))] below meth c_ s₁ [] 0 0 := Stand.of_body Bd
  have e0 : s₁.heap = h0 := by rw [← hh, Bd.state]; rfl
  have N0 := Fr.nil n0
  show Go p e below (RetG s (Q_cmp5_1 Z ca ba kc kb c0 h0 n0) 0 0) (s₁.setTop (entryFrame m #[(.ref ca), (.int (0 : Int32)), (.ref ba), (.int (0 : Int32)), (.int (1 : Int32))] 7))
  rw [show entryFrame m #[(.ref ca), (.int (0 : Int32)), (.ref ba), (.int (0 : Int32)), (.int (1 : Int32))] 7 = mkF m 0 #[.val (.ref ca), .val (.int (0 : Int32)), .val (.ref ba), .val (.int (0 : Int32)), .val (.int (1 : Int32)), .unset, .unset] [] from by first | (simp [entryFrame, mkF, argsToLocals, Value.category]; done) | rfl]
  refine g_iconst X0 hx hby (0 : Int32) d8_0 rfl ?_
  refine g_istore X0 hx hby d8_1 (l' := #[.val (.ref ca), .val (.int (0 : Int32)), .val (.ref ba), .val (.int (0 : Int32)), .val (.int (1 : Int32)), .val (.int (0 : Int32)), .unset]) rfl ?_
  refine g_iload X0 hx hby d8_3 rfl ?_
  refine g_iload X0 hx hby d8_5 rfl ?_
  refine g_icN X0 hx hby d8_7 (tlt (by decide : (0 : Int32) < (1 : Int32))).2.1 ?_
  refine g_aloadN X0 hx hby d8_10 rfl rfl ?_
  refine g_iloadN X0 hx hby d8_11 rfl ?_
  refine g_caload X0 hx hby hZ e0 VC (.int c0) ⟨by decide, by decide⟩ rfl d8_12 ?_
  refine g_istore X0 hx hby d8_13 (l' := #[.val (.ref ca), .val (.int (0 : Int32)), .val (.ref ba), .val (.int (0 : Int32)), .val (.int (1 : Int32)), .val (.int (0 : Int32)), .val (.int c0)]) rfl ?_
  refine g_iload X0 hx hby d8_15 rfl ?_
  refine g_sipush X0 hx hby (255 : Int32) d8_17 rfl ?_
  refine g_icY X0 hx hby 26 d8_20 (flt (hc0 : ¬ ((255 : Int32) < c0))).2.2.2 (by decide) (by decide) ?_
  refine g_aloadN X0 hx hby d8_26 rfl rfl ?_
  refine g_iloadN X0 hx hby d8_27 rfl ?_
  refine g_iload X0 hx hby d8_28 rfl ?_
  refine g_i2b X0 hx hby d8_30 ?_
  refine g_bastore X0 hx hby hZ e0 VB 0 [(.int (nar .byte (c0.toInt8.toInt32)))] rfl ⟨by decide, by decide⟩ rfl (Nat.le_of_ble_eq_true rfl) N0 gb d8_31 (fun T1 h1 X1 e1 W1 V1 N1 => ?_)
  refine g_iinc X1 hx hby (1 : Int32) d8_32 rfl (by decide) (l' := #[.val (.ref ca), .val (.int (1 : Int32)), .val (.ref ba), .val (.int (0 : Int32)), .val (.int (1 : Int32)), .val (.int (0 : Int32)), .val (.int c0)]) rfl ?_
  refine g_iinc X1 hx hby (1 : Int32) d8_35 rfl (by decide) (l' := #[.val (.ref ca), .val (.int (1 : Int32)), .val (.ref ba), .val (.int (1 : Int32)), .val (.int (1 : Int32)), .val (.int (0 : Int32)), .val (.int c0)]) rfl ?_
  refine g_iinc X1 hx hby (1 : Int32) d8_38 rfl (by decide) (l' := #[.val (.ref ca), .val (.int (1 : Int32)), .val (.ref ba), .val (.int (1 : Int32)), .val (.int (1 : Int32)), .val (.int (1 : Int32)), .val (.int c0)]) rfl ?_
  refine g_goto X1 hx hby 3 d8_41 (by decide) (by decide) ?_
  refine g_iload X1 hx hby d8_3 rfl ?_
  refine g_iload X1 hx hby d8_5 rfl ?_
  refine g_icY X1 hx hby 44 d8_7 (flt (by decide : ¬ ((1 : Int32) < (1 : Int32)))).2.1 (by decide) (by decide) ?_
  refine g_iload X1 hx hby d8_44 rfl ?_
  refine g_iret X1 hx hby Bd.returns Bd.notSynchronized d8_46 e1 (by decide) (by decide) ?_
  show (Q_cmp5_1 Z ca ba kc kb c0 h0 n0) (some (.int (1 : Int32))) _ _
  exact ⟨rfl, N1, ((Keep.refl h0 [ba]).wr W1 (Or.inl (List.mem_of_getElem? (i := 0) rfl))), V1⟩

theorem d7_57 : decode jdk_52_method_16_code 57 = .ok (.aload_n 3, 1) := by decide +kernel
theorem d7_58 : decode jdk_52_method_16_code 58 = .ok (.areturn, 1) := by decide +kernel
def Q_cmp_1 (Z : State) (ca : Addr) (kc : ClassId) (c0 : Int32) (h0 : Heap) (n0 : Nat) (v : Option Value) (h : Heap) (L : List Loc) : Prop := Fr n0 L ∧ Keep h0 h [] ∧ ∃ (b : Addr) (kb : ClassId), v = some (.ref b) ∧ h0.size ≤ b ∧ Arv Z h b kb .byte (1 : Int32) [(.int (nar .byte (c0.toInt8.toInt32)))] (.int (0 : Int32))
set_option maxRecDepth 65536 in
set_option maxHeartbeats 40000000 in
theorem rm_cmp_1 (l : Launch) (Z : State) (a0 : Array Value) (hw : ∀ d ∈ tables_1, d.before a0 Z = true) (ws : List Jvm.Cond) (ca : Addr) (kc : ClassId) (c0 : Int32) (h0 : Heap) (n0 : Nat) (Z0 : n0 ≤ h0.size) (VC : Arv Z h0 ca kc .char (1 : Int32) [(.int c0)] (.int (0 : Int32))) (hc0 : ¬ (255 : Int32) < c0) :
    MetFree l (⟨"java/lang/StringUTF16", "compress", "([CII)[B"⟩ : MethodName) (head1 (Jvm.Cond.code (⟨"java/lang/StringUTF16", "compress", "([CII)[B"⟩ : MethodName) jdk_52_method_16_code 6 (some (.array .byte)) :: ws) ({ frames := 1, cells := 1, slots := 1, locals := 18 } : Room)) (fun aa_ U => aa_ = #[(.ref ca), (.int (0 : Int32)), (.int (1 : Int32))] ∧ Z.Warmed39 U.vm ∧ U.heap = h0) (fun _ _ _ _ _ => True) (fun _ U o_ U' => RetG U (Q_cmp_1 Z ca kc c0 h0 n0) 1 1 U' o_) := by
  refine MetFree.of_bodySF (plainFor_of_name own_pn3) hisR ?_
  intro p e s m args below meth c_ s₁ Bd hml0 hP hK
  obtain ⟨rfl, hZ, hh⟩ := hP
  have hx := Bd.exec
  have hby := Bd.bytes
  have hml : c_.maxLocals = 6 := hml0
  have hown : s.vm.findClass "java/lang/StringUTF16" = some m.cls := findClass_of_methodNamed Bd.named
  have hnm := (name_of_methodNamed Bd.named Bd.method).1
  have X0 : Stand p l e ({ frames := 1, cells := 1, slots := 1, locals := 18 } : Room) s m #[(.ref ca), (.int (0 : Int32)), (.int (1 : Int32))] below meth c_ s₁ [] 0 0 := Stand.of_body Bd
  have e0 : s₁.heap = h0 := by rw [← hh, Bd.state]; rfl
  have N0 := Fr.nil n0
  have w15_ := hw _ (List.mem_of_getElem? (i := 15) rfl)
  have w39_ := hw _ (List.mem_of_getElem? (i := 39) rfl)
  have w41_ := hw _ (List.mem_of_getElem? (i := 41) rfl)
  have w42_ := hw _ (List.mem_of_getElem? (i := 42) rfl)
  have w43_ := hw _ (List.mem_of_getElem? (i := 43) rfl)
  show Go p e below (RetG s (Q_cmp_1 Z ca kc c0 h0 n0) 1 1) (s₁.setTop (entryFrame m #[(.ref ca), (.int (0 : Int32)), (.int (1 : Int32))] 6))
  rw [show entryFrame m #[(.ref ca), (.int (0 : Int32)), (.int (1 : Int32))] 6 = mkF m 0 #[.val (.ref ca), .val (.int (0 : Int32)), .val (.int (1 : Int32)), .unset, .unset, .unset] [] from by first | (simp [entryFrame, mkF, argsToLocals, Value.category]; done) | rfl]
  refine g_iloadN X0 hx hby d7_0 rfl ?_
  refine g_newarray X0 hx hby hZ .byte .byte (.int (0 : Int32)) [(.int (0 : Int32))] rfl rfl w15_ e0 (by decide) 1 rfl (by decide) (by decide) (by decide) (by decide) d7_1 (fun T1 h1 k1 b1 g1 X1 e1 E1 V1 => ?_)
  refine g_astoreN X1 hx hby d7_3 rfl (l' := #[.val (.ref ca), .val (.int (0 : Int32)), .val (.int (1 : Int32)), .val (.ref b1), .unset, .unset]) rfl ?_
  refine g_aloadN X1 hx hby d7_4 rfl rfl ?_
  refine g_iloadN X1 hx hby d7_5 rfl ?_
  refine g_aloadN X1 hx hby d7_6 rfl rfl ?_
  refine g_iconst X1 hx hby (0 : Int32) d7_7 rfl ?_
  refine g_iloadN X1 hx hby d7_8 rfl ?_
  have f3 := (VC.ext E1)
  have ne4 : ca ≠ b1 := (Nat.ne_of_lt (Nat.lt_of_lt_of_le VC.lt (Nat.le_of_eq g1)))
  have g_b1 : n0 ≤ b1 := Nat.le_trans Z0 (Nat.le_of_eq g1)
  have z5 := (Nat.le_trans Z0 E1.1)
  refine g_static X1 hx hby hZ hown (rm_cmp5_1 l Z a0 hw [] ca b1 kc k1 c0 h1 n0 z5 f3 V1 ne4 g_b1 hc0) w41_ w42_ w39_ w43_ (by decide) e1 (by rw [hml]; rfl) [(.ref ca), (.int (0 : Int32)), (.ref b1), (.int (0 : Int32)), (.int (1 : Int32))] (lenOf own_pd8 rfl) rfl rfl (Nat.le_of_ble_eq_true rfl) (Nat.le_of_ble_eq_true rfl) (Nat.le_of_ble_eq_true rfl) (Nat.le_of_ble_eq_true rfl) d7_9 (fun v2 T2 L2 X2 hQ2 => ?_)
  obtain ⟨rfl, N2q, K2, V2⟩ := hQ2
  have N2 := Fr.app N0 N2q
  refine g_istore X2 hx hby d7_12 (l' := #[.val (.ref ca), .val (.int (0 : Int32)), .val (.int (1 : Int32)), .val (.ref b1), .val (.int (1 : Int32)), .unset]) rfl ?_
  refine g_iload X2 hx hby d7_14 rfl ?_
  refine g_iloadN X2 hx hby d7_16 rfl ?_
  refine g_icY X2 hx hby 57 d7_17 (teq (by decide : (1 : Int32) = (1 : Int32))).1 (by decide) (by decide) ?_
  refine g_aloadN X2 hx hby d7_57 rfl rfl ?_
  refine g_aret X2 hx hby (t := (.array .byte)) rfl rfl rfl Bd.returns Bd.notSynchronized d7_58 rfl (by decide) (by decide) ?_
  show (Q_cmp_1 Z ca kc c0 h0 n0) (some (.ref b1)) _ _
  exact ⟨N2, (((Keep.refl h0 []).ext E1).trans K2 (allS (Or.inr (Nat.le_trans (Nat.le_refl _) (Nat.le_of_eq g1))) all0)), b1, k1, rfl, (Nat.le_trans (Nat.le_refl _) (Nat.le_of_eq g1)), V2⟩

def Q_cfal_1_1 (Z : State) (ba : Addr) (kb : ClassId) (bs : List Value) (h0 : Heap) (n0 : Nat) (v : Option Value) (h : Heap) (L : List Loc) : Prop := v = some (.int (0 : Int32)) ∧ Fr n0 L ∧ h = h0
set_option maxRecDepth 65536 in
set_option maxHeartbeats 40000000 in
theorem rm_cfal_1_1 (l : Launch) (Z : State) (a0 : Array Value) (hw : ∀ d ∈ tables_1, d.before a0 Z = true) (ws : List Jvm.Cond) (ba : Addr) (kb : ClassId) (bs : List Value) (h0 : Heap) (n0 : Nat) (Z0 : n0 ≤ h0.size) (VB : Arv Z h0 ba kb .byte (1 : Int32) bs (.int (0 : Int32))) :
    MetFree l (⟨"java/lang/StringUTF16", "coderFromArrayLen", "([BI)B"⟩ : MethodName) (head1 (Jvm.Cond.code (⟨"java/lang/StringUTF16", "coderFromArrayLen", "([BI)B"⟩ : MethodName) jdk_52_method_15_code 2 (some .byte) :: ws) ({ frames := 0, cells := 0, slots := 0, locals := 0 } : Room)) (fun aa_ U => aa_ = #[(.ref ba), (.int (1 : Int32))] ∧ Z.Warmed39 U.vm ∧ U.heap = h0) (fun _ _ _ _ _ => True) (fun _ U o_ U' => RetG U (Q_cfal_1_1 Z ba kb bs h0 n0) 0 0 U' o_) := by
  refine MetFree.of_bodySF (plainFor_of_name own_pn3) hisR ?_
  intro p e s m args below meth c_ s₁ Bd hml0 hP hK
  obtain ⟨rfl, hZ, hh⟩ := hP
  have hx := Bd.exec
  have hby := Bd.bytes
  have hml : c_.maxLocals = 2 := hml0
  have hown : s.vm.findClass "java/lang/StringUTF16" = some m.cls := findClass_of_methodNamed Bd.named
  have hnm := (name_of_methodNamed Bd.named Bd.method).1
  have X0 : Stand p l e ({ frames := 0, cells := 0, slots := 0, locals := 0 } : Room) s m #[(.ref ba), (.int (1 : Int32))] below meth c_ s₁ [] 0 0 := Stand.of_body Bd
  have e0 : s₁.heap = h0 := by rw [← hh, Bd.state]; rfl
  have N0 := Fr.nil n0
  show Go p e below (RetG s (Q_cfal_1_1 Z ba kb bs h0 n0) 0 0) (s₁.setTop (entryFrame m #[(.ref ba), (.int (1 : Int32))] 2))
  rw [show entryFrame m #[(.ref ba), (.int (1 : Int32))] 2 = mkF m 0 #[.val (.ref ba), .val (.int (1 : Int32))] [] from by first | (simp [entryFrame, mkF, argsToLocals, Value.category]; done) | rfl]
  refine g_iloadN X0 hx hby d9_0 rfl ?_
  refine g_aloadN X0 hx hby d9_1 rfl rfl ?_
  refine g_arraylength X0 hx hby hZ e0 VB d9_2 ?_
  refine g_isub X0 hx hby d9_3 ?_
  refine g_topI (0 : Int32) (by decide) ?_
  refine g_bipush X0 hx hby (31 : Int32) d9_4 rfl ?_
  refine g_iushr X0 hx hby d9_6 ?_
  refine g_topI (0 : Int32) (by decide) ?_
  refine g_i2b X0 hx hby d9_7 ?_
  refine g_topI (0 : Int32) (by decide) ?_
  refine g_nret X0 hx hby (t := .byte) (by simp) Bd.returns Bd.notSynchronized d9_8 e0 (by decide) (by decide) ?_
  show (Q_cfal_1_1 Z ba kb bs h0 n0) (some (.int (0 : Int32))) _ _
  exact ⟨rfl, N0, rfl⟩

def Q_ini2_1 (Z : State) (a : Addr) (ca : Addr) (kc : ClassId) (c0 : Int32) (cz : Int32) (h0 : Heap) (n0 : Nat) (v : Option Value) (h : Heap) (L : List Loc) : Prop := v = none ∧ Fr n0 L ∧ Keep h0 h [a] ∧ ∃ (b : Addr) (kb : ClassId), h0.size ≤ b ∧ Exa Z h a "java/lang/String" ∧ Fld Z h a "java/lang/String" "coder" "B" (.int (0 : Int32)) ∧ Fld Z h a "java/lang/String" "value" "[B" (.ref b) ∧ Arv Z h b kb .byte (1 : Int32) [(.int (nar .byte (c0.toInt8.toInt32)))] (.int (0 : Int32))
set_option maxRecDepth 65536 in
set_option maxHeartbeats 40000000 in
theorem rm_ini2_1 (l : Launch) (Z : State) (a0 : Array Value) (hw : ∀ d ∈ tables_1, d.before a0 Z = true) (ws : List Jvm.Cond) (a : Addr) (ca : Addr) (kc : ClassId) (c0 : Int32) (cz : Int32) (h0 : Heap) (n0 : Nat) (Z0 : n0 ≤ h0.size) (O2 : Sta Z Z.heap "java/lang/String" "COMPACT_STRINGS" "Z" (.int cz)) (P5 : ¬ cz = (0 : Int32)) (OLD : Old Z n0 h0) (E : Exa Z h0 a "java/lang/String") (FC : Fld Z h0 a "java/lang/String" "coder" "B" (.int (0 : Int32))) (FV : Fld Z h0 a "java/lang/String" "value" "[B" .null) (VC : Arv Z h0 ca kc .char (1 : Int32) [(.int c0)] (.int (0 : Int32))) (ga : n0 ≤ a) (hc0 : ¬ (255 : Int32) < c0) :
    MetFree l (⟨"java/lang/String", "<init>", "([CIILjava/lang/Void;)V"⟩ : MethodName) (head1 (Jvm.Cond.code (⟨"java/lang/String", "<init>", "([CIILjava/lang/Void;)V"⟩ : MethodName) jdk_42_method_149_code 6 none :: ws) ({ frames := 2, cells := 1, slots := 1, locals := 35 } : Room)) (fun aa_ U => aa_ = #[(.ref a), (.ref ca), (.int (0 : Int32)), (.int (1 : Int32)), .null] ∧ Z.Warmed39 U.vm ∧ U.heap = h0) (fun _ _ _ _ _ => True) (fun _ U o_ U' => RetG U (Q_ini2_1 Z a ca kc c0 cz h0 n0) 1 1 U' o_) := by
  refine MetFree.of_bodySF (plainFor_of_name own_pn1) hisR ?_
  intro p e s m args below meth c_ s₁ Bd hml0 hP hK
  obtain ⟨rfl, hZ, hh⟩ := hP
  have hx := Bd.exec
  have hby := Bd.bytes
  have hml : c_.maxLocals = 6 := hml0
  have hown : s.vm.findClass "java/lang/String" = some m.cls := findClass_of_methodNamed Bd.named
  have hnm := (name_of_methodNamed Bd.named Bd.method).1
  have X0 : Stand p l e ({ frames := 2, cells := 1, slots := 1, locals := 35 } : Room) s m #[(.ref a), (.ref ca), (.int (0 : Int32)), (.int (1 : Int32)), .null] below meth c_ s₁ [] 0 0 := Stand.of_body Bd
  have e0 : s₁.heap = h0 := by rw [← hh, Bd.state]; rfl
  have N0 := Fr.nil n0
  have w2_ := hw _ (List.mem_of_getElem? (i := 2) rfl)
  have w11_ := hw _ (List.mem_of_getElem? (i := 11) rfl)
  have w12_ := hw _ (List.mem_of_getElem? (i := 12) rfl)
  have w13_ := hw _ (List.mem_of_getElem? (i := 13) rfl)
  have w16_ := hw _ (List.mem_of_getElem? (i := 16) rfl)
  have w17_ := hw _ (List.mem_of_getElem? (i := 17) rfl)
  have w20_ := hw _ (List.mem_of_getElem? (i := 20) rfl)
  have w21_ := hw _ (List.mem_of_getElem? (i := 21) rfl)
  have w36_ := hw _ (List.mem_of_getElem? (i := 36) rfl)
  have w37_ := hw _ (List.mem_of_getElem? (i := 37) rfl)
  have w38_ := hw _ (List.mem_of_getElem? (i := 38) rfl)
  have w39_ := hw _ (List.mem_of_getElem? (i := 39) rfl)
  have w40_ := hw _ (List.mem_of_getElem? (i := 40) rfl)
  have w44_ := hw _ (List.mem_of_getElem? (i := 44) rfl)
  have w45_ := hw _ (List.mem_of_getElem? (i := 45) rfl)
  have w46_ := hw _ (List.mem_of_getElem? (i := 46) rfl)
  show Go p e below (RetG s (Q_ini2_1 Z a ca kc c0 cz h0 n0) 1 1) (s₁.setTop (entryFrame m #[(.ref a), (.ref ca), (.int (0 : Int32)), (.int (1 : Int32)), .null] 6))
  rw [show entryFrame m #[(.ref a), (.ref ca), (.int (0 : Int32)), (.int (1 : Int32)), .null] 6 = mkF m 0 #[.val (.ref a), .val (.ref ca), .val (.int (0 : Int32)), .val (.int (1 : Int32)), .val .null, .unset] [] from by first | (simp [entryFrame, mkF, argsToLocals, Value.category]; done) | rfl]
  refine g_aloadN X0 hx hby d2_0 rfl rfl ?_
  refine g_initO X0 hx hby hZ hown w11_ w12_ w13_ e0 (by rw [hml]; rfl) (Nat.le_of_ble_eq_true rfl) (Nat.le_of_ble_eq_true rfl) d2_1 (fun T1 X1 e1 => ?_)
  refine g_iloadN X1 hx hby d2_4 rfl ?_
  refine g_ifY X1 hx hby 27 d2_5 (feq (by decide : ¬ ((1 : Int32) = (0 : Int32)))).2 (by decide) (by decide) ?_
  refine g_getS X1 hx hby hZ hown (host := "") (Or.inl w36_) Via.refl e1 (O2.ext OLD.2) d2_27 (fun T2 X2 e2 => ?_)
  refine g_ifN X2 hx hby d2_30 (feq (P5 : ¬ (cz = (0 : Int32)))).1 ?_
  refine g_aloadN X2 hx hby d2_33 rfl rfl ?_
  refine g_iloadN X2 hx hby d2_34 rfl ?_
  refine g_iloadN X2 hx hby d2_35 rfl ?_
  refine g_static X2 hx hby hZ hown (rm_cmp_1 l Z a0 hw [] ca kc c0 h0 n0 Z0 VC hc0) w37_ w38_ w39_ w40_ (by decide) e2 (by rw [hml]; rfl) [(.ref ca), (.int (0 : Int32)), (.int (1 : Int32))] (lenOf own_pd9 rfl) rfl rfl (Nat.le_of_ble_eq_true rfl) (Nat.le_of_ble_eq_true rfl) (Nat.le_of_ble_eq_true rfl) (Nat.le_of_ble_eq_true rfl) d2_36 (fun v3 T3 L3 X3 hQ3 => ?_)
  obtain ⟨N3q, K3, bb, kb, rfl, lob, Vb⟩ := hQ3
  have N3 := Fr.app N0 N3q
  refine g_astore X3 hx hby d2_39 rfl (l' := #[.val (.ref a), .val (.ref ca), .val (.int (0 : Int32)), .val (.int (1 : Int32)), .val .null, .val (.ref bb)]) rfl ?_
  refine g_aloadN X3 hx hby d2_41 rfl rfl ?_
  refine g_aload X3 hx hby d2_42 rfl rfl ?_
  refine g_iloadN X3 hx hby d2_44 rfl ?_
  have z5 := (Nat.le_trans Z0 K3.1)
  refine g_static X3 hx hby hZ hown (rm_cfal_1_1 l Z a0 hw [] bb kb [(.int (nar .byte (c0.toInt8.toInt32)))] T3.heap n0 z5 Vb) w44_ w45_ w39_ w46_ (by decide) rfl (by rw [hml]; rfl) [(.ref bb), (.int (1 : Int32))] (lenOf own_pd11 rfl) rfl rfl (Nat.le_of_ble_eq_true rfl) (Nat.le_of_ble_eq_true rfl) (Nat.le_of_ble_eq_true rfl) (Nat.le_of_ble_eq_true rfl) d2_45 (fun v4 T4 L4 X4 hQ4 => ?_)
  obtain ⟨rfl, N4q, eh4⟩ := hQ4
  have N4 := Fr.app N3 N4q
  have f6 := (E.keep K3)
  have f7 := (FC.keep K3 nin0)
  refine g_putFN X4 hx hby hZ hown w21_ Via.refl eh4 f7 f6 (Or.inr ⟨w17_, rfl, hnm⟩) w2_ .byte (by decide) (.int (0 : Int32)) rfl rfl N4 ga d2_48 (fun T8 h8 X8 e8 W8 F8 N8 => ?_)
  refine g_aloadN X8 hx hby d2_51 rfl rfl ?_
  refine g_aload X8 hx hby d2_52 rfl rfl ?_
  have f9 := (f6.wr W8)
  have f10 := ((FV.keep K3 nin0).other W8 (Or.inr (slot_ne (Or.inr w16_) (Or.inr w17_) (by decide) (t := (.array .byte)) (t' := .byte) (by decide) (by decide))))
  refine g_putF X8 hx hby hZ hown (host := "") (Or.inl w20_) Via.refl e8 f10 f9 (Or.inr ⟨w16_, rfl, hnm⟩) w2_ (.array .byte) (by decide) rfl rfl N8 ga d2_54 (fun T11 h11 X11 e11 W11 F11 N11 => ?_)
  have f12 := (f9.wr W11)
  have f13 := (F8.other W11 (Or.inr (slot_ne (Or.inr w17_) (Or.inr w16_) (by decide) (t := .byte) (t' := (.array .byte)) (by decide) (by decide))))
  have ne14 : bb ≠ a := (Ne.symm (Nat.ne_of_lt (Nat.lt_of_lt_of_le E.lt lob)))
  have f15 := ((Vb.other W8 ne14).other W11 ne14)
  refine g_ret X11 hx hby Bd.returns Bd.notSynchronized d2_57 e11 (by decide) (by decide) ?_
  show (Q_ini2_1 Z a ca kc c0 cz h0 n0) none _ _
  exact ⟨rfl, N11, ((((Keep.refl h0 [a]).trans K3 all0).wr W8 (Or.inl (List.mem_of_getElem? (i := 0) rfl))).wr W11 (Or.inl (List.mem_of_getElem? (i := 0) rfl))), bb, kb, (Nat.le_trans (Nat.le_refl _) lob), f12, f13, F11, f15⟩

def Q_ini1_1 (Z : State) (a : Addr) (ca : Addr) (kc : ClassId) (c0 : Int32) (cz : Int32) (h0 : Heap) (n0 : Nat) (v : Option Value) (h : Heap) (L : List Loc) : Prop := v = none ∧ Fr n0 L ∧ Keep h0 h [a] ∧ ∃ (b : Addr) (kb : ClassId), h0.size ≤ b ∧ Exa Z h a "java/lang/String" ∧ Fld Z h a "java/lang/String" "coder" "B" (.int (0 : Int32)) ∧ Fld Z h a "java/lang/String" "value" "[B" (.ref b) ∧ Arv Z h b kb .byte (1 : Int32) [(.int (nar .byte (c0.toInt8.toInt32)))] (.int (0 : Int32))
set_option maxRecDepth 65536 in
set_option maxHeartbeats 40000000 in
theorem rm_ini1_1 (l : Launch) (Z : State) (a0 : Array Value) (hw : ∀ d ∈ tables_1, d.before a0 Z = true) (ws : List Jvm.Cond) (a : Addr) (ca : Addr) (kc : ClassId) (c0 : Int32) (cz : Int32) (h0 : Heap) (n0 : Nat) (Z0 : n0 ≤ h0.size) (O2 : Sta Z Z.heap "java/lang/String" "COMPACT_STRINGS" "Z" (.int cz)) (P5 : ¬ cz = (0 : Int32)) (OLD : Old Z n0 h0) (E : Exa Z h0 a "java/lang/String") (FC : Fld Z h0 a "java/lang/String" "coder" "B" (.int (0 : Int32))) (FV : Fld Z h0 a "java/lang/String" "value" "[B" .null) (VC : Arv Z h0 ca kc .char (1 : Int32) [(.int c0)] (.int (0 : Int32))) (ga : n0 ≤ a) (hc0 : ¬ (255 : Int32) < c0) :
    MetFree l (⟨"java/lang/String", "<init>", "([C)V"⟩ : MethodName) (head1 (Jvm.Cond.code (⟨"java/lang/String", "<init>", "([C)V"⟩ : MethodName) jdk_42_method_3_code 2 none :: ws) ({ frames := 3, cells := 1, slots := 1, locals := 52 } : Room)) (fun aa_ U => aa_ = #[(.ref a), (.ref ca)] ∧ Z.Warmed39 U.vm ∧ U.heap = h0) (fun _ _ _ _ _ => True) (fun _ U o_ U' => RetG U (Q_ini1_1 Z a ca kc c0 cz h0 n0) 1 1 U' o_) := by
  refine MetFree.of_bodySF (plainFor_of_name own_pn1) hisR ?_
  intro p e s m args below meth c_ s₁ Bd hml0 hP hK
  obtain ⟨rfl, hZ, hh⟩ := hP
  have hx := Bd.exec
  have hby := Bd.bytes
  have hml : c_.maxLocals = 2 := hml0
  have hown : s.vm.findClass "java/lang/String" = some m.cls := findClass_of_methodNamed Bd.named
  have hnm := (name_of_methodNamed Bd.named Bd.method).1
  have X0 : Stand p l e ({ frames := 3, cells := 1, slots := 1, locals := 52 } : Room) s m #[(.ref a), (.ref ca)] below meth c_ s₁ [] 0 0 := Stand.of_body Bd
  have e0 : s₁.heap = h0 := by rw [← hh, Bd.state]; rfl
  have N0 := Fr.nil n0
  have w3_ := hw _ (List.mem_of_getElem? (i := 3) rfl)
  have w7_ := hw _ (List.mem_of_getElem? (i := 7) rfl)
  have w8_ := hw _ (List.mem_of_getElem? (i := 8) rfl)
  have w10_ := hw _ (List.mem_of_getElem? (i := 10) rfl)
  show Go p e below (RetG s (Q_ini1_1 Z a ca kc c0 cz h0 n0) 1 1) (s₁.setTop (entryFrame m #[(.ref a), (.ref ca)] 2))
  rw [show entryFrame m #[(.ref a), (.ref ca)] 2 = mkF m 0 #[.val (.ref a), .val (.ref ca)] [] from by first | (simp [entryFrame, mkF, argsToLocals, Value.category]; done) | rfl]
  refine g_aloadN X0 hx hby d1_0 rfl rfl ?_
  refine g_aloadN X0 hx hby d1_1 rfl rfl ?_
  refine g_iconst X0 hx hby (0 : Int32) d1_2 rfl ?_
  refine g_aloadN X0 hx hby d1_3 rfl rfl ?_
  refine g_arraylength X0 hx hby hZ e0 VC d1_4 ?_
  refine g_aconst_null X0 hx hby d1_5 ?_
  refine g_special X0 hx hby hZ hown (rm_ini2_1 l Z a0 hw [] a ca kc c0 cz h0 n0 Z0 O2 P5 OLD E FC FV VC ga hc0) rfl rfl w7_ w8_ w3_ w10_ (by decide) e0 (by rw [hml]; rfl) [(.ref ca), (.int (0 : Int32)), (.int (1 : Int32)), .null] (lenOf own_pd0 rfl) rfl rfl (Nat.le_of_ble_eq_true rfl) (Nat.le_of_ble_eq_true rfl) (Nat.le_of_ble_eq_true rfl) (Nat.le_of_ble_eq_true rfl) d1_6 (fun v1 T1 L1 X1 hQ1 => ?_)
  obtain ⟨rfl, N1q, R1⟩ := hQ1
  have N1 := Fr.app N0 N1q
  refine g_ret X1 hx hby Bd.returns Bd.notSynchronized d1_9 rfl (by decide) (by decide) ?_
  show (Q_ini1_1 Z a ca kc c0 cz h0 n0) none _ _
  exact ⟨rfl, N1, R1⟩

def Q_slen_1 (Z : State) (a : Addr) (b : Addr) (kb : ClassId) (bs : List Value) (cz : Int32) (h0 : Heap) (n0 : Nat) (v : Option Value) (h : Heap) (L : List Loc) : Prop := v = some (.int (1 : Int32)) ∧ Fr n0 L ∧ h = h0
set_option maxRecDepth 65536 in
set_option maxHeartbeats 40000000 in
theorem rm_slen_1 (l : Launch) (Z : State) (a0 : Array Value) (hw : ∀ d ∈ tables_1, d.before a0 Z = true) (ws : List Jvm.Cond) (a : Addr) (b : Addr) (kb : ClassId) (bs : List Value) (cz : Int32) (h0 : Heap) (n0 : Nat) (Z0 : n0 ≤ h0.size) (O2 : Sta Z Z.heap "java/lang/String" "COMPACT_STRINGS" "Z" (.int cz)) (P5 : ¬ cz = (0 : Int32)) (OLD : Old Z n0 h0) (E : Exa Z h0 a "java/lang/String") (C : Fld Z h0 a "java/lang/String" "coder" "B" (.int (0 : Int32))) (VF : Fld Z h0 a "java/lang/String" "value" "[B" (.ref b)) (VB : Arv Z h0 b kb .byte (1 : Int32) bs (.int (0 : Int32))) :
    MetFree l (⟨"java/lang/String", "length", "()I"⟩ : MethodName) (head1 (Jvm.Cond.code (⟨"java/lang/String", "length", "()I"⟩ : MethodName) jdk_42_method_54_code 1 (some .int) :: ws) ({ frames := 1, cells := 0, slots := 0, locals := 13 } : Room)) (fun aa_ U => aa_ = #[(.ref a)] ∧ Z.Warmed39 U.vm ∧ U.heap = h0) (fun _ _ _ _ _ => True) (fun _ U o_ U' => RetG U (Q_slen_1 Z a b kb bs cz h0 n0) 0 0 U' o_) := by
  refine MetFree.of_bodySF (plainFor_of_name own_pn1) hisR ?_
  intro p e s m args below meth c_ s₁ Bd hml0 hP hK
  obtain ⟨rfl, hZ, hh⟩ := hP
  have hx := Bd.exec
  have hby := Bd.bytes
  have hml : c_.maxLocals = 1 := hml0
  have hown : s.vm.findClass "java/lang/String" = some m.cls := findClass_of_methodNamed Bd.named
  have hnm := (name_of_methodNamed Bd.named Bd.method).1
  have X0 : Stand p l e ({ frames := 1, cells := 0, slots := 0, locals := 13 } : Room) s m #[(.ref a)] below meth c_ s₁ [] 0 0 := Stand.of_body Bd
  have e0 : s₁.heap = h0 := by rw [← hh, Bd.state]; rfl
  have N0 := Fr.nil n0
  have w3_ := hw _ (List.mem_of_getElem? (i := 3) rfl)
  have w20_ := hw _ (List.mem_of_getElem? (i := 20) rfl)
  have w31_ := hw _ (List.mem_of_getElem? (i := 31) rfl)
  have w32_ := hw _ (List.mem_of_getElem? (i := 32) rfl)
  have w33_ := hw _ (List.mem_of_getElem? (i := 33) rfl)
  have w34_ := hw _ (List.mem_of_getElem? (i := 34) rfl)
  have w35_ := hw _ (List.mem_of_getElem? (i := 35) rfl)
  show Go p e below (RetG s (Q_slen_1 Z a b kb bs cz h0 n0) 0 0) (s₁.setTop (entryFrame m #[(.ref a)] 1))
  rw [show entryFrame m #[(.ref a)] 1 = mkF m 0 #[.val (.ref a)] [] from by first | (simp [entryFrame, mkF, argsToLocals, Value.category]; done) | rfl]
  refine g_aloadN X0 hx hby d5_0 rfl rfl ?_
  refine g_getF X0 hx hby hZ hown (host := "") (Or.inl w20_) Via.refl e0 VF d5_1 (fun T1 X1 e1 => ?_)
  refine g_arraylength X1 hx hby hZ e1 VB d5_4 ?_
  refine g_aloadN X1 hx hby d5_5 rfl rfl ?_
  refine g_virtual X1 hx hby hZ hown (rm_coder l Z a0 hw [] a (0 : Int32) cz h0 n0 Z0 O2 P5 OLD C) w31_ w32_ (notFace_of_selects (args := #[]) (mvT hZ w34_)) w34_ w33_ w3_ w35_ (by decide) e1 E (by rw [hml]; rfl) [] (lenOf own_pd2 rfl) rfl rfl (Nat.le_of_ble_eq_true rfl) (Nat.le_of_ble_eq_true rfl) (Nat.le_of_ble_eq_true rfl) (Nat.le_of_ble_eq_true rfl) d5_6 (fun v2 T2 L2 X2 hQ2 => ?_)
  obtain ⟨rfl, N2q, eh2⟩ := hQ2
  have N2 := Fr.app N0 N2q
  refine g_topI (T := T2) (0 : Int32) (by decide) ?_
  refine g_ishr X2 hx hby d5_9 ?_
  refine g_topI (1 : Int32) (by decide) ?_
  refine g_iret X2 hx hby Bd.returns Bd.notSynchronized d5_10 eh2 (by decide) (by decide) ?_
  show (Q_slen_1 Z a b kb bs cz h0 n0) (some (.int (1 : Int32))) _ _
  exact ⟨rfl, N2, rfl⟩

theorem d12_13 : decode jdk_42_method_154_code 13 = .ok (.iconst 1, 1) := by decide +kernel
theorem d12_14 : decode jdk_42_method_154_code 14 = .ok (.goto 4, 3) := by decide +kernel
def Q_islat (Z : State) (a : Addr) (cz : Int32) (h0 : Heap) (n0 : Nat) (v : Option Value) (h : Heap) (L : List Loc) : Prop := v = some (.int (1 : Int32)) ∧ Fr n0 L ∧ h = h0
set_option maxRecDepth 65536 in
set_option maxHeartbeats 40000000 in
theorem rm_islat (l : Launch) (Z : State) (a0 : Array Value) (hw : ∀ d ∈ tables_1, d.before a0 Z = true) (ws : List Jvm.Cond) (a : Addr) (cz : Int32) (h0 : Heap) (n0 : Nat) (Z0 : n0 ≤ h0.size) (O2 : Sta Z Z.heap "java/lang/String" "COMPACT_STRINGS" "Z" (.int cz)) (P5 : ¬ cz = (0 : Int32)) (OLD : Old Z n0 h0) (C : Fld Z h0 a "java/lang/String" "coder" "B" (.int (0 : Int32))) :
    MetFree l (⟨"java/lang/String", "isLatin1", "()Z"⟩ : MethodName) (head1 (Jvm.Cond.code (⟨"java/lang/String", "isLatin1", "()Z"⟩ : MethodName) jdk_42_method_154_code 1 (some .boolean) :: ws) ({ frames := 0, cells := 0, slots := 0, locals := 0 } : Room)) (fun aa_ U => aa_ = #[(.ref a)] ∧ Z.Warmed39 U.vm ∧ U.heap = h0) (fun _ _ _ _ _ => True) (fun _ U o_ U' => RetG U (Q_islat Z a cz h0 n0) 0 0 U' o_) := by
  refine MetFree.of_bodySF (plainFor_of_name own_pn1) hisR ?_
  intro p e s m args below meth c_ s₁ Bd hml0 hP hK
  obtain ⟨rfl, hZ, hh⟩ := hP
  have hx := Bd.exec
  have hby := Bd.bytes
  have hml : c_.maxLocals = 1 := hml0
  have hown : s.vm.findClass "java/lang/String" = some m.cls := findClass_of_methodNamed Bd.named
  have hnm := (name_of_methodNamed Bd.named Bd.method).1
  have X0 : Stand p l e ({ frames := 0, cells := 0, slots := 0, locals := 0 } : Room) s m #[(.ref a)] below meth c_ s₁ [] 0 0 := Stand.of_body Bd
  have e0 : s₁.heap = h0 := by rw [← hh, Bd.state]; rfl
  have N0 := Fr.nil n0
  have w21_ := hw _ (List.mem_of_getElem? (i := 21) rfl)
  have w36_ := hw _ (List.mem_of_getElem? (i := 36) rfl)
  show Go p e below (RetG s (Q_islat Z a cz h0 n0) 0 0) (s₁.setTop (entryFrame m #[(.ref a)] 1))
  rw [show entryFrame m #[(.ref a)] 1 = mkF m 0 #[.val (.ref a)] [] from by first | (simp [entryFrame, mkF, argsToLocals, Value.category]; done) | rfl]
  refine g_getS X0 hx hby hZ hown (host := "") (Or.inl w36_) Via.refl e0 (O2.ext OLD.2) d12_0 (fun T1 X1 e1 => ?_)
  refine g_ifN X1 hx hby d12_3 (feq (P5 : ¬ (cz = (0 : Int32)))).1 ?_
  refine g_aloadN X1 hx hby d12_6 rfl rfl ?_
  refine g_getF X1 hx hby hZ hown (host := "") (Or.inl w21_) Via.refl e1 C d12_7 (fun T2 X2 e2 => ?_)
  refine g_ifN X2 hx hby d12_10 (teq (by decide : (0 : Int32) = (0 : Int32))).2 ?_
  refine g_iconst X2 hx hby (1 : Int32) d12_13 rfl ?_
  refine g_goto X2 hx hby 18 d12_14 (by decide) (by decide) ?_
  refine g_nret X2 hx hby (t := .boolean) (by simp) Bd.returns Bd.notSynchronized d12_18 e2 (by decide) (by decide) ?_
  show (Q_islat Z a cz h0 n0) (some (.int (1 : Int32))) _ _
  exact ⟨rfl, N0, rfl⟩

theorem d13_0 : decode jdk_43_method_2_code 0 = .ok (.iload_n 1, 1) := by decide +kernel
theorem d13_1 : decode jdk_43_method_2_code 1 = .ok (.aload_n 0, 1) := by decide +kernel
theorem d13_2 : decode jdk_43_method_2_code 2 = .ok (.arraylength, 1) := by decide +kernel
theorem d13_3 : decode jdk_43_method_2_code 3 = .ok (.invokestatic 9, 3) := by decide +kernel
theorem d13_6 : decode jdk_43_method_2_code 6 = .ok (.aload_n 0, 1) := by decide +kernel
theorem d13_7 : decode jdk_43_method_2_code 7 = .ok (.iload_n 1, 1) := by decide +kernel
theorem d13_8 : decode jdk_43_method_2_code 8 = .ok (.baload, 1) := by decide +kernel
theorem d13_9 : decode jdk_43_method_2_code 9 = .ok (.sipush 255, 3) := by decide +kernel
theorem d13_12 : decode jdk_43_method_2_code 12 = .ok (.iand, 1) := by decide +kernel
theorem d13_13 : decode jdk_43_method_2_code 13 = .ok (.i2c, 1) := by decide +kernel
theorem d13_14 : decode jdk_43_method_2_code 14 = .ok (.ireturn, 1) := by decide +kernel
theorem own_pn5 : plainName "java/lang/StringLatin1" = true := by first | (simp [plainName, overriddenIn]; done) | decide +kernel
def Q_lchar_1 (Z : State) (b : Addr) (kb : ClassId) (bs : List Value) (j : Int32) (bv : Int32) (fz : Value) (h0 : Heap) (n0 : Nat) (v : Option Value) (h : Heap) (L : List Loc) : Prop := v = some (.int (nar .char ((bv &&& (255 : Int32)).toUInt32.toUInt16.toUInt32.toInt32))) ∧ Fr n0 L ∧ h = h0
set_option maxRecDepth 65536 in
set_option maxHeartbeats 40000000 in
theorem rm_lchar_1 (l : Launch) (Z : State) (a0 : Array Value) (hw : ∀ d ∈ tables_1, d.before a0 Z = true) (ws : List Jvm.Cond) (b : Addr) (kb : ClassId) (bs : List Value) (j : Int32) (bv : Int32) (fz : Value) (h0 : Heap) (n0 : Nat) (Z0 : n0 ≤ h0.size) (VB : Arv Z h0 b kb .byte (1 : Int32) bs (.int (0 : Int32))) (hj : ¬ j < 0 ∧ j < (1 : Int32)) (hv : bs.getD j.toNatClampNeg (.int (0 : Int32)) = .int bv) (rfz : Rf fz) (O4 : Sta Z Z.heap "jdk/internal/util/Preconditions" "SIOOBE_FORMATTER" "Ljava/util/function/BiFunction;" fz) (OLD : Old Z n0 h0) :
    MetFree l (⟨"java/lang/StringLatin1", "charAt", "([BI)C"⟩ : MethodName) (head1 (Jvm.Cond.code (⟨"java/lang/StringLatin1", "charAt", "([BI)C"⟩ : MethodName) jdk_43_method_2_code 2 (some .char) :: ws) ({ frames := 2, cells := 0, slots := 0, locals := 27 } : Room)) (fun aa_ U => aa_ = #[(.ref b), (.int j)] ∧ Z.Warmed39 U.vm ∧ U.heap = h0) (fun _ _ _ _ _ => True) (fun _ U o_ U' => RetG U (Q_lchar_1 Z b kb bs j bv fz h0 n0) 0 0 U' o_) := by
  refine MetFree.of_bodySF (plainFor_of_name own_pn5) hisR ?_
  intro p e s m args below meth c_ s₁ Bd hml0 hP hK
  obtain ⟨rfl, hZ, hh⟩ := hP
  have hx := Bd.exec
  have hby := Bd.bytes
  have hml : c_.maxLocals = 2 := hml0
  have hown : s.vm.findClass "java/lang/StringLatin1" = some m.cls := findClass_of_methodNamed Bd.named
  have hnm := (name_of_methodNamed Bd.named Bd.method).1
  have X0 : Stand p l e ({ frames := 2, cells := 0, slots := 0, locals := 27 } : Room) s m #[(.ref b), (.int j)] below meth c_ s₁ [] 0 0 := Stand.of_body Bd
  have e0 : s₁.heap = h0 := by rw [← hh, Bd.state]; rfl
  have N0 := Fr.nil n0
  have w3_ := hw _ (List.mem_of_getElem? (i := 3) rfl)
  have w65_ := hw _ (List.mem_of_getElem? (i := 65) rfl)
  have w66_ := hw _ (List.mem_of_getElem? (i := 66) rfl)
  have w67_ := hw _ (List.mem_of_getElem? (i := 67) rfl)
  show Go p e below (RetG s (Q_lchar_1 Z b kb bs j bv fz h0 n0) 0 0) (s₁.setTop (entryFrame m #[(.ref b), (.int j)] 2))
  rw [show entryFrame m #[(.ref b), (.int j)] 2 = mkF m 0 #[.val (.ref b), .val (.int j)] [] from by first | (simp [entryFrame, mkF, argsToLocals, Value.category]; done) | rfl]
  refine g_iloadN X0 hx hby d13_0 rfl ?_
  refine g_aloadN X0 hx hby d13_1 rfl rfl ?_
  refine g_arraylength X0 hx hby hZ e0 VB d13_2 ?_
  refine g_static X0 hx hby hZ hown (rm_schk l Z a0 hw [] j (1 : Int32) fz h0 n0 Z0 hj rfz O4 OLD) w65_ w66_ w3_ w67_ (by decide) e0 (by rw [hml]; rfl) [(.int j), (.int (1 : Int32))] (lenOf own_pd15 rfl) rfl rfl (Nat.le_of_ble_eq_true rfl) (Nat.le_of_ble_eq_true rfl) (Nat.le_of_ble_eq_true rfl) (Nat.le_of_ble_eq_true rfl) d13_3 (fun v1 T1 L1 X1 hQ1 => ?_)
  obtain ⟨rfl, N1q, eh1⟩ := hQ1
  have N1 := Fr.app N0 N1q
  refine g_aloadN X1 hx hby d13_6 rfl rfl ?_
  refine g_iloadN X1 hx hby d13_7 rfl ?_
  refine g_baload X1 hx hby hZ eh1 VB (.int bv) hj hv d13_8 ?_
  refine g_sipush X1 hx hby (255 : Int32) d13_9 rfl ?_
  refine g_iand X1 hx hby d13_12 ?_
  refine g_i2c X1 hx hby d13_13 ?_
  refine g_nret X1 hx hby (t := .char) (by simp) Bd.returns Bd.notSynchronized d13_14 eh1 (by decide) (by decide) ?_
  show (Q_lchar_1 Z b kb bs j bv fz h0 n0) (some (.int (nar .char ((bv &&& (255 : Int32)).toUInt32.toUInt16.toUInt32.toInt32)))) _ _
  exact ⟨rfl, N1, rfl⟩

theorem d11_7 : decode jdk_42_method_56_code 7 = .ok (.aload_n 0, 1) := by decide +kernel
theorem d11_8 : decode jdk_42_method_56_code 8 = .ok (.getfield 9, 3) := by decide +kernel
theorem d11_11 : decode jdk_42_method_56_code 11 = .ok (.iload_n 1, 1) := by decide +kernel
theorem d11_12 : decode jdk_42_method_56_code 12 = .ok (.invokestatic 495, 3) := by decide +kernel
theorem d11_15 : decode jdk_42_method_56_code 15 = .ok (.ireturn, 1) := by decide +kernel
def Q_schar_1 (Z : State) (a : Addr) (b : Addr) (kb : ClassId) (bs : List Value) (j : Int32) (bv : Int32) (fz : Value) (cz : Int32) (h0 : Heap) (n0 : Nat) (v : Option Value) (h : Heap) (L : List Loc) : Prop := v = some (.int (nar .char (nar .char ((bv &&& (255 : Int32)).toUInt32.toUInt16.toUInt32.toInt32)))) ∧ Fr n0 L ∧ h = h0
set_option maxRecDepth 65536 in
set_option maxHeartbeats 40000000 in
theorem rm_schar_1 (l : Launch) (Z : State) (a0 : Array Value) (hw : ∀ d ∈ tables_1, d.before a0 Z = true) (ws : List Jvm.Cond) (a : Addr) (b : Addr) (kb : ClassId) (bs : List Value) (j : Int32) (bv : Int32) (fz : Value) (cz : Int32) (h0 : Heap) (n0 : Nat) (Z0 : n0 ≤ h0.size) (O2 : Sta Z Z.heap "java/lang/String" "COMPACT_STRINGS" "Z" (.int cz)) (P5 : ¬ cz = (0 : Int32)) (OLD : Old Z n0 h0) (E : Exa Z h0 a "java/lang/String") (C : Fld Z h0 a "java/lang/String" "coder" "B" (.int (0 : Int32))) (VF : Fld Z h0 a "java/lang/String" "value" "[B" (.ref b)) (VB : Arv Z h0 b kb .byte (1 : Int32) bs (.int (0 : Int32))) (hj : ¬ j < 0 ∧ j < (1 : Int32)) (hv : bs.getD j.toNatClampNeg (.int (0 : Int32)) = .int bv) (rfz : Rf fz) (O4 : Sta Z Z.heap "jdk/internal/util/Preconditions" "SIOOBE_FORMATTER" "Ljava/util/function/BiFunction;" fz) :
    MetFree l (⟨"java/lang/String", "charAt", "(I)C"⟩ : MethodName) (head1 (Jvm.Cond.code (⟨"java/lang/String", "charAt", "(I)C"⟩ : MethodName) jdk_42_method_56_code 2 (some .char) :: ws) ({ frames := 3, cells := 0, slots := 0, locals := 40 } : Room)) (fun aa_ U => aa_ = #[(.ref a), (.int j)] ∧ Z.Warmed39 U.vm ∧ U.heap = h0) (fun _ _ _ _ _ => True) (fun _ U o_ U' => RetG U (Q_schar_1 Z a b kb bs j bv fz cz h0 n0) 0 0 U' o_) := by
  refine MetFree.of_bodySF (plainFor_of_name own_pn1) hisR ?_
  intro p e s m args below meth c_ s₁ Bd hml0 hP hK
  obtain ⟨rfl, hZ, hh⟩ := hP
  have hx := Bd.exec
  have hby := Bd.bytes
  have hml : c_.maxLocals = 2 := hml0
  have hown : s.vm.findClass "java/lang/String" = some m.cls := findClass_of_methodNamed Bd.named
  have hnm := (name_of_methodNamed Bd.named Bd.method).1
  have X0 : Stand p l e ({ frames := 3, cells := 0, slots := 0, locals := 40 } : Room) s m #[(.ref a), (.int j)] below meth c_ s₁ [] 0 0 := Stand.of_body Bd
  have e0 : s₁.heap = h0 := by rw [← hh, Bd.state]; rfl
  have N0 := Fr.nil n0
  have w3_ := hw _ (List.mem_of_getElem? (i := 3) rfl)
  have w20_ := hw _ (List.mem_of_getElem? (i := 20) rfl)
  have w56_ := hw _ (List.mem_of_getElem? (i := 56) rfl)
  have w57_ := hw _ (List.mem_of_getElem? (i := 57) rfl)
  have w58_ := hw _ (List.mem_of_getElem? (i := 58) rfl)
  have w59_ := hw _ (List.mem_of_getElem? (i := 59) rfl)
  have w60_ := hw _ (List.mem_of_getElem? (i := 60) rfl)
  have w61_ := hw _ (List.mem_of_getElem? (i := 61) rfl)
  have w62_ := hw _ (List.mem_of_getElem? (i := 62) rfl)
  have w63_ := hw _ (List.mem_of_getElem? (i := 63) rfl)
  have w64_ := hw _ (List.mem_of_getElem? (i := 64) rfl)
  show Go p e below (RetG s (Q_schar_1 Z a b kb bs j bv fz cz h0 n0) 0 0) (s₁.setTop (entryFrame m #[(.ref a), (.int j)] 2))
  rw [show entryFrame m #[(.ref a), (.int j)] 2 = mkF m 0 #[.val (.ref a), .val (.int j)] [] from by first | (simp [entryFrame, mkF, argsToLocals, Value.category]; done) | rfl]
  refine g_aloadN X0 hx hby d11_0 rfl rfl ?_
  refine g_virtual X0 hx hby hZ hown (rm_islat l Z a0 hw [] a cz h0 n0 Z0 O2 P5 OLD C) w56_ w57_ (notFace_of_selects (args := #[]) (mvT hZ w59_)) w59_ w58_ w3_ w60_ (by decide) e0 E (by rw [hml]; rfl) [] (lenOf own_pd17 rfl) rfl rfl (Nat.le_of_ble_eq_true rfl) (Nat.le_of_ble_eq_true rfl) (Nat.le_of_ble_eq_true rfl) (Nat.le_of_ble_eq_true rfl) d11_1 (fun v1 T1 L1 X1 hQ1 => ?_)
  obtain ⟨rfl, N1q, eh1⟩ := hQ1
  have N1 := Fr.app N0 N1q
  refine g_ifN X1 hx hby d11_4 (feq (by decide : ¬ ((1 : Int32) = (0 : Int32)))).1 ?_
  refine g_aloadN X1 hx hby d11_7 rfl rfl ?_
  refine g_getF X1 hx hby hZ hown (host := "") (Or.inl w20_) Via.refl eh1 VF d11_8 (fun T2 X2 e2 => ?_)
  refine g_iloadN X2 hx hby d11_11 rfl ?_
  refine g_static X2 hx hby hZ hown (rm_lchar_1 l Z a0 hw [] b kb bs j bv fz h0 n0 Z0 VB hj hv rfz O4 OLD) w61_ w62_ w63_ w64_ (by decide) e2 (by rw [hml]; rfl) [(.ref b), (.int j)] (lenOf own_pd10 rfl) rfl rfl (Nat.le_of_ble_eq_true rfl) (Nat.le_of_ble_eq_true rfl) (Nat.le_of_ble_eq_true rfl) (Nat.le_of_ble_eq_true rfl) d11_12 (fun v3 T3 L3 X3 hQ3 => ?_)
  obtain ⟨rfl, N3q, eh3⟩ := hQ3
  have N3 := Fr.app N1 N3q
  refine g_nret X3 hx hby (t := .char) (by simp) Bd.returns Bd.notSynchronized d11_15 eh3 (by decide) (by decide) ?_
  show (Q_schar_1 Z a b kb bs j bv fz cz h0 n0) (some (.int (nar .char (nar .char ((bv &&& (255 : Int32)).toUInt32.toUInt16.toUInt32.toInt32))))) _ _
  exact ⟨rfl, N3, rfl⟩

def Q_fv_1 (Z : State) (a : Addr) (b : Addr) (kb : ClassId) (c0 : Int32) (cz : Int32) (fz : Value) (h0 : Heap) (n0 : Nat) (v : Option Value) (h : Heap) (L : List Loc) : Prop := v = some (.int (own_fvs [c0])) ∧ Fr n0 L ∧ h = h0
set_option maxRecDepth 65536 in
set_option maxHeartbeats 40000000 in
theorem rm_fv_1 (l : Launch) (Z : State) (a0 : Array Value) (hw : ∀ d ∈ tables_1, d.before a0 Z = true) (ws : List Jvm.Cond) (a : Addr) (b : Addr) (kb : ClassId) (c0 : Int32) (cz : Int32) (fz : Value) (h0 : Heap) (n0 : Nat) (Z0 : n0 ≤ h0.size) (O2 : Sta Z Z.heap "java/lang/String" "COMPACT_STRINGS" "Z" (.int cz)) (P5 : ¬ cz = (0 : Int32)) (OLD : Old Z n0 h0) (E : Exa Z h0 a "java/lang/String") (C : Fld Z h0 a "java/lang/String" "coder" "B" (.int (0 : Int32))) (VF : Fld Z h0 a "java/lang/String" "value" "[B" (.ref b)) (VB : Arv Z h0 b kb .byte (1 : Int32) [(.int (nar .byte (c0.toInt8.toInt32)))] (.int (0 : Int32))) (rfz : Rf fz) (O4 : Sta Z Z.heap "jdk/internal/util/Preconditions" "SIOOBE_FORMATTER" "Ljava/util/function/BiFunction;" fz) (hr0 : 0 ≤ c0.toInt ∧ c0.toInt < 65536) (hl0 : ¬ (255 : Int32) < c0) :
    MetFree l (⟨"com/example/usher/usher/gateway/http/Http1Input", "isFieldValue", "(Ljava/lang/String;)Z"⟩ : MethodName) (head1 (Jvm.Cond.code (⟨"com/example/usher/usher/gateway/http/Http1Input", "isFieldValue", "(Ljava/lang/String;)Z"⟩ : MethodName) prog_2_method_17_code 3 (some .boolean) :: ws) ({ frames := 4, cells := 0, slots := 0, locals := 53 } : Room)) (fun aa_ U => aa_ = #[(.ref a)] ∧ Z.Warmed39 U.vm ∧ U.heap = h0) (fun _ _ _ _ _ => True) (fun _ U o_ U' => RetG U (Q_fv_1 Z a b kb c0 cz fz h0 n0) 0 0 U' o_) := by
  refine MetFree.of_bodySF (plainFor_of_name own_pn2) hisR ?_
  intro p e s m args below meth c_ s₁ Bd hml0 hP hK
  obtain ⟨rfl, hZ, hh⟩ := hP
  have hx := Bd.exec
  have hby := Bd.bytes
  have hml : c_.maxLocals = 3 := hml0
  have hown : s.vm.findClass "com/example/usher/usher/gateway/http/Http1Input" = some m.cls := findClass_of_methodNamed Bd.named
  have hnm := (name_of_methodNamed Bd.named Bd.method).1
  have X0 : Stand p l e ({ frames := 4, cells := 0, slots := 0, locals := 53 } : Room) s m #[(.ref a)] below meth c_ s₁ [] 0 0 := Stand.of_body Bd
  have e0 : s₁.heap = h0 := by rw [← hh, Bd.state]; rfl
  have N0 := Fr.nil n0
  have w3_ := hw _ (List.mem_of_getElem? (i := 3) rfl)
  have w26_ := hw _ (List.mem_of_getElem? (i := 26) rfl)
  have w27_ := hw _ (List.mem_of_getElem? (i := 27) rfl)
  have w28_ := hw _ (List.mem_of_getElem? (i := 28) rfl)
  have w29_ := hw _ (List.mem_of_getElem? (i := 29) rfl)
  have w30_ := hw _ (List.mem_of_getElem? (i := 30) rfl)
  have w51_ := hw _ (List.mem_of_getElem? (i := 51) rfl)
  have w52_ := hw _ (List.mem_of_getElem? (i := 52) rfl)
  have w53_ := hw _ (List.mem_of_getElem? (i := 53) rfl)
  have w54_ := hw _ (List.mem_of_getElem? (i := 54) rfl)
  have w55_ := hw _ (List.mem_of_getElem? (i := 55) rfl)
  show Go p e below (RetG s (Q_fv_1 Z a b kb c0 cz fz h0 n0) 0 0) (s₁.setTop (entryFrame m #[(.ref a)] 3))
  rw [show entryFrame m #[(.ref a)] 3 = mkF m 0 #[.val (.ref a), .unset, .unset] [] from by first | (simp [entryFrame, mkF, argsToLocals, Value.category]; done) | rfl]
  refine g_iconst X0 hx hby (0 : Int32) d4_0 rfl ?_
  refine g_istoreN X0 hx hby d4_1 (l' := #[.val (.ref a), .val (.int (0 : Int32)), .unset]) rfl ?_
  refine g_iloadN X0 hx hby d4_2 rfl ?_
  refine g_aloadN X0 hx hby d4_3 rfl rfl ?_
  refine g_virtual X0 hx hby hZ hown (rm_slen_1 l Z a0 hw [] a b kb [(.int (nar .byte (c0.toInt8.toInt32)))] cz h0 n0 Z0 O2 P5 OLD E C VF VB) w26_ w27_ (notFace_of_selects (args := #[]) (mvT hZ w29_)) w29_ w28_ w3_ w30_ (by decide) e0 E (by rw [hml]; rfl) [] (lenOf own_pd3 rfl) rfl rfl (Nat.le_of_ble_eq_true rfl) (Nat.le_of_ble_eq_true rfl) (Nat.le_of_ble_eq_true rfl) (Nat.le_of_ble_eq_true rfl) d4_4 (fun v1 T1 L1 X1 hQ1 => ?_)
  obtain ⟨rfl, N1q, eh1⟩ := hQ1
  have N1 := Fr.app N0 N1q
  refine g_icN X1 hx hby d4_7 (tlt (by decide : (0 : Int32) < (1 : Int32))).2.1 ?_
  refine g_aloadN X1 hx hby d4_10 rfl rfl ?_
  refine g_iloadN X1 hx hby d4_11 rfl ?_
  refine g_virtual X1 hx hby hZ hown (rm_schar_1 l Z a0 hw [] a b kb [(.int (nar .byte (c0.toInt8.toInt32)))] (0 : Int32) (nar .byte (c0.toInt8.toInt32)) fz cz h0 n0 Z0 O2 P5 OLD E C VF VB ⟨by decide, by decide⟩ rfl rfz O4) w51_ w52_ (notFace_of_selects (args := #[]) (mvT hZ w54_)) w54_ w53_ w3_ w55_ (by decide) eh1 E (by rw [hml]; rfl) [(.int (0 : Int32))] (lenOf own_pd18 rfl) rfl rfl (Nat.le_of_ble_eq_true rfl) (Nat.le_of_ble_eq_true rfl) (Nat.le_of_ble_eq_true rfl) (Nat.le_of_ble_eq_true rfl) d4_12 (fun v2 T2 L2 X2 hQ2 => ?_)
  obtain ⟨rfl, N2q, eh2⟩ := hQ2
  have N2 := Fr.app N1 N2q
  refine g_topI (T := T2) c0 (own_byte hr0 hl0) ?_
  refine g_istoreN X2 hx hby d4_15 (l' := #[.val (.ref a), .val (.int (0 : Int32)), .val (.int c0)]) rfl ?_
  have J3 : ∀ (T3 : State) (L3 : List Loc), Stand p l e ({ frames := 4, cells := 0, slots := 0, locals := 53 } : Room) s m #[(.ref a)] below meth c_ T3 L3 0 0 → T3.heap = h0 → Fr n0 L3 → (own_fv c0 = (1 : Int32)) → Go p e below (RetG s (Q_fv_1 Z a b kb c0 cz fz h0 n0) 0 0) (T3.setTop (mkF m 43 #[.val (.ref a), .val (.int (0 : Int32)), .val (.int c0)] [])) := by
    intro T3 L3 X3 e3 N3 hp_c0
    refine g_iinc X3 hx hby (1 : Int32) d4_43 rfl (by decide) (l' := #[.val (.ref a), .val (.int (1 : Int32)), .val (.int c0)]) rfl ?_
    refine g_goto X3 hx hby 2 d4_46 (by decide) (by decide) ?_
    refine g_iloadN X3 hx hby d4_2 rfl ?_
    refine g_aloadN X3 hx hby d4_3 rfl rfl ?_
    refine g_virtual X3 hx hby hZ hown (rm_slen_1 l Z a0 hw [] a b kb [(.int (nar .byte (c0.toInt8.toInt32)))] cz h0 n0 Z0 O2 P5 OLD E C VF VB) w26_ w27_ (notFace_of_selects (args := #[]) (mvT hZ w29_)) w29_ w28_ w3_ w30_ (by decide) e3 E (by rw [hml]; rfl) [] (lenOf own_pd3 rfl) rfl rfl (Nat.le_of_ble_eq_true rfl) (Nat.le_of_ble_eq_true rfl) (Nat.le_of_ble_eq_true rfl) (Nat.le_of_ble_eq_true rfl) d4_4 (fun v4 T4 L4 X4 hQ4 => ?_)
    obtain ⟨rfl, N4q, eh4⟩ := hQ4
    have N4 := Fr.app N3 N4q
    refine g_icY X4 hx hby 49 d4_7 (flt (by decide : ¬ ((1 : Int32) < (1 : Int32)))).2.1 (by decide) (by decide) ?_
    refine g_iconst X4 hx hby (1 : Int32) d4_49 rfl ?_
    refine g_nret X4 hx hby (t := .boolean) (by simp) Bd.returns Bd.notSynchronized d4_50 eh4 (by decide) (by decide) ?_
    show (Q_fv_1 Z a b kb c0 cz fz h0 n0) (some (.int (1 : Int32))) _ _
    exact ⟨by simp [own_fvs, hp_c0], N4, rfl⟩
  refine g_iloadN X2 hx hby d4_16 rfl ?_
  refine g_bipush X2 hx hby (32 : Int32) d4_17 rfl ?_
  by_cases hc19_5 : c0 < (32 : Int32)
  · skip
    refine g_icN X2 hx hby d4_19 (tlt hc19_5).2.1 ?_
    refine g_iloadN X2 hx hby d4_22 rfl ?_
    refine g_bipush X2 hx hby (9 : Int32) d4_23 rfl ?_
    refine g_at 25 rfl rfl rfl ?_
    by_cases hc25_6 : c0 = (9 : Int32)
    · skip
      refine g_icN X2 hx hby d4_25 (teq hc25_6).2 ?_
      refine g_iloadN X2 hx hby d4_28 rfl ?_
      refine g_bipush X2 hx hby (127 : Int32) d4_29 rfl ?_
      by_cases hc31_7 : c0 = (127 : Int32)
      · skip
        refine g_icY X2 hx hby 41 d4_31 (teq hc31_7).1 (by decide) (by decide) ?_
        refine g_iconst X2 hx hby (0 : Int32) d4_41 rfl ?_
        refine g_nret X2 hx hby (t := .boolean) (by simp) Bd.returns Bd.notSynchronized d4_42 eh2 (by decide) (by decide) ?_
        show (Q_fv_1 Z a b kb c0 cz fz h0 n0) (some (.int (0 : Int32))) _ _
        have hz : own_fv c0 = (0 : Int32) := by first | (simp [own_fv, hc19_5, hc25_6, hc31_7]; done) | (exact absurd hc19_5 (by rw [hc25_6]; decide)) | (exact absurd hc31_7 (by rw [hc25_6]; decide))
        exact ⟨by simp [own_fvs, hz], N2, rfl⟩
      · skip
        refine g_icN X2 hx hby d4_31 (feq hc31_7).1 ?_
        refine g_iloadN X2 hx hby d4_34 rfl ?_
        refine g_sipush X2 hx hby (255 : Int32) d4_35 rfl ?_
        by_cases hc38_8 : (255 : Int32) < c0
        · skip
          refine g_icN X2 hx hby d4_38 (tlt hc38_8).2.2.2 ?_
          refine g_iconst X2 hx hby (0 : Int32) d4_41 rfl ?_
          refine g_nret X2 hx hby (t := .boolean) (by simp) Bd.returns Bd.notSynchronized d4_42 eh2 (by decide) (by decide) ?_
          show (Q_fv_1 Z a b kb c0 cz fz h0 n0) (some (.int (0 : Int32))) _ _
          have hz : own_fv c0 = (0 : Int32) := by first | (simp [own_fv, hc19_5, hc25_6, hc31_7, hc38_8]; done) | (exact absurd hc19_5 (by rw [hc25_6]; decide)) | (exact absurd hc38_8 (by rw [hc25_6]; decide))
          exact ⟨by simp [own_fvs, hz], N2, rfl⟩
        · skip
          refine g_icY X2 hx hby 43 d4_38 (flt hc38_8).2.2.2 (by decide) (by decide) ?_
          exact J3 _ _ X2 eh2 N2 (by simp [own_fv, hc19_5, hc25_6, hc31_7, hc38_8])
    · skip
      refine g_icY X2 hx hby 41 d4_25 (feq hc25_6).2 (by decide) (by decide) ?_
      refine g_iconst X2 hx hby (0 : Int32) d4_41 rfl ?_
      refine g_nret X2 hx hby (t := .boolean) (by simp) Bd.returns Bd.notSynchronized d4_42 eh2 (by decide) (by decide) ?_
      show (Q_fv_1 Z a b kb c0 cz fz h0 n0) (some (.int (0 : Int32))) _ _
      have hz : own_fv c0 = (0 : Int32) := by first | (simp [own_fv, hc19_5, hc25_6]; done)
      exact ⟨by simp [own_fvs, hz], N2, rfl⟩
  · skip
    refine g_icY X2 hx hby 28 d4_19 (flt hc19_5).2.1 (by decide) (by decide) ?_
    refine g_iloadN X2 hx hby d4_28 rfl ?_
    refine g_bipush X2 hx hby (127 : Int32) d4_29 rfl ?_
    by_cases hc31_9 : c0 = (127 : Int32)
    · skip
      refine g_icY X2 hx hby 41 d4_31 (teq hc31_9).1 (by decide) (by decide) ?_
      refine g_iconst X2 hx hby (0 : Int32) d4_41 rfl ?_
      refine g_nret X2 hx hby (t := .boolean) (by simp) Bd.returns Bd.notSynchronized d4_42 eh2 (by decide) (by decide) ?_
      show (Q_fv_1 Z a b kb c0 cz fz h0 n0) (some (.int (0 : Int32))) _ _
      have hz : own_fv c0 = (0 : Int32) := by first | (simp [own_fv, hc19_5, hc31_9]; done)
      exact ⟨by simp [own_fvs, hz], N2, rfl⟩
    · skip
      refine g_icN X2 hx hby d4_31 (feq hc31_9).1 ?_
      refine g_iloadN X2 hx hby d4_34 rfl ?_
      refine g_sipush X2 hx hby (255 : Int32) d4_35 rfl ?_
      by_cases hc38_10 : (255 : Int32) < c0
      · skip
        refine g_icN X2 hx hby d4_38 (tlt hc38_10).2.2.2 ?_
        refine g_iconst X2 hx hby (0 : Int32) d4_41 rfl ?_
        refine g_nret X2 hx hby (t := .boolean) (by simp) Bd.returns Bd.notSynchronized d4_42 eh2 (by decide) (by decide) ?_
        show (Q_fv_1 Z a b kb c0 cz fz h0 n0) (some (.int (0 : Int32))) _ _
        have hz : own_fv c0 = (0 : Int32) := by first | (simp [own_fv, hc19_5, hc31_9, hc38_10]; done)
        exact ⟨by simp [own_fvs, hz], N2, rfl⟩
      · skip
        refine g_icY X2 hx hby 43 d4_38 (flt hc38_10).2.2.2 (by decide) (by decide) ?_
        exact J3 _ _ X2 eh2 N2 (by simp [own_fv, hc19_5, hc31_9, hc38_10])

def Q_cmp5f_2_0 (Z : State) (ca : Addr) (ba : Addr) (kc : ClassId) (kb : ClassId) (c0 : Int32) (c1 : Int32) (h0 : Heap) (n0 : Nat) (v : Option Value) (h : Heap) (L : List Loc) : Prop := v = some (.int (0 : Int32)) ∧ Fr n0 L ∧ Keep h0 h [ba]
set_option maxRecDepth 65536 in
set_option maxHeartbeats 40000000 in
theorem rm_cmp5f_2_0 (l : Launch) (Z : State) (a0 : Array Value) (hw : ∀ d ∈ tables_1, d.before a0 Z = true) (ws : List Jvm.Cond) (ca : Addr) (ba : Addr) (kc : ClassId) (kb : ClassId) (c0 : Int32) (c1 : Int32) (h0 : Heap) (n0 : Nat) (Z0 : n0 ≤ h0.size) (VC : Arv Z h0 ca kc .char (2 : Int32) [(.int c0), (.int c1)] (.int (0 : Int32))) (VB : Arv Z h0 ba kb .byte (2 : Int32) [(.int (0 : Int32)), (.int (0 : Int32))] (.int (0 : Int32))) (nab : ca ≠ ba) (gb : n0 ≤ ba) (hf : (255 : Int32) < c0) :
    MetFree l (⟨"java/lang/StringUTF16", "compress", "([CI[BII)I"⟩ : MethodName) (head1 (Jvm.Cond.code (⟨"java/lang/StringUTF16", "compress", "([CI[BII)I"⟩ : MethodName) jdk_52_method_21_code 7 (some .int) :: ws) ({ frames := 0, cells := 0, slots := 0, locals := 0 } : Room)) (fun aa_ U => aa_ = #[(.ref ca), (.int (0 : Int32)), (.ref ba), (.int (0 : Int32)), (.int (2 : Int32))] ∧ Z.Warmed39 U.vm ∧ U.heap = h0) (fun _ _ _ _ _ => True) (fun _ U o_ U' => RetG U (Q_cmp5f_2_0 Z ca ba kc kb c0 c1 h0 n0) 0 0 U' o_) := by
  refine MetFree.of_bodySF (plainFor_of_name own_pn3) hisR ?_
  intro p e s m args below meth c_ s₁ Bd hml0 hP hK
  obtain ⟨rfl, hZ, hh⟩ := hP
  have hx := Bd.exec
  have hby := Bd.bytes
  have hml : c_.maxLocals = 7 := hml0
  have hown : s.vm.findClass "java/lang/StringUTF16" = some m.cls := findClass_of_methodNamed Bd.named
  have hnm := (name_of_methodNamed Bd.named Bd.method).1
  have X0 : Stand p l e ({ frames := 0, cells := 0, slots := 0, locals := 0 } : Room) s m #[(.ref ca), (.int (0 : Int32)), (.ref ba), (.int (0 : Int32)), (.int (2 : Int32))] below meth c_ s₁ [] 0 0 := Stand.of_body Bd
  have e0 : s₁.heap = h0 := by rw [← hh, Bd.state]; rfl
  have N0 := Fr.nil n0
  show Go p e below (RetG s (Q_cmp5f_2_0 Z ca ba kc kb c0 c1 h0 n0) 0 0) (s₁.setTop (entryFrame m #[(.ref ca), (.int (0 : Int32)), (.ref ba), (.int (0 : Int32)), (.int (2 : Int32))] 7))
  rw [show entryFrame m #[(.ref ca), (.int (0 : Int32)), (.ref ba), (.int (0 : Int32)), (.int (2 : Int32))] 7 = mkF m 0 #[.val (.ref ca), .val (.int (0 : Int32)), .val (.ref ba), .val (.int (0 : Int32)), .val (.int (2 : Int32)), .unset, .unset] [] from by first | (simp [entryFrame, mkF, argsToLocals, Value.category]; done) | rfl]
  refine g_iconst X0 hx hby (0 : Int32) d8_0 rfl ?_
  refine g_istore X0 hx hby d8_1 (l' := #[.val (.ref ca), .val (.int (0 : Int32)), .val (.ref ba), .val (.int (0 : Int32)), .val (.int (2 : Int32)), .val (.int (0 : Int32)), .unset]) rfl ?_
  refine g_iload X0 hx hby d8_3 rfl ?_
  refine g_iload X0 hx hby d8_5 rfl ?_
  refine g_icN X0 hx hby d8_7 (tlt (by decide : (0 : Int32) < (2 : Int32))).2.1 ?_
  refine g_aloadN X0 hx hby d8_10 rfl rfl ?_
  refine g_iloadN X0 hx hby d8_11 rfl ?_
  refine g_caload X0 hx hby hZ e0 VC (.int c0) ⟨by decide, by decide⟩ rfl d8_12 ?_
  refine g_istore X0 hx hby d8_13 (l' := #[.val (.ref ca), .val (.int (0 : Int32)), .val (.ref ba), .val (.int (0 : Int32)), .val (.int (2 : Int32)), .val (.int (0 : Int32)), .val (.int c0)]) rfl ?_
  refine g_iload X0 hx hby d8_15 rfl ?_
  refine g_sipush X0 hx hby (255 : Int32) d8_17 rfl ?_
  refine g_icN X0 hx hby d8_20 (tlt (hf : (255 : Int32) < c0)).2.2.2 ?_
  refine g_iload X0 hx hby d8_23 rfl ?_
  refine g_iret X0 hx hby Bd.returns Bd.notSynchronized d8_25 e0 (by decide) (by decide) ?_
  show (Q_cmp5f_2_0 Z ca ba kc kb c0 c1 h0 n0) (some (.int (0 : Int32))) _ _
  exact ⟨rfl, N0, (Keep.refl h0 [ba])⟩

def Q_nbl_2 (Z : State)  (h0 : Heap) (n0 : Nat) (v : Option Value) (h : Heap) (L : List Loc) : Prop := v = some (.int (4 : Int32)) ∧ Fr n0 L ∧ h = h0
set_option maxRecDepth 65536 in
set_option maxHeartbeats 40000000 in
theorem rm_nbl_2 (l : Launch) (Z : State) (a0 : Array Value) (hw : ∀ d ∈ tables_1, d.before a0 Z = true) (ws : List Jvm.Cond)  (h0 : Heap) (n0 : Nat) (Z0 : n0 ≤ h0.size) :
    MetFree l (⟨"java/lang/StringUTF16", "newBytesLength", "(I)I"⟩ : MethodName) (head1 (Jvm.Cond.code (⟨"java/lang/StringUTF16", "newBytesLength", "(I)I"⟩ : MethodName) jdk_52_method_3_code 1 (some .int) :: ws) ({ frames := 0, cells := 0, slots := 0, locals := 0 } : Room)) (fun aa_ U => aa_ = #[(.int (2 : Int32))] ∧ Z.Warmed39 U.vm ∧ U.heap = h0) (fun _ _ _ _ _ => True) (fun _ U o_ U' => RetG U (Q_nbl_2 Z h0 n0) 0 0 U' o_) := by
  refine MetFree.of_bodySF (plainFor_of_name own_pn3) hisR ?_
  intro p e s m args below meth c_ s₁ Bd hml0 hP hK
  obtain ⟨rfl, hZ, hh⟩ := hP
  have hx := Bd.exec
  have hby := Bd.bytes
  have hml : c_.maxLocals = 1 := hml0
  have hown : s.vm.findClass "java/lang/StringUTF16" = some m.cls := findClass_of_methodNamed Bd.named
  have hnm := (name_of_methodNamed Bd.named Bd.method).1
  have X0 : Stand p l e ({ frames := 0, cells := 0, slots := 0, locals := 0 } : Room) s m #[(.int (2 : Int32))] below meth c_ s₁ [] 0 0 := Stand.of_body Bd
  have e0 : s₁.heap = h0 := by rw [← hh, Bd.state]; rfl
  have N0 := Fr.nil n0
  have w82_ := hw _ (List.mem_of_getElem? (i := 82) rfl)
  show Go p e below (RetG s (Q_nbl_2 Z h0 n0) 0 0) (s₁.setTop (entryFrame m #[(.int (2 : Int32))] 1))
  rw [show entryFrame m #[(.int (2 : Int32))] 1 = mkF m 0 #[.val (.int (2 : Int32))] [] from by first | (simp [entryFrame, mkF, argsToLocals, Value.category]; done) | rfl]
  refine g_iloadN X0 hx hby d18_0 rfl ?_
  refine g_ifY X0 hx hby 12 d18_1 (flt (by decide : ¬ ((2 : Int32) < (0 : Int32)))).2.1 (by decide) (by decide) ?_
  refine g_iloadN X0 hx hby d18_12 rfl ?_
  refine g_ldcI X0 hx hby hZ hown w82_ d18_13 ?_
  refine g_icY X0 hx hby 55 d18_15 (tlt (by decide : (2 : Int32) < (1073741823 : Int32))).1 (by decide) (by decide) ?_
  refine g_iloadN X0 hx hby d18_55 rfl ?_
  refine g_iconst X0 hx hby (1 : Int32) d18_56 rfl ?_
  refine g_ishl X0 hx hby d18_57 ?_
  refine g_topI (4 : Int32) (by decide) ?_
  refine g_iret X0 hx hby Bd.returns Bd.notSynchronized d18_58 e0 (by decide) (by decide) ?_
  show (Q_nbl_2 Z h0 n0) (some (.int (4 : Int32))) _ _
  exact ⟨rfl, N0, rfl⟩

def Q_nbf_2 (Z : State)  (h0 : Heap) (n0 : Nat) (v : Option Value) (h : Heap) (L : List Loc) : Prop := Fr n0 L ∧ Keep h0 h [] ∧ ∃ (b : Addr) (kb : ClassId), v = some (.ref b) ∧ h0.size ≤ b ∧ Arv Z h b kb .byte (4 : Int32) [(.int (0 : Int32)), (.int (0 : Int32)), (.int (0 : Int32)), (.int (0 : Int32))] (.int (0 : Int32))
set_option maxRecDepth 65536 in
set_option maxHeartbeats 40000000 in
theorem rm_nbf_2 (l : Launch) (Z : State) (a0 : Array Value) (hw : ∀ d ∈ tables_1, d.before a0 Z = true) (ws : List Jvm.Cond)  (h0 : Heap) (n0 : Nat) (Z0 : n0 ≤ h0.size) :
    MetFree l (⟨"java/lang/StringUTF16", "newBytesFor", "(I)[B"⟩ : MethodName) (head1 (Jvm.Cond.code (⟨"java/lang/StringUTF16", "newBytesFor", "(I)[B"⟩ : MethodName) jdk_52_method_2_code 1 (some (.array .byte)) :: ws) ({ frames := 1, cells := 1, slots := 4, locals := 12 } : Room)) (fun aa_ U => aa_ = #[(.int (2 : Int32))] ∧ Z.Warmed39 U.vm ∧ U.heap = h0) (fun _ _ _ _ _ => True) (fun _ U o_ U' => RetG U (Q_nbf_2 Z h0 n0) 1 4 U' o_) := by
  refine MetFree.of_bodySF (plainFor_of_name own_pn3) hisR ?_
  intro p e s m args below meth c_ s₁ Bd hml0 hP hK
  obtain ⟨rfl, hZ, hh⟩ := hP
  have hx := Bd.exec
  have hby := Bd.bytes
  have hml : c_.maxLocals = 1 := hml0
  have hown : s.vm.findClass "java/lang/StringUTF16" = some m.cls := findClass_of_methodNamed Bd.named
  have hnm := (name_of_methodNamed Bd.named Bd.method).1
  have X0 : Stand p l e ({ frames := 1, cells := 1, slots := 4, locals := 12 } : Room) s m #[(.int (2 : Int32))] below meth c_ s₁ [] 0 0 := Stand.of_body Bd
  have e0 : s₁.heap = h0 := by rw [← hh, Bd.state]; rfl
  have N0 := Fr.nil n0
  have w15_ := hw _ (List.mem_of_getElem? (i := 15) rfl)
  have w39_ := hw _ (List.mem_of_getElem? (i := 39) rfl)
  have w79_ := hw _ (List.mem_of_getElem? (i := 79) rfl)
  have w80_ := hw _ (List.mem_of_getElem? (i := 80) rfl)
  have w81_ := hw _ (List.mem_of_getElem? (i := 81) rfl)
  show Go p e below (RetG s (Q_nbf_2 Z h0 n0) 1 4) (s₁.setTop (entryFrame m #[(.int (2 : Int32))] 1))
  rw [show entryFrame m #[(.int (2 : Int32))] 1 = mkF m 0 #[.val (.int (2 : Int32))] [] from by first | (simp [entryFrame, mkF, argsToLocals, Value.category]; done) | rfl]
  refine g_iloadN X0 hx hby d17_0 rfl ?_
  refine g_static X0 hx hby hZ hown (rm_nbl_2 l Z a0 hw []  h0 n0 Z0 ) w79_ w80_ w39_ w81_ (by decide) e0 (by rw [hml]; rfl) [(.int (2 : Int32))] (lenOf own_pd5 rfl) rfl rfl (Nat.le_of_ble_eq_true rfl) (Nat.le_of_ble_eq_true rfl) (Nat.le_of_ble_eq_true rfl) (Nat.le_of_ble_eq_true rfl) d17_1 (fun v1 T1 L1 X1 hQ1 => ?_)
  obtain ⟨rfl, N1q, eh1⟩ := hQ1
  have N1 := Fr.app N0 N1q
  refine g_newarray X1 hx hby hZ .byte .byte (.int (0 : Int32)) [(.int (0 : Int32)), (.int (0 : Int32)), (.int (0 : Int32)), (.int (0 : Int32))] rfl rfl w15_ eh1 (by decide) 4 rfl (by decide) (by decide) (by decide) (by decide) d17_4 (fun T2 h2 k2 b2 g2 X2 e2 E2 V2 => ?_)
  refine g_aret X2 hx hby (t := (.array .byte)) rfl rfl rfl Bd.returns Bd.notSynchronized d17_6 e2 (by decide) (by decide) ?_
  show (Q_nbf_2 Z h0 n0) (some (.ref b2)) _ _
  exact ⟨N1, ((Keep.refl h0 []).ext E2), b2, k2, rfl, (Nat.le_trans (Nat.le_refl _) (Nat.le_of_eq g2)), V2⟩

def Q_putc_2_0 (Z : State) (b : Addr) (kb : ClassId) (c : Int32) (v0 : Int32) (v1 : Int32) (v2 : Int32) (v3 : Int32) (h0 : Heap) (n0 : Nat) (v : Option Value) (h : Heap) (L : List Loc) : Prop := v = none ∧ Fr n0 L ∧ Keep h0 h [b] ∧ Arv Z h b kb .byte (4 : Int32) [(.int (own_lob c)), (.int (own_hib c)), (.int v2), (.int v3)] (.int (0 : Int32))
set_option maxRecDepth 65536 in
set_option maxHeartbeats 40000000 in
theorem rm_putc_2_0 (l : Launch) (Z : State) (a0 : Array Value) (hw : ∀ d ∈ tables_1, d.before a0 Z = true) (ws : List Jvm.Cond) (b : Addr) (kb : ClassId) (c : Int32) (v0 : Int32) (v1 : Int32) (v2 : Int32) (v3 : Int32) (h0 : Heap) (n0 : Nat) (Z0 : n0 ≤ h0.size) (Uad : Sta Z Z.heap "java/lang/StringUTF16" "$assertionsDisabled" "Z" (.int (1 : Int32))) (Uhi : Sta Z Z.heap "java/lang/StringUTF16" "HI_BYTE_SHIFT" "I" (.int (0 : Int32))) (Ulo : Sta Z Z.heap "java/lang/StringUTF16" "LO_BYTE_SHIFT" "I" (.int (8 : Int32))) (OLD : Old Z n0 h0) (VB : Arv Z h0 b kb .byte (4 : Int32) [(.int v0), (.int v1), (.int v2), (.int v3)] (.int (0 : Int32))) (gb : n0 ≤ b) :
    MetFree l (⟨"java/lang/StringUTF16", "putChar", "([BII)V"⟩ : MethodName) (head1 (Jvm.Cond.code (⟨"java/lang/StringUTF16", "putChar", "([BII)V"⟩ : MethodName) jdk_52_method_4_code 3 none :: ws) ({ frames := 0, cells := 0, slots := 0, locals := 0 } : Room)) (fun aa_ U => aa_ = #[(.ref b), (.int (0 : Int32)), (.int c)] ∧ Z.Warmed39 U.vm ∧ U.heap = h0) (fun _ _ _ _ _ => True) (fun _ U o_ U' => RetG U (Q_putc_2_0 Z b kb c v0 v1 v2 v3 h0 n0) 0 0 U' o_) := by
  refine MetFree.of_bodySF (plainFor_of_name own_pn3) hisR ?_
  intro p e s m args below meth c_ s₁ Bd hml0 hP hK
  obtain ⟨rfl, hZ, hh⟩ := hP
  have hx := Bd.exec
  have hby := Bd.bytes
  have hml : c_.maxLocals = 3 := hml0
  have hown : s.vm.findClass "java/lang/StringUTF16" = some m.cls := findClass_of_methodNamed Bd.named
  have hnm := (name_of_methodNamed Bd.named Bd.method).1
  have X0 : Stand p l e ({ frames := 0, cells := 0, slots := 0, locals := 0 } : Room) s m #[(.ref b), (.int (0 : Int32)), (.int c)] below meth c_ s₁ [] 0 0 := Stand.of_body Bd
  have e0 : s₁.heap = h0 := by rw [← hh, Bd.state]; rfl
  have N0 := Fr.nil n0
  have w86_ := hw _ (List.mem_of_getElem? (i := 86) rfl)
  have w87_ := hw _ (List.mem_of_getElem? (i := 87) rfl)
  have w88_ := hw _ (List.mem_of_getElem? (i := 88) rfl)
  show Go p e below (RetG s (Q_putc_2_0 Z b kb c v0 v1 v2 v3 h0 n0) 0 0) (s₁.setTop (entryFrame m #[(.ref b), (.int (0 : Int32)), (.int c)] 3))
  rw [show entryFrame m #[(.ref b), (.int (0 : Int32)), (.int c)] 3 = mkF m 0 #[.val (.ref b), .val (.int (0 : Int32)), .val (.int c)] [] from by first | (simp [entryFrame, mkF, argsToLocals, Value.category]; done) | rfl]
  refine g_getS X0 hx hby hZ hown (host := "") (Or.inl w86_) Via.refl e0 (Uad.ext OLD.2) d19_0 (fun T1 X1 e1 => ?_)
  refine g_ifY X1 hx hby 28 d19_3 (feq (by decide : ¬ ((1 : Int32) = (0 : Int32)))).2 (by decide) (by decide) ?_
  refine g_iloadN X1 hx hby d19_28 rfl ?_
  refine g_iconst X1 hx hby (1 : Int32) d19_29 rfl ?_
  refine g_ishl X1 hx hby d19_30 ?_
  refine g_topI (0 : Int32) (by decide) ?_
  refine g_istoreN X1 hx hby d19_31 (l' := #[.val (.ref b), .val (.int (0 : Int32)), .val (.int c)]) rfl ?_
  refine g_aloadN X1 hx hby d19_32 rfl rfl ?_
  refine g_iloadN X1 hx hby d19_33 rfl ?_
  refine g_iinc X1 hx hby (1 : Int32) d19_34 rfl (by decide) (l' := #[.val (.ref b), .val (.int (1 : Int32)), .val (.int c)]) rfl ?_
  refine g_iloadN X1 hx hby d19_37 rfl ?_
  refine g_getS X1 hx hby hZ hown (host := "") (Or.inl w87_) Via.refl e1 (Uhi.ext OLD.2) d19_38 (fun T2 X2 e2 => ?_)
  refine g_ishr X2 hx hby d19_41 ?_
  refine g_i2b X2 hx hby d19_42 ?_
  refine g_bastore X2 hx hby hZ e2 VB 0 [(.int (nar .byte ((c >>> ((0 : Int32) &&& 31)).toInt8.toInt32))), (.int v1), (.int v2), (.int v3)] rfl ⟨by decide, by decide⟩ rfl (Nat.le_of_ble_eq_true rfl) N0 gb d19_43 (fun T3 h3 X3 e3 W3 V3 N3 => ?_)
  refine g_aloadN X3 hx hby d19_44 rfl rfl ?_
  refine g_iloadN X3 hx hby d19_45 rfl ?_
  refine g_iloadN X3 hx hby d19_46 rfl ?_
  have f4 := (OLD.wr W3 gb)
  refine g_getS X3 hx hby hZ hown (host := "") (Or.inl w88_) Via.refl e3 (Ulo.ext f4.2) d19_47 (fun T5 X5 e5 => ?_)
  refine g_ishr X5 hx hby d19_50 ?_
  refine g_i2b X5 hx hby d19_51 ?_
  refine g_bastore X5 hx hby hZ e5 V3 1 [(.int (nar .byte ((c >>> ((0 : Int32) &&& 31)).toInt8.toInt32))), (.int (nar .byte ((c >>> ((8 : Int32) &&& 31)).toInt8.toInt32))), (.int v2), (.int v3)] rfl ⟨by decide, by decide⟩ rfl (Nat.le_of_ble_eq_true rfl) N3 gb d19_52 (fun T6 h6 X6 e6 W6 V6 N6 => ?_)
  refine g_ret X6 hx hby Bd.returns Bd.notSynchronized d19_53 e6 (by decide) (by decide) ?_
  show (Q_putc_2_0 Z b kb c v0 v1 v2 v3 h0 n0) none _ _
  exact ⟨rfl, N6, (((Keep.refl h0 [b]).wr W3 (Or.inl (List.mem_of_getElem? (i := 0) rfl))).wr W6 (Or.inl (List.mem_of_getElem? (i := 0) rfl))), V6⟩

def Q_putc_2_1 (Z : State) (b : Addr) (kb : ClassId) (c : Int32) (v0 : Int32) (v1 : Int32) (v2 : Int32) (v3 : Int32) (h0 : Heap) (n0 : Nat) (v : Option Value) (h : Heap) (L : List Loc) : Prop := v = none ∧ Fr n0 L ∧ Keep h0 h [b] ∧ Arv Z h b kb .byte (4 : Int32) [(.int v0), (.int v1), (.int (own_lob c)), (.int (own_hib c))] (.int (0 : Int32))
set_option maxRecDepth 65536 in
set_option maxHeartbeats 40000000 in
theorem rm_putc_2_1 (l : Launch) (Z : State) (a0 : Array Value) (hw : ∀ d ∈ tables_1, d.before a0 Z = true) (ws : List Jvm.Cond) (b : Addr) (kb : ClassId) (c : Int32) (v0 : Int32) (v1 : Int32) (v2 : Int32) (v3 : Int32) (h0 : Heap) (n0 : Nat) (Z0 : n0 ≤ h0.size) (Uad : Sta Z Z.heap "java/lang/StringUTF16" "$assertionsDisabled" "Z" (.int (1 : Int32))) (Uhi : Sta Z Z.heap "java/lang/StringUTF16" "HI_BYTE_SHIFT" "I" (.int (0 : Int32))) (Ulo : Sta Z Z.heap "java/lang/StringUTF16" "LO_BYTE_SHIFT" "I" (.int (8 : Int32))) (OLD : Old Z n0 h0) (VB : Arv Z h0 b kb .byte (4 : Int32) [(.int v0), (.int v1), (.int v2), (.int v3)] (.int (0 : Int32))) (gb : n0 ≤ b) :
    MetFree l (⟨"java/lang/StringUTF16", "putChar", "([BII)V"⟩ : MethodName) (head1 (Jvm.Cond.code (⟨"java/lang/StringUTF16", "putChar", "([BII)V"⟩ : MethodName) jdk_52_method_4_code 3 none :: ws) ({ frames := 0, cells := 0, slots := 0, locals := 0 } : Room)) (fun aa_ U => aa_ = #[(.ref b), (.int (1 : Int32)), (.int c)] ∧ Z.Warmed39 U.vm ∧ U.heap = h0) (fun _ _ _ _ _ => True) (fun _ U o_ U' => RetG U (Q_putc_2_1 Z b kb c v0 v1 v2 v3 h0 n0) 0 0 U' o_) := by
  refine MetFree.of_bodySF (plainFor_of_name own_pn3) hisR ?_
  intro p e s m args below meth c_ s₁ Bd hml0 hP hK
  obtain ⟨rfl, hZ, hh⟩ := hP
  have hx := Bd.exec
  have hby := Bd.bytes
  have hml : c_.maxLocals = 3 := hml0
  have hown : s.vm.findClass "java/lang/StringUTF16" = some m.cls := findClass_of_methodNamed Bd.named
  have hnm := (name_of_methodNamed Bd.named Bd.method).1
  have X0 : Stand p l e ({ frames := 0, cells := 0, slots := 0, locals := 0 } : Room) s m #[(.ref b), (.int (1 : Int32)), (.int c)] below meth c_ s₁ [] 0 0 := Stand.of_body Bd
  have e0 : s₁.heap = h0 := by rw [← hh, Bd.state]; rfl
  have N0 := Fr.nil n0
  have w86_ := hw _ (List.mem_of_getElem? (i := 86) rfl)
  have w87_ := hw _ (List.mem_of_getElem? (i := 87) rfl)
  have w88_ := hw _ (List.mem_of_getElem? (i := 88) rfl)
  show Go p e below (RetG s (Q_putc_2_1 Z b kb c v0 v1 v2 v3 h0 n0) 0 0) (s₁.setTop (entryFrame m #[(.ref b), (.int (1 : Int32)), (.int c)] 3))
  rw [show entryFrame m #[(.ref b), (.int (1 : Int32)), (.int c)] 3 = mkF m 0 #[.val (.ref b), .val (.int (1 : Int32)), .val (.int c)] [] from by first | (simp [entryFrame, mkF, argsToLocals, Value.category]; done) | rfl]
  refine g_getS X0 hx hby hZ hown (host := "") (Or.inl w86_) Via.refl e0 (Uad.ext OLD.2) d19_0 (fun T1 X1 e1 => ?_)
  refine g_ifY X1 hx hby 28 d19_3 (feq (by decide : ¬ ((1 : Int32) = (0 : Int32)))).2 (by decide) (by decide) ?_
  refine g_iloadN X1 hx hby d19_28 rfl ?_
  refine g_iconst X1 hx hby (1 : Int32) d19_29 rfl ?_
  refine g_ishl X1 hx hby d19_30 ?_
  refine g_topI (2 : Int32) (by decide) ?_
  refine g_istoreN X1 hx hby d19_31 (l' := #[.val (.ref b), .val (.int (2 : Int32)), .val (.int c)]) rfl ?_
  refine g_aloadN X1 hx hby d19_32 rfl rfl ?_
  refine g_iloadN X1 hx hby d19_33 rfl ?_
  refine g_iinc X1 hx hby (3 : Int32) d19_34 rfl (by decide) (l' := #[.val (.ref b), .val (.int (3 : Int32)), .val (.int c)]) rfl ?_
  refine g_iloadN X1 hx hby d19_37 rfl ?_
  refine g_getS X1 hx hby hZ hown (host := "") (Or.inl w87_) Via.refl e1 (Uhi.ext OLD.2) d19_38 (fun T2 X2 e2 => ?_)
  refine g_ishr X2 hx hby d19_41 ?_
  refine g_i2b X2 hx hby d19_42 ?_
  refine g_bastore X2 hx hby hZ e2 VB 2 [(.int v0), (.int v1), (.int (nar .byte ((c >>> ((0 : Int32) &&& 31)).toInt8.toInt32))), (.int v3)] rfl ⟨by decide, by decide⟩ rfl (Nat.le_of_ble_eq_true rfl) N0 gb d19_43 (fun T3 h3 X3 e3 W3 V3 N3 => ?_)
  refine g_aloadN X3 hx hby d19_44 rfl rfl ?_
  refine g_iloadN X3 hx hby d19_45 rfl ?_
  refine g_iloadN X3 hx hby d19_46 rfl ?_
  have f4 := (OLD.wr W3 gb)
  refine g_getS X3 hx hby hZ hown (host := "") (Or.inl w88_) Via.refl e3 (Ulo.ext f4.2) d19_47 (fun T5 X5 e5 => ?_)
  refine g_ishr X5 hx hby d19_50 ?_
  refine g_i2b X5 hx hby d19_51 ?_
  refine g_bastore X5 hx hby hZ e5 V3 3 [(.int v0), (.int v1), (.int (nar .byte ((c >>> ((0 : Int32) &&& 31)).toInt8.toInt32))), (.int (nar .byte ((c >>> ((8 : Int32) &&& 31)).toInt8.toInt32)))] rfl ⟨by decide, by decide⟩ rfl (Nat.le_of_ble_eq_true rfl) N3 gb d19_52 (fun T6 h6 X6 e6 W6 V6 N6 => ?_)
  refine g_ret X6 hx hby Bd.returns Bd.notSynchronized d19_53 e6 (by decide) (by decide) ?_
  show (Q_putc_2_1 Z b kb c v0 v1 v2 v3 h0 n0) none _ _
  exact ⟨rfl, N6, (((Keep.refl h0 [b]).wr W3 (Or.inl (List.mem_of_getElem? (i := 0) rfl))).wr W6 (Or.inl (List.mem_of_getElem? (i := 0) rfl))), V6⟩

def Q_tob_2 (Z : State) (ca : Addr) (kc : ClassId) (c0 : Int32) (c1 : Int32) (h0 : Heap) (n0 : Nat) (v : Option Value) (h : Heap) (L : List Loc) : Prop := Fr n0 L ∧ Keep h0 h [] ∧ ∃ (b : Addr) (kb : ClassId), v = some (.ref b) ∧ h0.size ≤ b ∧ Arv Z h b kb .byte (4 : Int32) [(.int (own_lob c0)), (.int (own_hib c0)), (.int (own_lob c1)), (.int (own_hib c1))] (.int (0 : Int32))
set_option maxRecDepth 65536 in
set_option maxHeartbeats 40000000 in
theorem rm_tob_2 (l : Launch) (Z : State) (a0 : Array Value) (hw : ∀ d ∈ tables_1, d.before a0 Z = true) (ws : List Jvm.Cond) (ca : Addr) (kc : ClassId) (c0 : Int32) (c1 : Int32) (h0 : Heap) (n0 : Nat) (Z0 : n0 ≤ h0.size) (Uad : Sta Z Z.heap "java/lang/StringUTF16" "$assertionsDisabled" "Z" (.int (1 : Int32))) (Uhi : Sta Z Z.heap "java/lang/StringUTF16" "HI_BYTE_SHIFT" "I" (.int (0 : Int32))) (Ulo : Sta Z Z.heap "java/lang/StringUTF16" "LO_BYTE_SHIFT" "I" (.int (8 : Int32))) (OLD : Old Z n0 h0) (VC : Arv Z h0 ca kc .char (2 : Int32) [(.int c0), (.int c1)] (.int (0 : Int32))) :
    MetFree l (⟨"java/lang/StringUTF16", "toBytes", "([CII)[B"⟩ : MethodName) (head1 (Jvm.Cond.code (⟨"java/lang/StringUTF16", "toBytes", "([CII)[B"⟩ : MethodName) jdk_52_method_14_code 5 (some (.array .byte)) :: ws) ({ frames := 2, cells := 1, slots := 4, locals := 24 } : Room)) (fun aa_ U => aa_ = #[(.ref ca), (.int (0 : Int32)), (.int (2 : Int32))] ∧ Z.Warmed39 U.vm ∧ U.heap = h0) (fun _ _ _ _ _ => True) (fun _ U o_ U' => RetG U (Q_tob_2 Z ca kc c0 c1 h0 n0) 1 4 U' o_) := by
  refine MetFree.of_bodySF (plainFor_of_name own_pn3) hisR ?_
  intro p e s m args below meth c_ s₁ Bd hml0 hP hK
  obtain ⟨rfl, hZ, hh⟩ := hP
  have hx := Bd.exec
  have hby := Bd.bytes
  have hml : c_.maxLocals = 5 := hml0
  have hown : s.vm.findClass "java/lang/StringUTF16" = some m.cls := findClass_of_methodNamed Bd.named
  have hnm := (name_of_methodNamed Bd.named Bd.method).1
  have X0 : Stand p l e ({ frames := 2, cells := 1, slots := 4, locals := 24 } : Room) s m #[(.ref ca), (.int (0 : Int32)), (.int (2 : Int32))] below meth c_ s₁ [] 0 0 := Stand.of_body Bd
  have e0 : s₁.heap = h0 := by rw [← hh, Bd.state]; rfl
  have N0 := Fr.nil n0
  have w39_ := hw _ (List.mem_of_getElem? (i := 39) rfl)
  have w76_ := hw _ (List.mem_of_getElem? (i := 76) rfl)
  have w77_ := hw _ (List.mem_of_getElem? (i := 77) rfl)
  have w78_ := hw _ (List.mem_of_getElem? (i := 78) rfl)
  have w83_ := hw _ (List.mem_of_getElem? (i := 83) rfl)
  have w84_ := hw _ (List.mem_of_getElem? (i := 84) rfl)
  have w85_ := hw _ (List.mem_of_getElem? (i := 85) rfl)
  show Go p e below (RetG s (Q_tob_2 Z ca kc c0 c1 h0 n0) 1 4) (s₁.setTop (entryFrame m #[(.ref ca), (.int (0 : Int32)), (.int (2 : Int32))] 5))
  rw [show entryFrame m #[(.ref ca), (.int (0 : Int32)), (.int (2 : Int32))] 5 = mkF m 0 #[.val (.ref ca), .val (.int (0 : Int32)), .val (.int (2 : Int32)), .unset, .unset] [] from by first | (simp [entryFrame, mkF, argsToLocals, Value.category]; done) | rfl]
  refine g_iloadN X0 hx hby d16_0 rfl ?_
  refine g_static X0 hx hby hZ hown (rm_nbf_2 l Z a0 hw []  h0 n0 Z0 ) w76_ w77_ w39_ w78_ (by decide) e0 (by rw [hml]; rfl) [(.int (2 : Int32))] (lenOf own_pd6 rfl) rfl rfl (Nat.le_of_ble_eq_true rfl) (Nat.le_of_ble_eq_true rfl) (Nat.le_of_ble_eq_true rfl) (Nat.le_of_ble_eq_true rfl) d16_1 (fun v1 T1 L1 X1 hQ1 => ?_)
  obtain ⟨N1q, K1, bb, kbb, rfl, lob, Vb⟩ := hQ1
  have N1 := Fr.app N0 N1q
  refine g_astoreN X1 hx hby d16_4 rfl (l' := #[.val (.ref ca), .val (.int (0 : Int32)), .val (.int (2 : Int32)), .val (.ref bb), .unset]) rfl ?_
  refine g_iconst X1 hx hby (0 : Int32) d16_5 rfl ?_
  refine g_istore X1 hx hby d16_6 (l' := #[.val (.ref ca), .val (.int (0 : Int32)), .val (.int (2 : Int32)), .val (.ref bb), .val (.int (0 : Int32))]) rfl ?_
  refine g_iload X1 hx hby d16_8 rfl ?_
  refine g_iloadN X1 hx hby d16_10 rfl ?_
  refine g_icN X1 hx hby d16_11 (tlt (by decide : (0 : Int32) < (2 : Int32))).2.1 ?_
  refine g_aloadN X1 hx hby d16_14 rfl rfl ?_
  refine g_iload X1 hx hby d16_15 rfl ?_
  refine g_aloadN X1 hx hby d16_17 rfl rfl ?_
  refine g_iloadN X1 hx hby d16_18 rfl ?_
  have f2 := (VC.keep K1 nin0)
  refine g_caload X1 hx hby hZ rfl f2 (.int c0) ⟨by decide, by decide⟩ rfl d16_19 ?_
  have f4 := (OLD.keep K1 all0)
  have g_bb : n0 ≤ bb := Nat.le_trans Z0 lob
  have z5 := (Nat.le_trans Z0 K1.1)
  refine g_static X1 hx hby hZ hown (rm_putc_2_0 l Z a0 hw [] bb kbb c0 (0 : Int32) (0 : Int32) (0 : Int32) (0 : Int32) T1.heap n0 z5 Uad Uhi Ulo f4 Vb g_bb) w83_ w84_ w39_ w85_ (by decide) rfl (by rw [hml]; rfl) [(.ref bb), (.int (0 : Int32)), (.int c0)] (lenOf own_pd7 rfl) rfl rfl (Nat.le_of_ble_eq_true rfl) (Nat.le_of_ble_eq_true rfl) (Nat.le_of_ble_eq_true rfl) (Nat.le_of_ble_eq_true rfl) d16_20 (fun v3 T3 L3 X3 hQ3 => ?_)
  obtain ⟨rfl, N3q, K3, V3⟩ := hQ3
  have N3 := Fr.app N1 N3q
  refine g_iinc X3 hx hby (1 : Int32) d16_23 rfl (by decide) (l' := #[.val (.ref ca), .val (.int (1 : Int32)), .val (.int (2 : Int32)), .val (.ref bb), .val (.int (0 : Int32))]) rfl ?_
  refine g_at 26 rfl rfl rfl ?_
  refine g_iinc X3 hx hby (1 : Int32) d16_26 rfl (by decide) (l' := #[.val (.ref ca), .val (.int (1 : Int32)), .val (.int (2 : Int32)), .val (.ref bb), .val (.int (1 : Int32))]) rfl ?_
  refine g_goto X3 hx hby 8 d16_29 (by decide) (by decide) ?_
  refine g_iload X3 hx hby d16_8 rfl ?_
  refine g_iloadN X3 hx hby d16_10 rfl ?_
  refine g_icN X3 hx hby d16_11 (tlt (by decide : (1 : Int32) < (2 : Int32))).2.1 ?_
  refine g_aloadN X3 hx hby d16_14 rfl rfl ?_
  refine g_iload X3 hx hby d16_15 rfl ?_
  refine g_aloadN X3 hx hby d16_17 rfl rfl ?_
  refine g_iloadN X3 hx hby d16_18 rfl ?_
  have ne6 : ca ≠ bb := (Nat.ne_of_lt (Nat.lt_of_lt_of_le VC.lt lob))
  have f7 := (f2.keep K3 (ninS ne6 nin0))
  refine g_caload X3 hx hby hZ rfl f7 (.int c1) ⟨by decide, by decide⟩ rfl d16_19 ?_
  have f9 := (f4.keep K3 (allS g_bb all0))
  have z10 := (Nat.le_trans z5 K3.1)
  refine g_static X3 hx hby hZ hown (rm_putc_2_1 l Z a0 hw [] bb kbb c1 (own_lob c0) (own_hib c0) (0 : Int32) (0 : Int32) T3.heap n0 z10 Uad Uhi Ulo f9 V3 g_bb) w83_ w84_ w39_ w85_ (by decide) rfl (by rw [hml]; rfl) [(.ref bb), (.int (1 : Int32)), (.int c1)] (lenOf own_pd7 rfl) rfl rfl (Nat.le_of_ble_eq_true rfl) (Nat.le_of_ble_eq_true rfl) (Nat.le_of_ble_eq_true rfl) (Nat.le_of_ble_eq_true rfl) d16_20 (fun v8 T8 L8 X8 hQ8 => ?_)
  obtain ⟨rfl, N8q, K8, V8⟩ := hQ8
  have N8 := Fr.app N3 N8q
  refine g_iinc X8 hx hby (2 : Int32) d16_23 rfl (by decide) (l' := #[.val (.ref ca), .val (.int (2 : Int32)), .val (.int (2 : Int32)), .val (.ref bb), .val (.int (1 : Int32))]) rfl ?_
  refine g_iinc X8 hx hby (2 : Int32) d16_26 rfl (by decide) (l' := #[.val (.ref ca), .val (.int (2 : Int32)), .val (.int (2 : Int32)), .val (.ref bb), .val (.int (2 : Int32))]) rfl ?_
  refine g_goto X8 hx hby 8 d16_29 (by decide) (by decide) ?_
  refine g_iload X8 hx hby d16_8 rfl ?_
  refine g_iloadN X8 hx hby d16_10 rfl ?_
  refine g_icY X8 hx hby 32 d16_11 (flt (by decide : ¬ ((2 : Int32) < (2 : Int32)))).2.1 (by decide) (by decide) ?_
  refine g_aloadN X8 hx hby d16_32 rfl rfl ?_
  refine g_aret X8 hx hby (t := (.array .byte)) rfl rfl rfl Bd.returns Bd.notSynchronized d16_33 rfl (by decide) (by decide) ?_
  show (Q_tob_2 Z ca kc c0 c1 h0 n0) (some (.ref bb)) _ _
  exact ⟨N8, ((((Keep.refl h0 []).trans K1 all0).trans K3 (allS (Or.inr (Nat.le_trans (Nat.le_refl _) lob)) all0)).trans K8 (allS (Or.inr (Nat.le_trans (Nat.le_refl _) lob)) all0)), bb, kbb, rfl, (Nat.le_trans (Nat.le_refl _) lob), V8⟩

def Q_getc_2_0 (Z : State) (b : Addr) (kb : ClassId) (v0 : Int32) (v1 : Int32) (v2 : Int32) (v3 : Int32) (h0 : Heap) (n0 : Nat) (v : Option Value) (h : Heap) (L : List Loc) : Prop := v = some (.int (nar .char (own_u16e v0 v1))) ∧ Fr n0 L ∧ h = h0
set_option maxRecDepth 65536 in
set_option maxHeartbeats 40000000 in
theorem rm_getc_2_0 (l : Launch) (Z : State) (a0 : Array Value) (hw : ∀ d ∈ tables_1, d.before a0 Z = true) (ws : List Jvm.Cond) (b : Addr) (kb : ClassId) (v0 : Int32) (v1 : Int32) (v2 : Int32) (v3 : Int32) (h0 : Heap) (n0 : Nat) (Z0 : n0 ≤ h0.size) (Uad : Sta Z Z.heap "java/lang/StringUTF16" "$assertionsDisabled" "Z" (.int (1 : Int32))) (Uhi : Sta Z Z.heap "java/lang/StringUTF16" "HI_BYTE_SHIFT" "I" (.int (0 : Int32))) (Ulo : Sta Z Z.heap "java/lang/StringUTF16" "LO_BYTE_SHIFT" "I" (.int (8 : Int32))) (OLD : Old Z n0 h0) (VB : Arv Z h0 b kb .byte (4 : Int32) [(.int v0), (.int v1), (.int v2), (.int v3)] (.int (0 : Int32))) :
    MetFree l (⟨"java/lang/StringUTF16", "getChar", "([BI)C"⟩ : MethodName) (head1 (Jvm.Cond.code (⟨"java/lang/StringUTF16", "getChar", "([BI)C"⟩ : MethodName) jdk_52_method_5_code 2 (some .char) :: ws) ({ frames := 0, cells := 0, slots := 0, locals := 0 } : Room)) (fun aa_ U => aa_ = #[(.ref b), (.int (0 : Int32))] ∧ Z.Warmed39 U.vm ∧ U.heap = h0) (fun _ _ _ _ _ => True) (fun _ U o_ U' => RetG U (Q_getc_2_0 Z b kb v0 v1 v2 v3 h0 n0) 0 0 U' o_) := by
  refine MetFree.of_bodySF (plainFor_of_name own_pn3) hisR ?_
  intro p e s m args below meth c_ s₁ Bd hml0 hP hK
  obtain ⟨rfl, hZ, hh⟩ := hP
  have hx := Bd.exec
  have hby := Bd.bytes
  have hml : c_.maxLocals = 2 := hml0
  have hown : s.vm.findClass "java/lang/StringUTF16" = some m.cls := findClass_of_methodNamed Bd.named
  have hnm := (name_of_methodNamed Bd.named Bd.method).1
  have X0 : Stand p l e ({ frames := 0, cells := 0, slots := 0, locals := 0 } : Room) s m #[(.ref b), (.int (0 : Int32))] below meth c_ s₁ [] 0 0 := Stand.of_body Bd
  have e0 : s₁.heap = h0 := by rw [← hh, Bd.state]; rfl
  have N0 := Fr.nil n0
  have w86_ := hw _ (List.mem_of_getElem? (i := 86) rfl)
  have w87_ := hw _ (List.mem_of_getElem? (i := 87) rfl)
  have w88_ := hw _ (List.mem_of_getElem? (i := 88) rfl)
  show Go p e below (RetG s (Q_getc_2_0 Z b kb v0 v1 v2 v3 h0 n0) 0 0) (s₁.setTop (entryFrame m #[(.ref b), (.int (0 : Int32))] 2))
  rw [show entryFrame m #[(.ref b), (.int (0 : Int32))] 2 = mkF m 0 #[.val (.ref b), .val (.int (0 : Int32))] [] from by first | (simp [entryFrame, mkF, argsToLocals, Value.category]; done) | rfl]
  refine g_getS X0 hx hby hZ hown (host := "") (Or.inl w86_) Via.refl e0 (Uad.ext OLD.2) d20_0 (fun T1 X1 e1 => ?_)
  refine g_ifY X1 hx hby 28 d20_3 (feq (by decide : ¬ ((1 : Int32) = (0 : Int32)))).2 (by decide) (by decide) ?_
  refine g_iloadN X1 hx hby d20_28 rfl ?_
  refine g_iconst X1 hx hby (1 : Int32) d20_29 rfl ?_
  refine g_ishl X1 hx hby d20_30 ?_
  refine g_topI (0 : Int32) (by decide) ?_
  refine g_istoreN X1 hx hby d20_31 (l' := #[.val (.ref b), .val (.int (0 : Int32))]) rfl ?_
  refine g_aloadN X1 hx hby d20_32 rfl rfl ?_
  refine g_iloadN X1 hx hby d20_33 rfl ?_
  refine g_iinc X1 hx hby (1 : Int32) d20_34 rfl (by decide) (l' := #[.val (.ref b), .val (.int (1 : Int32))]) rfl ?_
  refine g_baload X1 hx hby hZ e1 VB (.int v0) ⟨by decide, by decide⟩ rfl d20_37 ?_
  refine g_sipush X1 hx hby (255 : Int32) d20_38 rfl ?_
  refine g_iand X1 hx hby d20_41 ?_
  refine g_getS X1 hx hby hZ hown (host := "") (Or.inl w87_) Via.refl e1 (Uhi.ext OLD.2) d20_42 (fun T2 X2 e2 => ?_)
  refine g_ishl X2 hx hby d20_45 ?_
  refine g_aloadN X2 hx hby d20_46 rfl rfl ?_
  refine g_iloadN X2 hx hby d20_47 rfl ?_
  refine g_baload X2 hx hby hZ e2 VB (.int v1) ⟨by decide, by decide⟩ rfl d20_48 ?_
  refine g_sipush X2 hx hby (255 : Int32) d20_49 rfl ?_
  refine g_iand X2 hx hby d20_52 ?_
  refine g_getS X2 hx hby hZ hown (host := "") (Or.inl w88_) Via.refl e2 (Ulo.ext OLD.2) d20_53 (fun T3 X3 e3 => ?_)
  refine g_ishl X3 hx hby d20_56 ?_
  refine g_ior X3 hx hby d20_57 ?_
  refine g_i2c X3 hx hby d20_58 ?_
  refine g_nret X3 hx hby (t := .char) (by simp) Bd.returns Bd.notSynchronized d20_59 e3 (by decide) (by decide) ?_
  show (Q_getc_2_0 Z b kb v0 v1 v2 v3 h0 n0) (some (.int (nar .char ((((v0 &&& (255 : Int32)) <<< ((0 : Int32) &&& 31)) ||| ((v1 &&& (255 : Int32)) <<< ((8 : Int32) &&& 31))).toUInt32.toUInt16.toUInt32.toInt32)))) _ _
  exact ⟨rfl, N0, rfl⟩

def Q_cmpf_2_0 (Z : State) (ca : Addr) (kc : ClassId) (c0 : Int32) (c1 : Int32) (h0 : Heap) (n0 : Nat) (v : Option Value) (h : Heap) (L : List Loc) : Prop := Fr n0 L ∧ Keep h0 h [] ∧ ∃ (b : Addr) (kb : ClassId), v = some (.ref b) ∧ h0.size ≤ b ∧ Arv Z h b kb .byte (4 : Int32) [(.int (own_lob c0)), (.int (own_hib c0)), (.int (own_lob c1)), (.int (own_hib c1))] (.int (0 : Int32))
set_option maxRecDepth 65536 in
set_option maxHeartbeats 40000000 in
theorem rm_cmpf_2_0 (l : Launch) (Z : State) (a0 : Array Value) (hw : ∀ d ∈ tables_1, d.before a0 Z = true) (ws : List Jvm.Cond) (ca : Addr) (kc : ClassId) (c0 : Int32) (c1 : Int32) (h0 : Heap) (n0 : Nat) (Z0 : n0 ≤ h0.size) (Uad : Sta Z Z.heap "java/lang/StringUTF16" "$assertionsDisabled" "Z" (.int (1 : Int32))) (Uhi : Sta Z Z.heap "java/lang/StringUTF16" "HI_BYTE_SHIFT" "I" (.int (0 : Int32))) (Ulo : Sta Z Z.heap "java/lang/StringUTF16" "LO_BYTE_SHIFT" "I" (.int (8 : Int32))) (OLD : Old Z n0 h0) (VC : Arv Z h0 ca kc .char (2 : Int32) [(.int c0), (.int c1)] (.int (0 : Int32))) (hf : (255 : Int32) < c0) (hr0 : 0 ≤ c0.toInt ∧ c0.toInt < 65536) (hr1 : 0 ≤ c1.toInt ∧ c1.toInt < 65536) :
    MetFree l (⟨"java/lang/StringUTF16", "compress", "([CII)[B"⟩ : MethodName) (head1 (Jvm.Cond.code (⟨"java/lang/StringUTF16", "compress", "([CII)[B"⟩ : MethodName) jdk_52_method_16_code 6 (some (.array .byte)) :: ws) ({ frames := 3, cells := 2, slots := 6, locals := 40 } : Room)) (fun aa_ U => aa_ = #[(.ref ca), (.int (0 : Int32)), (.int (2 : Int32))] ∧ Z.Warmed39 U.vm ∧ U.heap = h0) (fun _ _ _ _ _ => True) (fun _ U o_ U' => RetG U (Q_cmpf_2_0 Z ca kc c0 c1 h0 n0) 2 6 U' o_) := by
  refine MetFree.of_bodySF (plainFor_of_name own_pn3) hisR ?_
  intro p e s m args below meth c_ s₁ Bd hml0 hP hK
  obtain ⟨rfl, hZ, hh⟩ := hP
  have hx := Bd.exec
  have hby := Bd.bytes
  have hml : c_.maxLocals = 6 := hml0
  have hown : s.vm.findClass "java/lang/StringUTF16" = some m.cls := findClass_of_methodNamed Bd.named
  have hnm := (name_of_methodNamed Bd.named Bd.method).1
  have X0 : Stand p l e ({ frames := 3, cells := 2, slots := 6, locals := 40 } : Room) s m #[(.ref ca), (.int (0 : Int32)), (.int (2 : Int32))] below meth c_ s₁ [] 0 0 := Stand.of_body Bd
  have e0 : s₁.heap = h0 := by rw [← hh, Bd.state]; rfl
  have N0 := Fr.nil n0
  have w15_ := hw _ (List.mem_of_getElem? (i := 15) rfl)
  have w39_ := hw _ (List.mem_of_getElem? (i := 39) rfl)
  have w41_ := hw _ (List.mem_of_getElem? (i := 41) rfl)
  have w42_ := hw _ (List.mem_of_getElem? (i := 42) rfl)
  have w43_ := hw _ (List.mem_of_getElem? (i := 43) rfl)
  have w73_ := hw _ (List.mem_of_getElem? (i := 73) rfl)
  have w74_ := hw _ (List.mem_of_getElem? (i := 74) rfl)
  have w75_ := hw _ (List.mem_of_getElem? (i := 75) rfl)
  have w89_ := hw _ (List.mem_of_getElem? (i := 89) rfl)
  have w90_ := hw _ (List.mem_of_getElem? (i := 90) rfl)
  have w91_ := hw _ (List.mem_of_getElem? (i := 91) rfl)
  show Go p e below (RetG s (Q_cmpf_2_0 Z ca kc c0 c1 h0 n0) 2 6) (s₁.setTop (entryFrame m #[(.ref ca), (.int (0 : Int32)), (.int (2 : Int32))] 6))
  rw [show entryFrame m #[(.ref ca), (.int (0 : Int32)), (.int (2 : Int32))] 6 = mkF m 0 #[.val (.ref ca), .val (.int (0 : Int32)), .val (.int (2 : Int32)), .unset, .unset, .unset] [] from by first | (simp [entryFrame, mkF, argsToLocals, Value.category]; done) | rfl]
  refine g_iloadN X0 hx hby d7_0 rfl ?_
  refine g_newarray X0 hx hby hZ .byte .byte (.int (0 : Int32)) [(.int (0 : Int32)), (.int (0 : Int32))] rfl rfl w15_ e0 (by decide) 2 rfl (by decide) (by decide) (by decide) (by decide) d7_1 (fun T1 h1 k1 b1 g1 X1 e1 E1 V1 => ?_)
  refine g_astoreN X1 hx hby d7_3 rfl (l' := #[.val (.ref ca), .val (.int (0 : Int32)), .val (.int (2 : Int32)), .val (.ref b1), .unset, .unset]) rfl ?_
  refine g_aloadN X1 hx hby d7_4 rfl rfl ?_
  refine g_iloadN X1 hx hby d7_5 rfl ?_
  refine g_aloadN X1 hx hby d7_6 rfl rfl ?_
  refine g_iconst X1 hx hby (0 : Int32) d7_7 rfl ?_
  refine g_iloadN X1 hx hby d7_8 rfl ?_
  have f3 := (VC.ext E1)
  have ne4 : ca ≠ b1 := (Nat.ne_of_lt (Nat.lt_of_lt_of_le VC.lt (Nat.le_of_eq g1)))
  have g_b1 : n0 ≤ b1 := Nat.le_trans Z0 (Nat.le_of_eq g1)
  have z5 := (Nat.le_trans Z0 E1.1)
  refine g_static X1 hx hby hZ hown (rm_cmp5f_2_0 l Z a0 hw [] ca b1 kc k1 c0 c1 h1 n0 z5 f3 V1 ne4 g_b1 hf) w41_ w42_ w39_ w43_ (by decide) e1 (by rw [hml]; rfl) [(.ref ca), (.int (0 : Int32)), (.ref b1), (.int (0 : Int32)), (.int (2 : Int32))] (lenOf own_pd8 rfl) rfl rfl (Nat.le_of_ble_eq_true rfl) (Nat.le_of_ble_eq_true rfl) (Nat.le_of_ble_eq_true rfl) (Nat.le_of_ble_eq_true rfl) d7_9 (fun v2 T2 L2 X2 hQ2 => ?_)
  obtain ⟨rfl, N2q, K2⟩ := hQ2
  have N2 := Fr.app N0 N2q
  refine g_istore X2 hx hby d7_12 (l' := #[.val (.ref ca), .val (.int (0 : Int32)), .val (.int (2 : Int32)), .val (.ref b1), .val (.int (0 : Int32)), .unset]) rfl ?_
  refine g_iload X2 hx hby d7_14 rfl ?_
  refine g_iloadN X2 hx hby d7_16 rfl ?_
  refine g_icN X2 hx hby d7_17 (feq (by decide : ¬ ((0 : Int32) = (2 : Int32)))).1 ?_
  refine g_aloadN X2 hx hby d7_20 rfl rfl ?_
  refine g_iloadN X2 hx hby d7_21 rfl ?_
  refine g_iloadN X2 hx hby d7_22 rfl ?_
  have f7 := ((OLD.ext E1).keep K2 (allS g_b1 all0))
  have f8 := (f3.keep K2 (ninS ne4 nin0))
  have z9 := (Nat.le_trans z5 K2.1)
  refine g_static X2 hx hby hZ hown (rm_tob_2 l Z a0 hw [] ca kc c0 c1 T2.heap n0 z9 Uad Uhi Ulo f7 f8) w73_ w74_ w39_ w75_ (by decide) rfl (by rw [hml]; rfl) [(.ref ca), (.int (0 : Int32)), (.int (2 : Int32))] (lenOf own_pd9 rfl) rfl rfl (Nat.le_of_ble_eq_true rfl) (Nat.le_of_ble_eq_true rfl) (Nat.le_of_ble_eq_true rfl) (Nat.le_of_ble_eq_true rfl) d7_23 (fun v6 T6 L6 X6 hQ6 => ?_)
  obtain ⟨N6q, K6, bb, kbb, rfl, lob, Vb⟩ := hQ6
  have N6 := Fr.app N2 N6q
  refine g_at 26 rfl rfl rfl ?_
  refine g_astore X6 hx hby d7_26 rfl (l' := #[.val (.ref ca), .val (.int (0 : Int32)), .val (.int (2 : Int32)), .val (.ref b1), .val (.int (0 : Int32)), .val (.ref bb)]) rfl ?_
  refine g_aload X6 hx hby d7_28 rfl rfl ?_
  refine g_iload X6 hx hby d7_30 rfl ?_
  have f11 := (f7.keep K6 all0)
  have z12 := (Nat.le_trans z9 K6.1)
  refine g_static X6 hx hby hZ hown (rm_getc_2_0 l Z a0 hw [] bb kbb (own_lob c0) (own_hib c0) (own_lob c1) (own_hib c1) T6.heap n0 z12 Uad Uhi Ulo f11 Vb) w89_ w90_ w39_ w91_ (by decide) rfl (by rw [hml]; rfl) [(.ref bb), (.int (0 : Int32))] (lenOf own_pd10 rfl) rfl rfl (Nat.le_of_ble_eq_true rfl) (Nat.le_of_ble_eq_true rfl) (Nat.le_of_ble_eq_true rfl) (Nat.le_of_ble_eq_true rfl) d7_32 (fun v10 T10 L10 X10 hQ10 => ?_)
  obtain ⟨rfl, N10q, eh10⟩ := hQ10
  have N10 := Fr.app N6 N10q
  refine g_topI (T := T10) c0 (own_u16 hr0) ?_
  refine g_sipush X10 hx hby (255 : Int32) d7_35 rfl ?_
  refine g_icY X10 hx hby 54 d7_38 (tlt (hf : (255 : Int32) < c0)).2.2.1 (by decide) (by decide) ?_
  refine g_aload X10 hx hby d7_54 rfl rfl ?_
  refine g_aret X10 hx hby (t := (.array .byte)) rfl rfl rfl Bd.returns Bd.notSynchronized d7_56 eh10 (by decide) (by decide) ?_
  show (Q_cmpf_2_0 Z ca kc c0 c1 h0 n0) (some (.ref bb)) _ _
  exact ⟨N10, ((((Keep.refl h0 []).ext E1).trans K2 (allS (Or.inr (Nat.le_trans (Nat.le_refl _) (Nat.le_of_eq g1))) all0)).trans K6 all0), bb, kbb, rfl, (Nat.le_trans (Nat.le_trans E1.1 K2.1) lob), Vb⟩

def Q_cfal_2_4 (Z : State) (ba : Addr) (kb : ClassId) (bs : List Value) (h0 : Heap) (n0 : Nat) (v : Option Value) (h : Heap) (L : List Loc) : Prop := v = some (.int (1 : Int32)) ∧ Fr n0 L ∧ h = h0
set_option maxRecDepth 65536 in
set_option maxHeartbeats 40000000 in
theorem rm_cfal_2_4 (l : Launch) (Z : State) (a0 : Array Value) (hw : ∀ d ∈ tables_1, d.before a0 Z = true) (ws : List Jvm.Cond) (ba : Addr) (kb : ClassId) (bs : List Value) (h0 : Heap) (n0 : Nat) (Z0 : n0 ≤ h0.size) (VB : Arv Z h0 ba kb .byte (4 : Int32) bs (.int (0 : Int32))) :
    MetFree l (⟨"java/lang/StringUTF16", "coderFromArrayLen", "([BI)B"⟩ : MethodName) (head1 (Jvm.Cond.code (⟨"java/lang/StringUTF16", "coderFromArrayLen", "([BI)B"⟩ : MethodName) jdk_52_method_15_code 2 (some .byte) :: ws) ({ frames := 0, cells := 0, slots := 0, locals := 0 } : Room)) (fun aa_ U => aa_ = #[(.ref ba), (.int (2 : Int32))] ∧ Z.Warmed39 U.vm ∧ U.heap = h0) (fun _ _ _ _ _ => True) (fun _ U o_ U' => RetG U (Q_cfal_2_4 Z ba kb bs h0 n0) 0 0 U' o_) := by
  refine MetFree.of_bodySF (plainFor_of_name own_pn3) hisR ?_
  intro p e s m args below meth c_ s₁ Bd hml0 hP hK
  obtain ⟨rfl, hZ, hh⟩ := hP
  have hx := Bd.exec
  have hby := Bd.bytes
  have hml : c_.maxLocals = 2 := hml0
  have hown : s.vm.findClass "java/lang/StringUTF16" = some m.cls := findClass_of_methodNamed Bd.named
  have hnm := (name_of_methodNamed Bd.named Bd.method).1
  have X0 : Stand p l e ({ frames := 0, cells := 0, slots := 0, locals := 0 } : Room) s m #[(.ref ba), (.int (2 : Int32))] below meth c_ s₁ [] 0 0 := Stand.of_body Bd
  have e0 : s₁.heap = h0 := by rw [← hh, Bd.state]; rfl
  have N0 := Fr.nil n0
  show Go p e below (RetG s (Q_cfal_2_4 Z ba kb bs h0 n0) 0 0) (s₁.setTop (entryFrame m #[(.ref ba), (.int (2 : Int32))] 2))
  rw [show entryFrame m #[(.ref ba), (.int (2 : Int32))] 2 = mkF m 0 #[.val (.ref ba), .val (.int (2 : Int32))] [] from by first | (simp [entryFrame, mkF, argsToLocals, Value.category]; done) | rfl]
  refine g_iloadN X0 hx hby d9_0 rfl ?_
  refine g_aloadN X0 hx hby d9_1 rfl rfl ?_
  refine g_arraylength X0 hx hby hZ e0 VB d9_2 ?_
  refine g_isub X0 hx hby d9_3 ?_
  refine g_topI (-2 : Int32) (by decide) ?_
  refine g_bipush X0 hx hby (31 : Int32) d9_4 rfl ?_
  refine g_iushr X0 hx hby d9_6 ?_
  refine g_topI (1 : Int32) (by decide) ?_
  refine g_i2b X0 hx hby d9_7 ?_
  refine g_topI (1 : Int32) (by decide) ?_
  refine g_nret X0 hx hby (t := .byte) (by simp) Bd.returns Bd.notSynchronized d9_8 e0 (by decide) (by decide) ?_
  show (Q_cfal_2_4 Z ba kb bs h0 n0) (some (.int (1 : Int32))) _ _
  exact ⟨rfl, N0, rfl⟩

def Q_ini2f_2_0 (Z : State) (a : Addr) (ca : Addr) (kc : ClassId) (c0 : Int32) (c1 : Int32) (cz : Int32) (h0 : Heap) (n0 : Nat) (v : Option Value) (h : Heap) (L : List Loc) : Prop := v = none ∧ Fr n0 L ∧ Keep h0 h [a] ∧ ∃ (b : Addr) (kb : ClassId), h0.size ≤ b ∧ Exa Z h a "java/lang/String" ∧ Fld Z h a "java/lang/String" "coder" "B" (.int (1 : Int32)) ∧ Fld Z h a "java/lang/String" "value" "[B" (.ref b) ∧ Arv Z h b kb .byte (4 : Int32) [(.int (own_lob c0)), (.int (own_hib c0)), (.int (own_lob c1)), (.int (own_hib c1))] (.int (0 : Int32))
set_option maxRecDepth 65536 in
set_option maxHeartbeats 40000000 in
theorem rm_ini2f_2_0 (l : Launch) (Z : State) (a0 : Array Value) (hw : ∀ d ∈ tables_1, d.before a0 Z = true) (ws : List Jvm.Cond) (a : Addr) (ca : Addr) (kc : ClassId) (c0 : Int32) (c1 : Int32) (cz : Int32) (h0 : Heap) (n0 : Nat) (Z0 : n0 ≤ h0.size) (O2 : Sta Z Z.heap "java/lang/String" "COMPACT_STRINGS" "Z" (.int cz)) (P5 : ¬ cz = (0 : Int32)) (OLD : Old Z n0 h0) (Uad : Sta Z Z.heap "java/lang/StringUTF16" "$assertionsDisabled" "Z" (.int (1 : Int32))) (Uhi : Sta Z Z.heap "java/lang/StringUTF16" "HI_BYTE_SHIFT" "I" (.int (0 : Int32))) (Ulo : Sta Z Z.heap "java/lang/StringUTF16" "LO_BYTE_SHIFT" "I" (.int (8 : Int32))) (E : Exa Z h0 a "java/lang/String") (FC : Fld Z h0 a "java/lang/String" "coder" "B" (.int (0 : Int32))) (FV : Fld Z h0 a "java/lang/String" "value" "[B" .null) (VC : Arv Z h0 ca kc .char (2 : Int32) [(.int c0), (.int c1)] (.int (0 : Int32))) (ga : n0 ≤ a) (hf : (255 : Int32) < c0) (hr0 : 0 ≤ c0.toInt ∧ c0.toInt < 65536) (hr1 : 0 ≤ c1.toInt ∧ c1.toInt < 65536) :
    MetFree l (⟨"java/lang/String", "<init>", "([CIILjava/lang/Void;)V"⟩ : MethodName) (head1 (Jvm.Cond.code (⟨"java/lang/String", "<init>", "([CIILjava/lang/Void;)V"⟩ : MethodName) jdk_42_method_149_code 6 none :: ws) ({ frames := 4, cells := 2, slots := 6, locals := 57 } : Room)) (fun aa_ U => aa_ = #[(.ref a), (.ref ca), (.int (0 : Int32)), (.int (2 : Int32)), .null] ∧ Z.Warmed39 U.vm ∧ U.heap = h0) (fun _ _ _ _ _ => True) (fun _ U o_ U' => RetG U (Q_ini2f_2_0 Z a ca kc c0 c1 cz h0 n0) 2 6 U' o_) := by
  refine MetFree.of_bodySF (plainFor_of_name own_pn1) hisR ?_
  intro p e s m args below meth c_ s₁ Bd hml0 hP hK
  obtain ⟨rfl, hZ, hh⟩ := hP
  have hx := Bd.exec
  have hby := Bd.bytes
  have hml : c_.maxLocals = 6 := hml0
  have hown : s.vm.findClass "java/lang/String" = some m.cls := findClass_of_methodNamed Bd.named
  have hnm := (name_of_methodNamed Bd.named Bd.method).1
  have X0 : Stand p l e ({ frames := 4, cells := 2, slots := 6, locals := 57 } : Room) s m #[(.ref a), (.ref ca), (.int (0 : Int32)), (.int (2 : Int32)), .null] below meth c_ s₁ [] 0 0 := Stand.of_body Bd
  have e0 : s₁.heap = h0 := by rw [← hh, Bd.state]; rfl
  have N0 := Fr.nil n0
  have w2_ := hw _ (List.mem_of_getElem? (i := 2) rfl)
  have w11_ := hw _ (List.mem_of_getElem? (i := 11) rfl)
  have w12_ := hw _ (List.mem_of_getElem? (i := 12) rfl)
  have w13_ := hw _ (List.mem_of_getElem? (i := 13) rfl)
  have w16_ := hw _ (List.mem_of_getElem? (i := 16) rfl)
  have w17_ := hw _ (List.mem_of_getElem? (i := 17) rfl)
  have w20_ := hw _ (List.mem_of_getElem? (i := 20) rfl)
  have w21_ := hw _ (List.mem_of_getElem? (i := 21) rfl)
  have w36_ := hw _ (List.mem_of_getElem? (i := 36) rfl)
  have w37_ := hw _ (List.mem_of_getElem? (i := 37) rfl)
  have w38_ := hw _ (List.mem_of_getElem? (i := 38) rfl)
  have w39_ := hw _ (List.mem_of_getElem? (i := 39) rfl)
  have w40_ := hw _ (List.mem_of_getElem? (i := 40) rfl)
  have w44_ := hw _ (List.mem_of_getElem? (i := 44) rfl)
  have w45_ := hw _ (List.mem_of_getElem? (i := 45) rfl)
  have w46_ := hw _ (List.mem_of_getElem? (i := 46) rfl)
  show Go p e below (RetG s (Q_ini2f_2_0 Z a ca kc c0 c1 cz h0 n0) 2 6) (s₁.setTop (entryFrame m #[(.ref a), (.ref ca), (.int (0 : Int32)), (.int (2 : Int32)), .null] 6))
  rw [show entryFrame m #[(.ref a), (.ref ca), (.int (0 : Int32)), (.int (2 : Int32)), .null] 6 = mkF m 0 #[.val (.ref a), .val (.ref ca), .val (.int (0 : Int32)), .val (.int (2 : Int32)), .val .null, .unset] [] from by first | (simp [entryFrame, mkF, argsToLocals, Value.category]; done) | rfl]
  refine g_aloadN X0 hx hby d2_0 rfl rfl ?_
  refine g_initO X0 hx hby hZ hown w11_ w12_ w13_ e0 (by rw [hml]; rfl) (Nat.le_of_ble_eq_true rfl) (Nat.le_of_ble_eq_true rfl) d2_1 (fun T1 X1 e1 => ?_)
  refine g_iloadN X1 hx hby d2_4 rfl ?_
  refine g_ifY X1 hx hby 27 d2_5 (feq (by decide : ¬ ((2 : Int32) = (0 : Int32)))).2 (by decide) (by decide) ?_
  refine g_getS X1 hx hby hZ hown (host := "") (Or.inl w36_) Via.refl e1 (O2.ext OLD.2) d2_27 (fun T2 X2 e2 => ?_)
  refine g_ifN X2 hx hby d2_30 (feq (P5 : ¬ (cz = (0 : Int32)))).1 ?_
  refine g_aloadN X2 hx hby d2_33 rfl rfl ?_
  refine g_iloadN X2 hx hby d2_34 rfl ?_
  refine g_iloadN X2 hx hby d2_35 rfl ?_
  refine g_static X2 hx hby hZ hown (rm_cmpf_2_0 l Z a0 hw [] ca kc c0 c1 h0 n0 Z0 Uad Uhi Ulo OLD VC hf hr0 hr1) w37_ w38_ w39_ w40_ (by decide) e2 (by rw [hml]; rfl) [(.ref ca), (.int (0 : Int32)), (.int (2 : Int32))] (lenOf own_pd9 rfl) rfl rfl (Nat.le_of_ble_eq_true rfl) (Nat.le_of_ble_eq_true rfl) (Nat.le_of_ble_eq_true rfl) (Nat.le_of_ble_eq_true rfl) d2_36 (fun v3 T3 L3 X3 hQ3 => ?_)
  obtain ⟨N3q, K3, bb, kbb, rfl, lob, Vb⟩ := hQ3
  have N3 := Fr.app N0 N3q
  refine g_astore X3 hx hby d2_39 rfl (l' := #[.val (.ref a), .val (.ref ca), .val (.int (0 : Int32)), .val (.int (2 : Int32)), .val .null, .val (.ref bb)]) rfl ?_
  refine g_aloadN X3 hx hby d2_41 rfl rfl ?_
  refine g_aload X3 hx hby d2_42 rfl rfl ?_
  refine g_iloadN X3 hx hby d2_44 rfl ?_
  have z5 := (Nat.le_trans Z0 K3.1)
  refine g_static X3 hx hby hZ hown (rm_cfal_2_4 l Z a0 hw [] bb kbb [(.int (own_lob c0)), (.int (own_hib c0)), (.int (own_lob c1)), (.int (own_hib c1))] T3.heap n0 z5 Vb) w44_ w45_ w39_ w46_ (by decide) rfl (by rw [hml]; rfl) [(.ref bb), (.int (2 : Int32))] (lenOf own_pd11 rfl) rfl rfl (Nat.le_of_ble_eq_true rfl) (Nat.le_of_ble_eq_true rfl) (Nat.le_of_ble_eq_true rfl) (Nat.le_of_ble_eq_true rfl) d2_45 (fun v4 T4 L4 X4 hQ4 => ?_)
  obtain ⟨rfl, N4q, eh4⟩ := hQ4
  have N4 := Fr.app N3 N4q
  have f6 := (E.keep K3)
  have f7 := (FC.keep K3 nin0)
  refine g_putFN X4 hx hby hZ hown w21_ Via.refl eh4 f7 f6 (Or.inr ⟨w17_, rfl, hnm⟩) w2_ .byte (by decide) (.int (1 : Int32)) rfl rfl N4 ga d2_48 (fun T8 h8 X8 e8 W8 F8 N8 => ?_)
  refine g_aloadN X8 hx hby d2_51 rfl rfl ?_
  refine g_aload X8 hx hby d2_52 rfl rfl ?_
  have f9 := (f6.wr W8)
  have f10 := ((FV.keep K3 nin0).other W8 (Or.inr (slot_ne (Or.inr w16_) (Or.inr w17_) (by decide) (t := (.array .byte)) (t' := .byte) (by decide) (by decide))))
  refine g_putF X8 hx hby hZ hown (host := "") (Or.inl w20_) Via.refl e8 f10 f9 (Or.inr ⟨w16_, rfl, hnm⟩) w2_ (.array .byte) (by decide) rfl rfl N8 ga d2_54 (fun T11 h11 X11 e11 W11 F11 N11 => ?_)
  have f12 := (f9.wr W11)
  have f13 := (F8.other W11 (Or.inr (slot_ne (Or.inr w17_) (Or.inr w16_) (by decide) (t := .byte) (t' := (.array .byte)) (by decide) (by decide))))
  have ne14 : bb ≠ a := (Ne.symm (Nat.ne_of_lt (Nat.lt_of_lt_of_le E.lt lob)))
  have f15 := ((Vb.other W8 ne14).other W11 ne14)
  refine g_ret X11 hx hby Bd.returns Bd.notSynchronized d2_57 e11 (by decide) (by decide) ?_
  show (Q_ini2f_2_0 Z a ca kc c0 c1 cz h0 n0) none _ _
  exact ⟨rfl, N11, ((((Keep.refl h0 [a]).trans K3 all0).wr W8 (Or.inl (List.mem_of_getElem? (i := 0) rfl))).wr W11 (Or.inl (List.mem_of_getElem? (i := 0) rfl))), bb, kbb, (Nat.le_trans (Nat.le_refl _) lob), f12, f13, F11, f15⟩

def Q_ini1f_2_0 (Z : State) (a : Addr) (ca : Addr) (kc : ClassId) (c0 : Int32) (c1 : Int32) (cz : Int32) (h0 : Heap) (n0 : Nat) (v : Option Value) (h : Heap) (L : List Loc) : Prop := v = none ∧ Fr n0 L ∧ Keep h0 h [a] ∧ ∃ (b : Addr) (kb : ClassId), h0.size ≤ b ∧ Exa Z h a "java/lang/String" ∧ Fld Z h a "java/lang/String" "coder" "B" (.int (1 : Int32)) ∧ Fld Z h a "java/lang/String" "value" "[B" (.ref b) ∧ Arv Z h b kb .byte (4 : Int32) [(.int (own_lob c0)), (.int (own_hib c0)), (.int (own_lob c1)), (.int (own_hib c1))] (.int (0 : Int32))
set_option maxRecDepth 65536 in
set_option maxHeartbeats 40000000 in
theorem rm_ini1f_2_0 (l : Launch) (Z : State) (a0 : Array Value) (hw : ∀ d ∈ tables_1, d.before a0 Z = true) (ws : List Jvm.Cond) (a : Addr) (ca : Addr) (kc : ClassId) (c0 : Int32) (c1 : Int32) (cz : Int32) (h0 : Heap) (n0 : Nat) (Z0 : n0 ≤ h0.size) (O2 : Sta Z Z.heap "java/lang/String" "COMPACT_STRINGS" "Z" (.int cz)) (P5 : ¬ cz = (0 : Int32)) (OLD : Old Z n0 h0) (Uad : Sta Z Z.heap "java/lang/StringUTF16" "$assertionsDisabled" "Z" (.int (1 : Int32))) (Uhi : Sta Z Z.heap "java/lang/StringUTF16" "HI_BYTE_SHIFT" "I" (.int (0 : Int32))) (Ulo : Sta Z Z.heap "java/lang/StringUTF16" "LO_BYTE_SHIFT" "I" (.int (8 : Int32))) (E : Exa Z h0 a "java/lang/String") (FC : Fld Z h0 a "java/lang/String" "coder" "B" (.int (0 : Int32))) (FV : Fld Z h0 a "java/lang/String" "value" "[B" .null) (VC : Arv Z h0 ca kc .char (2 : Int32) [(.int c0), (.int c1)] (.int (0 : Int32))) (ga : n0 ≤ a) (hf : (255 : Int32) < c0) (hr0 : 0 ≤ c0.toInt ∧ c0.toInt < 65536) (hr1 : 0 ≤ c1.toInt ∧ c1.toInt < 65536) :
    MetFree l (⟨"java/lang/String", "<init>", "([C)V"⟩ : MethodName) (head1 (Jvm.Cond.code (⟨"java/lang/String", "<init>", "([C)V"⟩ : MethodName) jdk_42_method_3_code 2 none :: ws) ({ frames := 5, cells := 2, slots := 6, locals := 74 } : Room)) (fun aa_ U => aa_ = #[(.ref a), (.ref ca)] ∧ Z.Warmed39 U.vm ∧ U.heap = h0) (fun _ _ _ _ _ => True) (fun _ U o_ U' => RetG U (Q_ini1f_2_0 Z a ca kc c0 c1 cz h0 n0) 2 6 U' o_) := by
  refine MetFree.of_bodySF (plainFor_of_name own_pn1) hisR ?_
  intro p e s m args below meth c_ s₁ Bd hml0 hP hK
  obtain ⟨rfl, hZ, hh⟩ := hP
  have hx := Bd.exec
  have hby := Bd.bytes
  have hml : c_.maxLocals = 2 := hml0
  have hown : s.vm.findClass "java/lang/String" = some m.cls := findClass_of_methodNamed Bd.named
  have hnm := (name_of_methodNamed Bd.named Bd.method).1
  have X0 : Stand p l e ({ frames := 5, cells := 2, slots := 6, locals := 74 } : Room) s m #[(.ref a), (.ref ca)] below meth c_ s₁ [] 0 0 := Stand.of_body Bd
  have e0 : s₁.heap = h0 := by rw [← hh, Bd.state]; rfl
  have N0 := Fr.nil n0
  have w3_ := hw _ (List.mem_of_getElem? (i := 3) rfl)
  have w7_ := hw _ (List.mem_of_getElem? (i := 7) rfl)
  have w8_ := hw _ (List.mem_of_getElem? (i := 8) rfl)
  have w10_ := hw _ (List.mem_of_getElem? (i := 10) rfl)
  show Go p e below (RetG s (Q_ini1f_2_0 Z a ca kc c0 c1 cz h0 n0) 2 6) (s₁.setTop (entryFrame m #[(.ref a), (.ref ca)] 2))
  rw [show entryFrame m #[(.ref a), (.ref ca)] 2 = mkF m 0 #[.val (.ref a), .val (.ref ca)] [] from by first | (simp [entryFrame, mkF, argsToLocals, Value.category]; done) | rfl]
  refine g_aloadN X0 hx hby d1_0 rfl rfl ?_
  refine g_aloadN X0 hx hby d1_1 rfl rfl ?_
  refine g_iconst X0 hx hby (0 : Int32) d1_2 rfl ?_
  refine g_aloadN X0 hx hby d1_3 rfl rfl ?_
  refine g_arraylength X0 hx hby hZ e0 VC d1_4 ?_
  refine g_aconst_null X0 hx hby d1_5 ?_
  refine g_special X0 hx hby hZ hown (rm_ini2f_2_0 l Z a0 hw [] a ca kc c0 c1 cz h0 n0 Z0 O2 P5 OLD Uad Uhi Ulo E FC FV VC ga hf hr0 hr1) rfl rfl w7_ w8_ w3_ w10_ (by decide) e0 (by rw [hml]; rfl) [(.ref ca), (.int (0 : Int32)), (.int (2 : Int32)), .null] (lenOf own_pd0 rfl) rfl rfl (Nat.le_of_ble_eq_true rfl) (Nat.le_of_ble_eq_true rfl) (Nat.le_of_ble_eq_true rfl) (Nat.le_of_ble_eq_true rfl) d1_6 (fun v1 T1 L1 X1 hQ1 => ?_)
  obtain ⟨rfl, N1q, R1⟩ := hQ1
  have N1 := Fr.app N0 N1q
  refine g_ret X1 hx hby Bd.returns Bd.notSynchronized d1_9 rfl (by decide) (by decide) ?_
  show (Q_ini1f_2_0 Z a ca kc c0 c1 cz h0 n0) none _ _
  exact ⟨rfl, N1, R1⟩

def Q_slen16_2 (Z : State) (a : Addr) (b : Addr) (kb : ClassId) (c0 : Int32) (c1 : Int32) (cz : Int32) (h0 : Heap) (n0 : Nat) (v : Option Value) (h : Heap) (L : List Loc) : Prop := v = some (.int (2 : Int32)) ∧ Fr n0 L ∧ h = h0
set_option maxRecDepth 65536 in
set_option maxHeartbeats 40000000 in
theorem rm_slen16_2 (l : Launch) (Z : State) (a0 : Array Value) (hw : ∀ d ∈ tables_1, d.before a0 Z = true) (ws : List Jvm.Cond) (a : Addr) (b : Addr) (kb : ClassId) (c0 : Int32) (c1 : Int32) (cz : Int32) (h0 : Heap) (n0 : Nat) (Z0 : n0 ≤ h0.size) (O2 : Sta Z Z.heap "java/lang/String" "COMPACT_STRINGS" "Z" (.int cz)) (P5 : ¬ cz = (0 : Int32)) (OLD : Old Z n0 h0) (Uad : Sta Z Z.heap "java/lang/StringUTF16" "$assertionsDisabled" "Z" (.int (1 : Int32))) (Uhi : Sta Z Z.heap "java/lang/StringUTF16" "HI_BYTE_SHIFT" "I" (.int (0 : Int32))) (Ulo : Sta Z Z.heap "java/lang/StringUTF16" "LO_BYTE_SHIFT" "I" (.int (8 : Int32))) (E : Exa Z h0 a "java/lang/String") (C : Fld Z h0 a "java/lang/String" "coder" "B" (.int (1 : Int32))) (VF : Fld Z h0 a "java/lang/String" "value" "[B" (.ref b)) (VB : Arv Z h0 b kb .byte (4 : Int32) [(.int (own_lob c0)), (.int (own_hib c0)), (.int (own_lob c1)), (.int (own_hib c1))] (.int (0 : Int32))) :
    MetFree l (⟨"java/lang/String", "length", "()I"⟩ : MethodName) (head1 (Jvm.Cond.code (⟨"java/lang/String", "length", "()I"⟩ : MethodName) jdk_42_method_54_code 1 (some .int) :: ws) ({ frames := 1, cells := 0, slots := 0, locals := 13 } : Room)) (fun aa_ U => aa_ = #[(.ref a)] ∧ Z.Warmed39 U.vm ∧ U.heap = h0) (fun _ _ _ _ _ => True) (fun _ U o_ U' => RetG U (Q_slen16_2 Z a b kb c0 c1 cz h0 n0) 0 0 U' o_) := by
  refine MetFree.of_bodySF (plainFor_of_name own_pn1) hisR ?_
  intro p e s m args below meth c_ s₁ Bd hml0 hP hK
  obtain ⟨rfl, hZ, hh⟩ := hP
  have hx := Bd.exec
  have hby := Bd.bytes
  have hml : c_.maxLocals = 1 := hml0
  have hown : s.vm.findClass "java/lang/String" = some m.cls := findClass_of_methodNamed Bd.named
  have hnm := (name_of_methodNamed Bd.named Bd.method).1
  have X0 : Stand p l e ({ frames := 1, cells := 0, slots := 0, locals := 13 } : Room) s m #[(.ref a)] below meth c_ s₁ [] 0 0 := Stand.of_body Bd
  have e0 : s₁.heap = h0 := by rw [← hh, Bd.state]; rfl
  have N0 := Fr.nil n0
  have w3_ := hw _ (List.mem_of_getElem? (i := 3) rfl)
  have w20_ := hw _ (List.mem_of_getElem? (i := 20) rfl)
  have w31_ := hw _ (List.mem_of_getElem? (i := 31) rfl)
  have w32_ := hw _ (List.mem_of_getElem? (i := 32) rfl)
  have w33_ := hw _ (List.mem_of_getElem? (i := 33) rfl)
  have w34_ := hw _ (List.mem_of_getElem? (i := 34) rfl)
  have w35_ := hw _ (List.mem_of_getElem? (i := 35) rfl)
  show Go p e below (RetG s (Q_slen16_2 Z a b kb c0 c1 cz h0 n0) 0 0) (s₁.setTop (entryFrame m #[(.ref a)] 1))
  rw [show entryFrame m #[(.ref a)] 1 = mkF m 0 #[.val (.ref a)] [] from by first | (simp [entryFrame, mkF, argsToLocals, Value.category]; done) | rfl]
  refine g_aloadN X0 hx hby d5_0 rfl rfl ?_
  refine g_getF X0 hx hby hZ hown (host := "") (Or.inl w20_) Via.refl e0 VF d5_1 (fun T1 X1 e1 => ?_)
  refine g_arraylength X1 hx hby hZ e1 VB d5_4 ?_
  refine g_aloadN X1 hx hby d5_5 rfl rfl ?_
  refine g_virtual X1 hx hby hZ hown (rm_coder l Z a0 hw [] a (1 : Int32) cz h0 n0 Z0 O2 P5 OLD C) w31_ w32_ (notFace_of_selects (args := #[]) (mvT hZ w34_)) w34_ w33_ w3_ w35_ (by decide) e1 E (by rw [hml]; rfl) [] (lenOf own_pd2 rfl) rfl rfl (Nat.le_of_ble_eq_true rfl) (Nat.le_of_ble_eq_true rfl) (Nat.le_of_ble_eq_true rfl) (Nat.le_of_ble_eq_true rfl) d5_6 (fun v2 T2 L2 X2 hQ2 => ?_)
  obtain ⟨rfl, N2q, eh2⟩ := hQ2
  have N2 := Fr.app N0 N2q
  refine g_topI (T := T2) (1 : Int32) (by decide) ?_
  refine g_ishr X2 hx hby d5_9 ?_
  refine g_topI (2 : Int32) (by decide) ?_
  refine g_iret X2 hx hby Bd.returns Bd.notSynchronized d5_10 eh2 (by decide) (by decide) ?_
  show (Q_slen16_2 Z a b kb c0 c1 cz h0 n0) (some (.int (2 : Int32))) _ _
  exact ⟨rfl, N2, rfl⟩

def Q_ulen_2 (Z : State) (b : Addr) (kb : ClassId) (c0 : Int32) (c1 : Int32) (h0 : Heap) (n0 : Nat) (v : Option Value) (h : Heap) (L : List Loc) : Prop := v = some (.int (2 : Int32)) ∧ Fr n0 L ∧ h = h0
set_option maxRecDepth 65536 in
set_option maxHeartbeats 40000000 in
theorem rm_ulen_2 (l : Launch) (Z : State) (a0 : Array Value) (hw : ∀ d ∈ tables_1, d.before a0 Z = true) (ws : List Jvm.Cond) (b : Addr) (kb : ClassId) (c0 : Int32) (c1 : Int32) (h0 : Heap) (n0 : Nat) (Z0 : n0 ≤ h0.size) (VB : Arv Z h0 b kb .byte (4 : Int32) [(.int (own_lob c0)), (.int (own_hib c0)), (.int (own_lob c1)), (.int (own_hib c1))] (.int (0 : Int32))) :
    MetFree l (⟨"java/lang/StringUTF16", "length", "([B)I"⟩ : MethodName) (head1 (Jvm.Cond.code (⟨"java/lang/StringUTF16", "length", "([B)I"⟩ : MethodName) jdk_52_method_6_code 1 (some .int) :: ws) ({ frames := 0, cells := 0, slots := 0, locals := 0 } : Room)) (fun aa_ U => aa_ = #[(.ref b)] ∧ Z.Warmed39 U.vm ∧ U.heap = h0) (fun _ _ _ _ _ => True) (fun _ U o_ U' => RetG U (Q_ulen_2 Z b kb c0 c1 h0 n0) 0 0 U' o_) := by
  refine MetFree.of_bodySF (plainFor_of_name own_pn3) hisR ?_
  intro p e s m args below meth c_ s₁ Bd hml0 hP hK
  obtain ⟨rfl, hZ, hh⟩ := hP
  have hx := Bd.exec
  have hby := Bd.bytes
  have hml : c_.maxLocals = 1 := hml0
  have hown : s.vm.findClass "java/lang/StringUTF16" = some m.cls := findClass_of_methodNamed Bd.named
  have hnm := (name_of_methodNamed Bd.named Bd.method).1
  have X0 : Stand p l e ({ frames := 0, cells := 0, slots := 0, locals := 0 } : Room) s m #[(.ref b)] below meth c_ s₁ [] 0 0 := Stand.of_body Bd
  have e0 : s₁.heap = h0 := by rw [← hh, Bd.state]; rfl
  have N0 := Fr.nil n0
  show Go p e below (RetG s (Q_ulen_2 Z b kb c0 c1 h0 n0) 0 0) (s₁.setTop (entryFrame m #[(.ref b)] 1))
  rw [show entryFrame m #[(.ref b)] 1 = mkF m 0 #[.val (.ref b)] [] from by first | (simp [entryFrame, mkF, argsToLocals, Value.category]; done) | rfl]
  refine g_aloadN X0 hx hby d23_0 rfl rfl ?_
  refine g_arraylength X0 hx hby hZ e0 VB d23_1 ?_
  refine g_iconst X0 hx hby (1 : Int32) d23_2 rfl ?_
  refine g_ishr X0 hx hby d23_3 ?_
  refine g_topI (2 : Int32) (by decide) ?_
  refine g_iret X0 hx hby Bd.returns Bd.notSynchronized d23_4 e0 (by decide) (by decide) ?_
  show (Q_ulen_2 Z b kb c0 c1 h0 n0) (some (.int (2 : Int32))) _ _
  exact ⟨rfl, N0, rfl⟩

def Q_uchk_2_0 (Z : State) (b : Addr) (kb : ClassId) (c0 : Int32) (c1 : Int32) (fz : Value) (h0 : Heap) (n0 : Nat) (v : Option Value) (h : Heap) (L : List Loc) : Prop := v = none ∧ Fr n0 L ∧ h = h0
set_option maxRecDepth 65536 in
set_option maxHeartbeats 40000000 in
theorem rm_uchk_2_0 (l : Launch) (Z : State) (a0 : Array Value) (hw : ∀ d ∈ tables_1, d.before a0 Z = true) (ws : List Jvm.Cond) (b : Addr) (kb : ClassId) (c0 : Int32) (c1 : Int32) (fz : Value) (h0 : Heap) (n0 : Nat) (Z0 : n0 ≤ h0.size) (VB : Arv Z h0 b kb .byte (4 : Int32) [(.int (own_lob c0)), (.int (own_hib c0)), (.int (own_lob c1)), (.int (own_hib c1))] (.int (0 : Int32))) (OLD : Old Z n0 h0) (rfz : Rf fz) (O4 : Sta Z Z.heap "jdk/internal/util/Preconditions" "SIOOBE_FORMATTER" "Ljava/util/function/BiFunction;" fz) :
    MetFree l (⟨"java/lang/StringUTF16", "checkIndex", "(I[B)V"⟩ : MethodName) (head1 (Jvm.Cond.code (⟨"java/lang/StringUTF16", "checkIndex", "(I[B)V"⟩ : MethodName) jdk_52_method_91_code 2 none :: ws) ({ frames := 2, cells := 0, slots := 0, locals := 27 } : Room)) (fun aa_ U => aa_ = #[(.int (0 : Int32)), (.ref b)] ∧ Z.Warmed39 U.vm ∧ U.heap = h0) (fun _ _ _ _ _ => True) (fun _ U o_ U' => RetG U (Q_uchk_2_0 Z b kb c0 c1 fz h0 n0) 0 0 U' o_) := by
  refine MetFree.of_bodySF (plainFor_of_name own_pn3) hisR ?_
  intro p e s m args below meth c_ s₁ Bd hml0 hP hK
  obtain ⟨rfl, hZ, hh⟩ := hP
  have hx := Bd.exec
  have hby := Bd.bytes
  have hml : c_.maxLocals = 2 := hml0
  have hown : s.vm.findClass "java/lang/StringUTF16" = some m.cls := findClass_of_methodNamed Bd.named
  have hnm := (name_of_methodNamed Bd.named Bd.method).1
  have X0 : Stand p l e ({ frames := 2, cells := 0, slots := 0, locals := 27 } : Room) s m #[(.int (0 : Int32)), (.ref b)] below meth c_ s₁ [] 0 0 := Stand.of_body Bd
  have e0 : s₁.heap = h0 := by rw [← hh, Bd.state]; rfl
  have N0 := Fr.nil n0
  have w3_ := hw _ (List.mem_of_getElem? (i := 3) rfl)
  have w39_ := hw _ (List.mem_of_getElem? (i := 39) rfl)
  have w66_ := hw _ (List.mem_of_getElem? (i := 66) rfl)
  have w67_ := hw _ (List.mem_of_getElem? (i := 67) rfl)
  have w98_ := hw _ (List.mem_of_getElem? (i := 98) rfl)
  have w99_ := hw _ (List.mem_of_getElem? (i := 99) rfl)
  have w100_ := hw _ (List.mem_of_getElem? (i := 100) rfl)
  have w101_ := hw _ (List.mem_of_getElem? (i := 101) rfl)
  show Go p e below (RetG s (Q_uchk_2_0 Z b kb c0 c1 fz h0 n0) 0 0) (s₁.setTop (entryFrame m #[(.int (0 : Int32)), (.ref b)] 2))
  rw [show entryFrame m #[(.int (0 : Int32)), (.ref b)] 2 = mkF m 0 #[.val (.int (0 : Int32)), .val (.ref b)] [] from by first | (simp [entryFrame, mkF, argsToLocals, Value.category]; done) | rfl]
  refine g_iloadN X0 hx hby d22_0 rfl ?_
  refine g_aloadN X0 hx hby d22_1 rfl rfl ?_
  refine g_static X0 hx hby hZ hown (rm_ulen_2 l Z a0 hw [] b kb c0 c1 h0 n0 Z0 VB) w98_ w99_ w39_ w100_ (by decide) e0 (by rw [hml]; rfl) [(.ref b)] (lenOf own_pd14 rfl) rfl rfl (Nat.le_of_ble_eq_true rfl) (Nat.le_of_ble_eq_true rfl) (Nat.le_of_ble_eq_true rfl) (Nat.le_of_ble_eq_true rfl) d22_2 (fun v1 T1 L1 X1 hQ1 => ?_)
  obtain ⟨rfl, N1q, eh1⟩ := hQ1
  have N1 := Fr.app N0 N1q
  refine g_static X1 hx hby hZ hown (rm_schk l Z a0 hw [] (0 : Int32) (2 : Int32) fz h0 n0 Z0 ⟨by decide, by decide⟩ rfz O4 OLD) w101_ w66_ w3_ w67_ (by decide) eh1 (by rw [hml]; rfl) [(.int (0 : Int32)), (.int (2 : Int32))] (lenOf own_pd15 rfl) rfl rfl (Nat.le_of_ble_eq_true rfl) (Nat.le_of_ble_eq_true rfl) (Nat.le_of_ble_eq_true rfl) (Nat.le_of_ble_eq_true rfl) d22_5 (fun v2 T2 L2 X2 hQ2 => ?_)
  obtain ⟨rfl, N2q, eh2⟩ := hQ2
  have N2 := Fr.app N1 N2q
  refine g_ret X2 hx hby Bd.returns Bd.notSynchronized d22_8 eh2 (by decide) (by decide) ?_
  show (Q_uchk_2_0 Z b kb c0 c1 fz h0 n0) none _ _
  exact ⟨rfl, N2, rfl⟩

def Q_uchar_2_0 (Z : State) (b : Addr) (kb : ClassId) (c0 : Int32) (c1 : Int32) (fz : Value) (h0 : Heap) (n0 : Nat) (v : Option Value) (h : Heap) (L : List Loc) : Prop := v = some (.int c0) ∧ Fr n0 L ∧ h = h0
set_option maxRecDepth 65536 in
set_option maxHeartbeats 40000000 in
theorem rm_uchar_2_0 (l : Launch) (Z : State) (a0 : Array Value) (hw : ∀ d ∈ tables_1, d.before a0 Z = true) (ws : List Jvm.Cond) (b : Addr) (kb : ClassId) (c0 : Int32) (c1 : Int32) (fz : Value) (h0 : Heap) (n0 : Nat) (Z0 : n0 ≤ h0.size) (Uad : Sta Z Z.heap "java/lang/StringUTF16" "$assertionsDisabled" "Z" (.int (1 : Int32))) (Uhi : Sta Z Z.heap "java/lang/StringUTF16" "HI_BYTE_SHIFT" "I" (.int (0 : Int32))) (Ulo : Sta Z Z.heap "java/lang/StringUTF16" "LO_BYTE_SHIFT" "I" (.int (8 : Int32))) (VB : Arv Z h0 b kb .byte (4 : Int32) [(.int (own_lob c0)), (.int (own_hib c0)), (.int (own_lob c1)), (.int (own_hib c1))] (.int (0 : Int32))) (OLD : Old Z n0 h0) (rfz : Rf fz) (O4 : Sta Z Z.heap "jdk/internal/util/Preconditions" "SIOOBE_FORMATTER" "Ljava/util/function/BiFunction;" fz) (hr : 0 ≤ c0.toInt ∧ c0.toInt < 65536) :
    MetFree l (⟨"java/lang/StringUTF16", "charAt", "([BI)C"⟩ : MethodName) (head1 (Jvm.Cond.code (⟨"java/lang/StringUTF16", "charAt", "([BI)C"⟩ : MethodName) jdk_52_method_83_code 2 (some .char) :: ws) ({ frames := 3, cells := 0, slots := 0, locals := 40 } : Room)) (fun aa_ U => aa_ = #[(.ref b), (.int (0 : Int32))] ∧ Z.Warmed39 U.vm ∧ U.heap = h0) (fun _ _ _ _ _ => True) (fun _ U o_ U' => RetG U (Q_uchar_2_0 Z b kb c0 c1 fz h0 n0) 0 0 U' o_) := by
  refine MetFree.of_bodySF (plainFor_of_name own_pn3) hisR ?_
  intro p e s m args below meth c_ s₁ Bd hml0 hP hK
  obtain ⟨rfl, hZ, hh⟩ := hP
  have hx := Bd.exec
  have hby := Bd.bytes
  have hml : c_.maxLocals = 2 := hml0
  have hown : s.vm.findClass "java/lang/StringUTF16" = some m.cls := findClass_of_methodNamed Bd.named
  have hnm := (name_of_methodNamed Bd.named Bd.method).1
  have X0 : Stand p l e ({ frames := 3, cells := 0, slots := 0, locals := 40 } : Room) s m #[(.ref b), (.int (0 : Int32))] below meth c_ s₁ [] 0 0 := Stand.of_body Bd
  have e0 : s₁.heap = h0 := by rw [← hh, Bd.state]; rfl
  have N0 := Fr.nil n0
  have w39_ := hw _ (List.mem_of_getElem? (i := 39) rfl)
  have w89_ := hw _ (List.mem_of_getElem? (i := 89) rfl)
  have w90_ := hw _ (List.mem_of_getElem? (i := 90) rfl)
  have w91_ := hw _ (List.mem_of_getElem? (i := 91) rfl)
  have w95_ := hw _ (List.mem_of_getElem? (i := 95) rfl)
  have w96_ := hw _ (List.mem_of_getElem? (i := 96) rfl)
  have w97_ := hw _ (List.mem_of_getElem? (i := 97) rfl)
  show Go p e below (RetG s (Q_uchar_2_0 Z b kb c0 c1 fz h0 n0) 0 0) (s₁.setTop (entryFrame m #[(.ref b), (.int (0 : Int32))] 2))
  rw [show entryFrame m #[(.ref b), (.int (0 : Int32))] 2 = mkF m 0 #[.val (.ref b), .val (.int (0 : Int32))] [] from by first | (simp [entryFrame, mkF, argsToLocals, Value.category]; done) | rfl]
  refine g_iloadN X0 hx hby d21_0 rfl ?_
  refine g_aloadN X0 hx hby d21_1 rfl rfl ?_
  refine g_static X0 hx hby hZ hown (rm_uchk_2_0 l Z a0 hw [] b kb c0 c1 fz h0 n0 Z0 VB OLD rfz O4) w95_ w96_ w39_ w97_ (by decide) e0 (by rw [hml]; rfl) [(.int (0 : Int32)), (.ref b)] (lenOf own_pd16 rfl) rfl rfl (Nat.le_of_ble_eq_true rfl) (Nat.le_of_ble_eq_true rfl) (Nat.le_of_ble_eq_true rfl) (Nat.le_of_ble_eq_true rfl) d21_2 (fun v1 T1 L1 X1 hQ1 => ?_)
  obtain ⟨rfl, N1q, eh1⟩ := hQ1
  have N1 := Fr.app N0 N1q
  refine g_aloadN X1 hx hby d21_5 rfl rfl ?_
  refine g_iloadN X1 hx hby d21_6 rfl ?_
  refine g_static X1 hx hby hZ hown (rm_getc_2_0 l Z a0 hw [] b kb (own_lob c0) (own_hib c0) (own_lob c1) (own_hib c1) h0 n0 Z0 Uad Uhi Ulo OLD VB) w89_ w90_ w39_ w91_ (by decide) eh1 (by rw [hml]; rfl) [(.ref b), (.int (0 : Int32))] (lenOf own_pd10 rfl) rfl rfl (Nat.le_of_ble_eq_true rfl) (Nat.le_of_ble_eq_true rfl) (Nat.le_of_ble_eq_true rfl) (Nat.le_of_ble_eq_true rfl) d21_7 (fun v2 T2 L2 X2 hQ2 => ?_)
  obtain ⟨rfl, N2q, eh2⟩ := hQ2
  have N2 := Fr.app N1 N2q
  refine g_topI (T := T2) c0 (own_u16 hr) ?_
  refine g_nret X2 hx hby (t := .char) (by simp) Bd.returns Bd.notSynchronized d21_10 eh2 (by decide) (by decide) ?_
  show (Q_uchar_2_0 Z b kb c0 c1 fz h0 n0) (some (.int (nar .char c0))) _ _
  exact ⟨by rw [own_nc16 hr], N2, rfl⟩

def Q_schar16_2_0 (Z : State) (a : Addr) (b : Addr) (kb : ClassId) (c0 : Int32) (c1 : Int32) (fz : Value) (cz : Int32) (h0 : Heap) (n0 : Nat) (v : Option Value) (h : Heap) (L : List Loc) : Prop := v = some (.int c0) ∧ Fr n0 L ∧ h = h0
set_option maxRecDepth 65536 in
set_option maxHeartbeats 40000000 in
theorem rm_schar16_2_0 (l : Launch) (Z : State) (a0 : Array Value) (hw : ∀ d ∈ tables_1, d.before a0 Z = true) (ws : List Jvm.Cond) (a : Addr) (b : Addr) (kb : ClassId) (c0 : Int32) (c1 : Int32) (fz : Value) (cz : Int32) (h0 : Heap) (n0 : Nat) (Z0 : n0 ≤ h0.size) (O2 : Sta Z Z.heap "java/lang/String" "COMPACT_STRINGS" "Z" (.int cz)) (P5 : ¬ cz = (0 : Int32)) (OLD : Old Z n0 h0) (Uad : Sta Z Z.heap "java/lang/StringUTF16" "$assertionsDisabled" "Z" (.int (1 : Int32))) (Uhi : Sta Z Z.heap "java/lang/StringUTF16" "HI_BYTE_SHIFT" "I" (.int (0 : Int32))) (Ulo : Sta Z Z.heap "java/lang/StringUTF16" "LO_BYTE_SHIFT" "I" (.int (8 : Int32))) (E : Exa Z h0 a "java/lang/String") (C : Fld Z h0 a "java/lang/String" "coder" "B" (.int (1 : Int32))) (VF : Fld Z h0 a "java/lang/String" "value" "[B" (.ref b)) (VB : Arv Z h0 b kb .byte (4 : Int32) [(.int (own_lob c0)), (.int (own_hib c0)), (.int (own_lob c1)), (.int (own_hib c1))] (.int (0 : Int32))) (rfz : Rf fz) (O4 : Sta Z Z.heap "jdk/internal/util/Preconditions" "SIOOBE_FORMATTER" "Ljava/util/function/BiFunction;" fz) (hr : 0 ≤ c0.toInt ∧ c0.toInt < 65536) :
    MetFree l (⟨"java/lang/String", "charAt", "(I)C"⟩ : MethodName) (head1 (Jvm.Cond.code (⟨"java/lang/String", "charAt", "(I)C"⟩ : MethodName) jdk_42_method_56_code 2 (some .char) :: ws) ({ frames := 4, cells := 0, slots := 0, locals := 53 } : Room)) (fun aa_ U => aa_ = #[(.ref a), (.int (0 : Int32))] ∧ Z.Warmed39 U.vm ∧ U.heap = h0) (fun _ _ _ _ _ => True) (fun _ U o_ U' => RetG U (Q_schar16_2_0 Z a b kb c0 c1 fz cz h0 n0) 0 0 U' o_) := by
  refine MetFree.of_bodySF (plainFor_of_name own_pn1) hisR ?_
  intro p e s m args below meth c_ s₁ Bd hml0 hP hK
  obtain ⟨rfl, hZ, hh⟩ := hP
  have hx := Bd.exec
  have hby := Bd.bytes
  have hml : c_.maxLocals = 2 := hml0
  have hown : s.vm.findClass "java/lang/String" = some m.cls := findClass_of_methodNamed Bd.named
  have hnm := (name_of_methodNamed Bd.named Bd.method).1
  have X0 : Stand p l e ({ frames := 4, cells := 0, slots := 0, locals := 53 } : Room) s m #[(.ref a), (.int (0 : Int32))] below meth c_ s₁ [] 0 0 := Stand.of_body Bd
  have e0 : s₁.heap = h0 := by rw [← hh, Bd.state]; rfl
  have N0 := Fr.nil n0
  have w3_ := hw _ (List.mem_of_getElem? (i := 3) rfl)
  have w20_ := hw _ (List.mem_of_getElem? (i := 20) rfl)
  have w39_ := hw _ (List.mem_of_getElem? (i := 39) rfl)
  have w56_ := hw _ (List.mem_of_getElem? (i := 56) rfl)
  have w57_ := hw _ (List.mem_of_getElem? (i := 57) rfl)
  have w58_ := hw _ (List.mem_of_getElem? (i := 58) rfl)
  have w59_ := hw _ (List.mem_of_getElem? (i := 59) rfl)
  have w60_ := hw _ (List.mem_of_getElem? (i := 60) rfl)
  have w92_ := hw _ (List.mem_of_getElem? (i := 92) rfl)
  have w93_ := hw _ (List.mem_of_getElem? (i := 93) rfl)
  have w94_ := hw _ (List.mem_of_getElem? (i := 94) rfl)
  show Go p e below (RetG s (Q_schar16_2_0 Z a b kb c0 c1 fz cz h0 n0) 0 0) (s₁.setTop (entryFrame m #[(.ref a), (.int (0 : Int32))] 2))
  rw [show entryFrame m #[(.ref a), (.int (0 : Int32))] 2 = mkF m 0 #[.val (.ref a), .val (.int (0 : Int32))] [] from by first | (simp [entryFrame, mkF, argsToLocals, Value.category]; done) | rfl]
  refine g_aloadN X0 hx hby d11_0 rfl rfl ?_
  refine g_virtual X0 hx hby hZ hown (rm_islat16 l Z a0 hw [] a cz h0 n0 Z0 O2 P5 OLD C) w56_ w57_ (notFace_of_selects (args := #[]) (mvT hZ w59_)) w59_ w58_ w3_ w60_ (by decide) e0 E (by rw [hml]; rfl) [] (lenOf own_pd17 rfl) rfl rfl (Nat.le_of_ble_eq_true rfl) (Nat.le_of_ble_eq_true rfl) (Nat.le_of_ble_eq_true rfl) (Nat.le_of_ble_eq_true rfl) d11_1 (fun v1 T1 L1 X1 hQ1 => ?_)
  obtain ⟨rfl, N1q, eh1⟩ := hQ1
  have N1 := Fr.app N0 N1q
  refine g_ifY X1 hx hby 16 d11_4 (teq (by decide : (0 : Int32) = (0 : Int32))).1 (by decide) (by decide) ?_
  refine g_aloadN X1 hx hby d11_16 rfl rfl ?_
  refine g_getF X1 hx hby hZ hown (host := "") (Or.inl w20_) Via.refl eh1 VF d11_17 (fun T2 X2 e2 => ?_)
  refine g_iloadN X2 hx hby d11_20 rfl ?_
  refine g_static X2 hx hby hZ hown (rm_uchar_2_0 l Z a0 hw [] b kb c0 c1 fz h0 n0 Z0 Uad Uhi Ulo VB OLD rfz O4 hr) w92_ w93_ w39_ w94_ (by decide) e2 (by rw [hml]; rfl) [(.ref b), (.int (0 : Int32))] (lenOf own_pd10 rfl) rfl rfl (Nat.le_of_ble_eq_true rfl) (Nat.le_of_ble_eq_true rfl) (Nat.le_of_ble_eq_true rfl) (Nat.le_of_ble_eq_true rfl) d11_21 (fun v3 T3 L3 X3 hQ3 => ?_)
  obtain ⟨rfl, N3q, eh3⟩ := hQ3
  have N3 := Fr.app N1 N3q
  refine g_nret X3 hx hby (t := .char) (by simp) Bd.returns Bd.notSynchronized d11_24 eh3 (by decide) (by decide) ?_
  show (Q_schar16_2_0 Z a b kb c0 c1 fz cz h0 n0) (some (.int (nar .char c0))) _ _
  exact ⟨by rw [own_nc16 hr], N3, rfl⟩

def Q_getc_2_1 (Z : State) (b : Addr) (kb : ClassId) (v0 : Int32) (v1 : Int32) (v2 : Int32) (v3 : Int32) (h0 : Heap) (n0 : Nat) (v : Option Value) (h : Heap) (L : List Loc) : Prop := v = some (.int (nar .char (own_u16e v2 v3))) ∧ Fr n0 L ∧ h = h0
set_option maxRecDepth 65536 in
set_option maxHeartbeats 40000000 in
theorem rm_getc_2_1 (l : Launch) (Z : State) (a0 : Array Value) (hw : ∀ d ∈ tables_1, d.before a0 Z = true) (ws : List Jvm.Cond) (b : Addr) (kb : ClassId) (v0 : Int32) (v1 : Int32) (v2 : Int32) (v3 : Int32) (h0 : Heap) (n0 : Nat) (Z0 : n0 ≤ h0.size) (Uad : Sta Z Z.heap "java/lang/StringUTF16" "$assertionsDisabled" "Z" (.int (1 : Int32))) (Uhi : Sta Z Z.heap "java/lang/StringUTF16" "HI_BYTE_SHIFT" "I" (.int (0 : Int32))) (Ulo : Sta Z Z.heap "java/lang/StringUTF16" "LO_BYTE_SHIFT" "I" (.int (8 : Int32))) (OLD : Old Z n0 h0) (VB : Arv Z h0 b kb .byte (4 : Int32) [(.int v0), (.int v1), (.int v2), (.int v3)] (.int (0 : Int32))) :
    MetFree l (⟨"java/lang/StringUTF16", "getChar", "([BI)C"⟩ : MethodName) (head1 (Jvm.Cond.code (⟨"java/lang/StringUTF16", "getChar", "([BI)C"⟩ : MethodName) jdk_52_method_5_code 2 (some .char) :: ws) ({ frames := 0, cells := 0, slots := 0, locals := 0 } : Room)) (fun aa_ U => aa_ = #[(.ref b), (.int (1 : Int32))] ∧ Z.Warmed39 U.vm ∧ U.heap = h0) (fun _ _ _ _ _ => True) (fun _ U o_ U' => RetG U (Q_getc_2_1 Z b kb v0 v1 v2 v3 h0 n0) 0 0 U' o_) := by
  refine MetFree.of_bodySF (plainFor_of_name own_pn3) hisR ?_
  intro p e s m args below meth c_ s₁ Bd hml0 hP hK
  obtain ⟨rfl, hZ, hh⟩ := hP
  have hx := Bd.exec
  have hby := Bd.bytes
  have hml : c_.maxLocals = 2 := hml0
  have hown : s.vm.findClass "java/lang/StringUTF16" = some m.cls := findClass_of_methodNamed Bd.named
  have hnm := (name_of_methodNamed Bd.named Bd.method).1
  have X0 : Stand p l e ({ frames := 0, cells := 0, slots := 0, locals := 0 } : Room) s m #[(.ref b), (.int (1 : Int32))] below meth c_ s₁ [] 0 0 := Stand.of_body Bd
  have e0 : s₁.heap = h0 := by rw [← hh, Bd.state]; rfl
  have N0 := Fr.nil n0
  have w86_ := hw _ (List.mem_of_getElem? (i := 86) rfl)
  have w87_ := hw _ (List.mem_of_getElem? (i := 87) rfl)
  have w88_ := hw _ (List.mem_of_getElem? (i := 88) rfl)
  show Go p e below (RetG s (Q_getc_2_1 Z b kb v0 v1 v2 v3 h0 n0) 0 0) (s₁.setTop (entryFrame m #[(.ref b), (.int (1 : Int32))] 2))
  rw [show entryFrame m #[(.ref b), (.int (1 : Int32))] 2 = mkF m 0 #[.val (.ref b), .val (.int (1 : Int32))] [] from by first | (simp [entryFrame, mkF, argsToLocals, Value.category]; done) | rfl]
  refine g_getS X0 hx hby hZ hown (host := "") (Or.inl w86_) Via.refl e0 (Uad.ext OLD.2) d20_0 (fun T1 X1 e1 => ?_)
  refine g_ifY X1 hx hby 28 d20_3 (feq (by decide : ¬ ((1 : Int32) = (0 : Int32)))).2 (by decide) (by decide) ?_
  refine g_iloadN X1 hx hby d20_28 rfl ?_
  refine g_iconst X1 hx hby (1 : Int32) d20_29 rfl ?_
  refine g_ishl X1 hx hby d20_30 ?_
  refine g_topI (2 : Int32) (by decide) ?_
  refine g_istoreN X1 hx hby d20_31 (l' := #[.val (.ref b), .val (.int (2 : Int32))]) rfl ?_
  refine g_aloadN X1 hx hby d20_32 rfl rfl ?_
  refine g_iloadN X1 hx hby d20_33 rfl ?_
  refine g_iinc X1 hx hby (3 : Int32) d20_34 rfl (by decide) (l' := #[.val (.ref b), .val (.int (3 : Int32))]) rfl ?_
  refine g_baload X1 hx hby hZ e1 VB (.int v2) ⟨by decide, by decide⟩ rfl d20_37 ?_
  refine g_sipush X1 hx hby (255 : Int32) d20_38 rfl ?_
  refine g_iand X1 hx hby d20_41 ?_
  refine g_getS X1 hx hby hZ hown (host := "") (Or.inl w87_) Via.refl e1 (Uhi.ext OLD.2) d20_42 (fun T2 X2 e2 => ?_)
  refine g_ishl X2 hx hby d20_45 ?_
  refine g_aloadN X2 hx hby d20_46 rfl rfl ?_
  refine g_iloadN X2 hx hby d20_47 rfl ?_
  refine g_baload X2 hx hby hZ e2 VB (.int v3) ⟨by decide, by decide⟩ rfl d20_48 ?_
  refine g_sipush X2 hx hby (255 : Int32) d20_49 rfl ?_
  refine g_iand X2 hx hby d20_52 ?_
  refine g_getS X2 hx hby hZ hown (host := "") (Or.inl w88_) Via.refl e2 (Ulo.ext OLD.2) d20_53 (fun T3 X3 e3 => ?_)
  refine g_ishl X3 hx hby d20_56 ?_
  refine g_ior X3 hx hby d20_57 ?_
  refine g_i2c X3 hx hby d20_58 ?_
  refine g_nret X3 hx hby (t := .char) (by simp) Bd.returns Bd.notSynchronized d20_59 e3 (by decide) (by decide) ?_
  show (Q_getc_2_1 Z b kb v0 v1 v2 v3 h0 n0) (some (.int (nar .char ((((v2 &&& (255 : Int32)) <<< ((0 : Int32) &&& 31)) ||| ((v3 &&& (255 : Int32)) <<< ((8 : Int32) &&& 31))).toUInt32.toUInt16.toUInt32.toInt32)))) _ _
  exact ⟨rfl, N0, rfl⟩

def Q_uchk_2_1 (Z : State) (b : Addr) (kb : ClassId) (c0 : Int32) (c1 : Int32) (fz : Value) (h0 : Heap) (n0 : Nat) (v : Option Value) (h : Heap) (L : List Loc) : Prop := v = none ∧ Fr n0 L ∧ h = h0
set_option maxRecDepth 65536 in
set_option maxHeartbeats 40000000 in
theorem rm_uchk_2_1 (l : Launch) (Z : State) (a0 : Array Value) (hw : ∀ d ∈ tables_1, d.before a0 Z = true) (ws : List Jvm.Cond) (b : Addr) (kb : ClassId) (c0 : Int32) (c1 : Int32) (fz : Value) (h0 : Heap) (n0 : Nat) (Z0 : n0 ≤ h0.size) (VB : Arv Z h0 b kb .byte (4 : Int32) [(.int (own_lob c0)), (.int (own_hib c0)), (.int (own_lob c1)), (.int (own_hib c1))] (.int (0 : Int32))) (OLD : Old Z n0 h0) (rfz : Rf fz) (O4 : Sta Z Z.heap "jdk/internal/util/Preconditions" "SIOOBE_FORMATTER" "Ljava/util/function/BiFunction;" fz) :
    MetFree l (⟨"java/lang/StringUTF16", "checkIndex", "(I[B)V"⟩ : MethodName) (head1 (Jvm.Cond.code (⟨"java/lang/StringUTF16", "checkIndex", "(I[B)V"⟩ : MethodName) jdk_52_method_91_code 2 none :: ws) ({ frames := 2, cells := 0, slots := 0, locals := 27 } : Room)) (fun aa_ U => aa_ = #[(.int (1 : Int32)), (.ref b)] ∧ Z.Warmed39 U.vm ∧ U.heap = h0) (fun _ _ _ _ _ => True) (fun _ U o_ U' => RetG U (Q_uchk_2_1 Z b kb c0 c1 fz h0 n0) 0 0 U' o_) := by
  refine MetFree.of_bodySF (plainFor_of_name own_pn3) hisR ?_
  intro p e s m args below meth c_ s₁ Bd hml0 hP hK
  obtain ⟨rfl, hZ, hh⟩ := hP
  have hx := Bd.exec
  have hby := Bd.bytes
  have hml : c_.maxLocals = 2 := hml0
  have hown : s.vm.findClass "java/lang/StringUTF16" = some m.cls := findClass_of_methodNamed Bd.named
  have hnm := (name_of_methodNamed Bd.named Bd.method).1
  have X0 : Stand p l e ({ frames := 2, cells := 0, slots := 0, locals := 27 } : Room) s m #[(.int (1 : Int32)), (.ref b)] below meth c_ s₁ [] 0 0 := Stand.of_body Bd
  have e0 : s₁.heap = h0 := by rw [← hh, Bd.state]; rfl
  have N0 := Fr.nil n0
  have w3_ := hw _ (List.mem_of_getElem? (i := 3) rfl)
  have w39_ := hw _ (List.mem_of_getElem? (i := 39) rfl)
  have w66_ := hw _ (List.mem_of_getElem? (i := 66) rfl)
  have w67_ := hw _ (List.mem_of_getElem? (i := 67) rfl)
  have w98_ := hw _ (List.mem_of_getElem? (i := 98) rfl)
  have w99_ := hw _ (List.mem_of_getElem? (i := 99) rfl)
  have w100_ := hw _ (List.mem_of_getElem? (i := 100) rfl)
  have w101_ := hw _ (List.mem_of_getElem? (i := 101) rfl)
  show Go p e below (RetG s (Q_uchk_2_1 Z b kb c0 c1 fz h0 n0) 0 0) (s₁.setTop (entryFrame m #[(.int (1 : Int32)), (.ref b)] 2))
  rw [show entryFrame m #[(.int (1 : Int32)), (.ref b)] 2 = mkF m 0 #[.val (.int (1 : Int32)), .val (.ref b)] [] from by first | (simp [entryFrame, mkF, argsToLocals, Value.category]; done) | rfl]
  refine g_iloadN X0 hx hby d22_0 rfl ?_
  refine g_aloadN X0 hx hby d22_1 rfl rfl ?_
  refine g_static X0 hx hby hZ hown (rm_ulen_2 l Z a0 hw [] b kb c0 c1 h0 n0 Z0 VB) w98_ w99_ w39_ w100_ (by decide) e0 (by rw [hml]; rfl) [(.ref b)] (lenOf own_pd14 rfl) rfl rfl (Nat.le_of_ble_eq_true rfl) (Nat.le_of_ble_eq_true rfl) (Nat.le_of_ble_eq_true rfl) (Nat.le_of_ble_eq_true rfl) d22_2 (fun v1 T1 L1 X1 hQ1 => ?_)
  obtain ⟨rfl, N1q, eh1⟩ := hQ1
  have N1 := Fr.app N0 N1q
  refine g_static X1 hx hby hZ hown (rm_schk l Z a0 hw [] (1 : Int32) (2 : Int32) fz h0 n0 Z0 ⟨by decide, by decide⟩ rfz O4 OLD) w101_ w66_ w3_ w67_ (by decide) eh1 (by rw [hml]; rfl) [(.int (1 : Int32)), (.int (2 : Int32))] (lenOf own_pd15 rfl) rfl rfl (Nat.le_of_ble_eq_true rfl) (Nat.le_of_ble_eq_true rfl) (Nat.le_of_ble_eq_true rfl) (Nat.le_of_ble_eq_true rfl) d22_5 (fun v2 T2 L2 X2 hQ2 => ?_)
  obtain ⟨rfl, N2q, eh2⟩ := hQ2
  have N2 := Fr.app N1 N2q
  refine g_ret X2 hx hby Bd.returns Bd.notSynchronized d22_8 eh2 (by decide) (by decide) ?_
  show (Q_uchk_2_1 Z b kb c0 c1 fz h0 n0) none _ _
  exact ⟨rfl, N2, rfl⟩

def Q_uchar_2_1 (Z : State) (b : Addr) (kb : ClassId) (c0 : Int32) (c1 : Int32) (fz : Value) (h0 : Heap) (n0 : Nat) (v : Option Value) (h : Heap) (L : List Loc) : Prop := v = some (.int c1) ∧ Fr n0 L ∧ h = h0
set_option maxRecDepth 65536 in
set_option maxHeartbeats 40000000 in
theorem rm_uchar_2_1 (l : Launch) (Z : State) (a0 : Array Value) (hw : ∀ d ∈ tables_1, d.before a0 Z = true) (ws : List Jvm.Cond) (b : Addr) (kb : ClassId) (c0 : Int32) (c1 : Int32) (fz : Value) (h0 : Heap) (n0 : Nat) (Z0 : n0 ≤ h0.size) (Uad : Sta Z Z.heap "java/lang/StringUTF16" "$assertionsDisabled" "Z" (.int (1 : Int32))) (Uhi : Sta Z Z.heap "java/lang/StringUTF16" "HI_BYTE_SHIFT" "I" (.int (0 : Int32))) (Ulo : Sta Z Z.heap "java/lang/StringUTF16" "LO_BYTE_SHIFT" "I" (.int (8 : Int32))) (VB : Arv Z h0 b kb .byte (4 : Int32) [(.int (own_lob c0)), (.int (own_hib c0)), (.int (own_lob c1)), (.int (own_hib c1))] (.int (0 : Int32))) (OLD : Old Z n0 h0) (rfz : Rf fz) (O4 : Sta Z Z.heap "jdk/internal/util/Preconditions" "SIOOBE_FORMATTER" "Ljava/util/function/BiFunction;" fz) (hr : 0 ≤ c1.toInt ∧ c1.toInt < 65536) :
    MetFree l (⟨"java/lang/StringUTF16", "charAt", "([BI)C"⟩ : MethodName) (head1 (Jvm.Cond.code (⟨"java/lang/StringUTF16", "charAt", "([BI)C"⟩ : MethodName) jdk_52_method_83_code 2 (some .char) :: ws) ({ frames := 3, cells := 0, slots := 0, locals := 40 } : Room)) (fun aa_ U => aa_ = #[(.ref b), (.int (1 : Int32))] ∧ Z.Warmed39 U.vm ∧ U.heap = h0) (fun _ _ _ _ _ => True) (fun _ U o_ U' => RetG U (Q_uchar_2_1 Z b kb c0 c1 fz h0 n0) 0 0 U' o_) := by
  refine MetFree.of_bodySF (plainFor_of_name own_pn3) hisR ?_
  intro p e s m args below meth c_ s₁ Bd hml0 hP hK
  obtain ⟨rfl, hZ, hh⟩ := hP
  have hx := Bd.exec
  have hby := Bd.bytes
  have hml : c_.maxLocals = 2 := hml0
  have hown : s.vm.findClass "java/lang/StringUTF16" = some m.cls := findClass_of_methodNamed Bd.named
  have hnm := (name_of_methodNamed Bd.named Bd.method).1
  have X0 : Stand p l e ({ frames := 3, cells := 0, slots := 0, locals := 40 } : Room) s m #[(.ref b), (.int (1 : Int32))] below meth c_ s₁ [] 0 0 := Stand.of_body Bd
  have e0 : s₁.heap = h0 := by rw [← hh, Bd.state]; rfl
  have N0 := Fr.nil n0
  have w39_ := hw _ (List.mem_of_getElem? (i := 39) rfl)
  have w89_ := hw _ (List.mem_of_getElem? (i := 89) rfl)
  have w90_ := hw _ (List.mem_of_getElem? (i := 90) rfl)
  have w91_ := hw _ (List.mem_of_getElem? (i := 91) rfl)
  have w95_ := hw _ (List.mem_of_getElem? (i := 95) rfl)
  have w96_ := hw _ (List.mem_of_getElem? (i := 96) rfl)
  have w97_ := hw _ (List.mem_of_getElem? (i := 97) rfl)
  show Go p e below (RetG s (Q_uchar_2_1 Z b kb c0 c1 fz h0 n0) 0 0) (s₁.setTop (entryFrame m #[(.ref b), (.int (1 : Int32))] 2))
  rw [show entryFrame m #[(.ref b), (.int (1 : Int32))] 2 = mkF m 0 #[.val (.ref b), .val (.int (1 : Int32))] [] from by first | (simp [entryFrame, mkF, argsToLocals, Value.category]; done) | rfl]
  refine g_iloadN X0 hx hby d21_0 rfl ?_
  refine g_aloadN X0 hx hby d21_1 rfl rfl ?_
  refine g_static X0 hx hby hZ hown (rm_uchk_2_1 l Z a0 hw [] b kb c0 c1 fz h0 n0 Z0 VB OLD rfz O4) w95_ w96_ w39_ w97_ (by decide) e0 (by rw [hml]; rfl) [(.int (1 : Int32)), (.ref b)] (lenOf own_pd16 rfl) rfl rfl (Nat.le_of_ble_eq_true rfl) (Nat.le_of_ble_eq_true rfl) (Nat.le_of_ble_eq_true rfl) (Nat.le_of_ble_eq_true rfl) d21_2 (fun v1 T1 L1 X1 hQ1 => ?_)
  obtain ⟨rfl, N1q, eh1⟩ := hQ1
  have N1 := Fr.app N0 N1q
  refine g_aloadN X1 hx hby d21_5 rfl rfl ?_
  refine g_iloadN X1 hx hby d21_6 rfl ?_
  refine g_static X1 hx hby hZ hown (rm_getc_2_1 l Z a0 hw [] b kb (own_lob c0) (own_hib c0) (own_lob c1) (own_hib c1) h0 n0 Z0 Uad Uhi Ulo OLD VB) w89_ w90_ w39_ w91_ (by decide) eh1 (by rw [hml]; rfl) [(.ref b), (.int (1 : Int32))] (lenOf own_pd10 rfl) rfl rfl (Nat.le_of_ble_eq_true rfl) (Nat.le_of_ble_eq_true rfl) (Nat.le_of_ble_eq_true rfl) (Nat.le_of_ble_eq_true rfl) d21_7 (fun v2 T2 L2 X2 hQ2 => ?_)
  obtain ⟨rfl, N2q, eh2⟩ := hQ2
  have N2 := Fr.app N1 N2q
  refine g_topI (T := T2) c1 (own_u16 hr) ?_
  refine g_nret X2 hx hby (t := .char) (by simp) Bd.returns Bd.notSynchronized d21_10 eh2 (by decide) (by decide) ?_
  show (Q_uchar_2_1 Z b kb c0 c1 fz h0 n0) (some (.int (nar .char c1))) _ _
  exact ⟨by rw [own_nc16 hr], N2, rfl⟩

def Q_schar16_2_1 (Z : State) (a : Addr) (b : Addr) (kb : ClassId) (c0 : Int32) (c1 : Int32) (fz : Value) (cz : Int32) (h0 : Heap) (n0 : Nat) (v : Option Value) (h : Heap) (L : List Loc) : Prop := v = some (.int c1) ∧ Fr n0 L ∧ h = h0
set_option maxRecDepth 65536 in
set_option maxHeartbeats 40000000 in
theorem rm_schar16_2_1 (l : Launch) (Z : State) (a0 : Array Value) (hw : ∀ d ∈ tables_1, d.before a0 Z = true) (ws : List Jvm.Cond) (a : Addr) (b : Addr) (kb : ClassId) (c0 : Int32) (c1 : Int32) (fz : Value) (cz : Int32) (h0 : Heap) (n0 : Nat) (Z0 : n0 ≤ h0.size) (O2 : Sta Z Z.heap "java/lang/String" "COMPACT_STRINGS" "Z" (.int cz)) (P5 : ¬ cz = (0 : Int32)) (OLD : Old Z n0 h0) (Uad : Sta Z Z.heap "java/lang/StringUTF16" "$assertionsDisabled" "Z" (.int (1 : Int32))) (Uhi : Sta Z Z.heap "java/lang/StringUTF16" "HI_BYTE_SHIFT" "I" (.int (0 : Int32))) (Ulo : Sta Z Z.heap "java/lang/StringUTF16" "LO_BYTE_SHIFT" "I" (.int (8 : Int32))) (E : Exa Z h0 a "java/lang/String") (C : Fld Z h0 a "java/lang/String" "coder" "B" (.int (1 : Int32))) (VF : Fld Z h0 a "java/lang/String" "value" "[B" (.ref b)) (VB : Arv Z h0 b kb .byte (4 : Int32) [(.int (own_lob c0)), (.int (own_hib c0)), (.int (own_lob c1)), (.int (own_hib c1))] (.int (0 : Int32))) (rfz : Rf fz) (O4 : Sta Z Z.heap "jdk/internal/util/Preconditions" "SIOOBE_FORMATTER" "Ljava/util/function/BiFunction;" fz) (hr : 0 ≤ c1.toInt ∧ c1.toInt < 65536) :
    MetFree l (⟨"java/lang/String", "charAt", "(I)C"⟩ : MethodName) (head1 (Jvm.Cond.code (⟨"java/lang/String", "charAt", "(I)C"⟩ : MethodName) jdk_42_method_56_code 2 (some .char) :: ws) ({ frames := 4, cells := 0, slots := 0, locals := 53 } : Room)) (fun aa_ U => aa_ = #[(.ref a), (.int (1 : Int32))] ∧ Z.Warmed39 U.vm ∧ U.heap = h0) (fun _ _ _ _ _ => True) (fun _ U o_ U' => RetG U (Q_schar16_2_1 Z a b kb c0 c1 fz cz h0 n0) 0 0 U' o_) := by
  refine MetFree.of_bodySF (plainFor_of_name own_pn1) hisR ?_
  intro p e s m args below meth c_ s₁ Bd hml0 hP hK
  obtain ⟨rfl, hZ, hh⟩ := hP
  have hx := Bd.exec
  have hby := Bd.bytes
  have hml : c_.maxLocals = 2 := hml0
  have hown : s.vm.findClass "java/lang/String" = some m.cls := findClass_of_methodNamed Bd.named
  have hnm := (name_of_methodNamed Bd.named Bd.method).1
  have X0 : Stand p l e ({ frames := 4, cells := 0, slots := 0, locals := 53 } : Room) s m #[(.ref a), (.int (1 : Int32))] below meth c_ s₁ [] 0 0 := Stand.of_body Bd
  have e0 : s₁.heap = h0 := by rw [← hh, Bd.state]; rfl
  have N0 := Fr.nil n0
  have w3_ := hw _ (List.mem_of_getElem? (i := 3) rfl)
  have w20_ := hw _ (List.mem_of_getElem? (i := 20) rfl)
  have w39_ := hw _ (List.mem_of_getElem? (i := 39) rfl)
  have w56_ := hw _ (List.mem_of_getElem? (i := 56) rfl)
  have w57_ := hw _ (List.mem_of_getElem? (i := 57) rfl)
  have w58_ := hw _ (List.mem_of_getElem? (i := 58) rfl)
  have w59_ := hw _ (List.mem_of_getElem? (i := 59) rfl)
  have w60_ := hw _ (List.mem_of_getElem? (i := 60) rfl)
  have w92_ := hw _ (List.mem_of_getElem? (i := 92) rfl)
  have w93_ := hw _ (List.mem_of_getElem? (i := 93) rfl)
  have w94_ := hw _ (List.mem_of_getElem? (i := 94) rfl)
  show Go p e below (RetG s (Q_schar16_2_1 Z a b kb c0 c1 fz cz h0 n0) 0 0) (s₁.setTop (entryFrame m #[(.ref a), (.int (1 : Int32))] 2))
  rw [show entryFrame m #[(.ref a), (.int (1 : Int32))] 2 = mkF m 0 #[.val (.ref a), .val (.int (1 : Int32))] [] from by first | (simp [entryFrame, mkF, argsToLocals, Value.category]; done) | rfl]
  refine g_aloadN X0 hx hby d11_0 rfl rfl ?_
  refine g_virtual X0 hx hby hZ hown (rm_islat16 l Z a0 hw [] a cz h0 n0 Z0 O2 P5 OLD C) w56_ w57_ (notFace_of_selects (args := #[]) (mvT hZ w59_)) w59_ w58_ w3_ w60_ (by decide) e0 E (by rw [hml]; rfl) [] (lenOf own_pd17 rfl) rfl rfl (Nat.le_of_ble_eq_true rfl) (Nat.le_of_ble_eq_true rfl) (Nat.le_of_ble_eq_true rfl) (Nat.le_of_ble_eq_true rfl) d11_1 (fun v1 T1 L1 X1 hQ1 => ?_)
  obtain ⟨rfl, N1q, eh1⟩ := hQ1
  have N1 := Fr.app N0 N1q
  refine g_ifY X1 hx hby 16 d11_4 (teq (by decide : (0 : Int32) = (0 : Int32))).1 (by decide) (by decide) ?_
  refine g_aloadN X1 hx hby d11_16 rfl rfl ?_
  refine g_getF X1 hx hby hZ hown (host := "") (Or.inl w20_) Via.refl eh1 VF d11_17 (fun T2 X2 e2 => ?_)
  refine g_iloadN X2 hx hby d11_20 rfl ?_
  refine g_static X2 hx hby hZ hown (rm_uchar_2_1 l Z a0 hw [] b kb c0 c1 fz h0 n0 Z0 Uad Uhi Ulo VB OLD rfz O4 hr) w92_ w93_ w39_ w94_ (by decide) e2 (by rw [hml]; rfl) [(.ref b), (.int (1 : Int32))] (lenOf own_pd10 rfl) rfl rfl (Nat.le_of_ble_eq_true rfl) (Nat.le_of_ble_eq_true rfl) (Nat.le_of_ble_eq_true rfl) (Nat.le_of_ble_eq_true rfl) d11_21 (fun v3 T3 L3 X3 hQ3 => ?_)
  obtain ⟨rfl, N3q, eh3⟩ := hQ3
  have N3 := Fr.app N1 N3q
  refine g_nret X3 hx hby (t := .char) (by simp) Bd.returns Bd.notSynchronized d11_24 eh3 (by decide) (by decide) ?_
  show (Q_schar16_2_1 Z a b kb c0 c1 fz cz h0 n0) (some (.int (nar .char c1))) _ _
  exact ⟨by rw [own_nc16 hr], N3, rfl⟩

def Q_fv_2u (Z : State) (a : Addr) (b : Addr) (kb : ClassId) (c0 : Int32) (c1 : Int32) (cz : Int32) (fz : Value) (h0 : Heap) (n0 : Nat) (v : Option Value) (h : Heap) (L : List Loc) : Prop := v = some (.int (own_fvs [c0, c1])) ∧ Fr n0 L ∧ h = h0
set_option maxRecDepth 65536 in
set_option maxHeartbeats 40000000 in
theorem rm_fv_2u (l : Launch) (Z : State) (a0 : Array Value) (hw : ∀ d ∈ tables_1, d.before a0 Z = true) (ws : List Jvm.Cond) (a : Addr) (b : Addr) (kb : ClassId) (c0 : Int32) (c1 : Int32) (cz : Int32) (fz : Value) (h0 : Heap) (n0 : Nat) (Z0 : n0 ≤ h0.size) (O2 : Sta Z Z.heap "java/lang/String" "COMPACT_STRINGS" "Z" (.int cz)) (P5 : ¬ cz = (0 : Int32)) (OLD : Old Z n0 h0) (Uad : Sta Z Z.heap "java/lang/StringUTF16" "$assertionsDisabled" "Z" (.int (1 : Int32))) (Uhi : Sta Z Z.heap "java/lang/StringUTF16" "HI_BYTE_SHIFT" "I" (.int (0 : Int32))) (Ulo : Sta Z Z.heap "java/lang/StringUTF16" "LO_BYTE_SHIFT" "I" (.int (8 : Int32))) (E : Exa Z h0 a "java/lang/String") (C : Fld Z h0 a "java/lang/String" "coder" "B" (.int (1 : Int32))) (VF : Fld Z h0 a "java/lang/String" "value" "[B" (.ref b)) (VB : Arv Z h0 b kb .byte (4 : Int32) [(.int (own_lob c0)), (.int (own_hib c0)), (.int (own_lob c1)), (.int (own_hib c1))] (.int (0 : Int32))) (rfz : Rf fz) (O4 : Sta Z Z.heap "jdk/internal/util/Preconditions" "SIOOBE_FORMATTER" "Ljava/util/function/BiFunction;" fz) (hr0 : 0 ≤ c0.toInt ∧ c0.toInt < 65536) (hr1 : 0 ≤ c1.toInt ∧ c1.toInt < 65536) :
    MetFree l (⟨"com/example/usher/usher/gateway/http/Http1Input", "isFieldValue", "(Ljava/lang/String;)Z"⟩ : MethodName) (head1 (Jvm.Cond.code (⟨"com/example/usher/usher/gateway/http/Http1Input", "isFieldValue", "(Ljava/lang/String;)Z"⟩ : MethodName) prog_2_method_17_code 3 (some .boolean) :: ws) ({ frames := 5, cells := 0, slots := 0, locals := 66 } : Room)) (fun aa_ U => aa_ = #[(.ref a)] ∧ Z.Warmed39 U.vm ∧ U.heap = h0) (fun _ _ _ _ _ => True) (fun _ U o_ U' => RetG U (Q_fv_2u Z a b kb c0 c1 cz fz h0 n0) 0 0 U' o_) := by
  refine MetFree.of_bodySF (plainFor_of_name own_pn2) hisR ?_
  intro p e s m args below meth c_ s₁ Bd hml0 hP hK
  obtain ⟨rfl, hZ, hh⟩ := hP
  have hx := Bd.exec
  have hby := Bd.bytes
  have hml : c_.maxLocals = 3 := hml0
  have hown : s.vm.findClass "com/example/usher/usher/gateway/http/Http1Input" = some m.cls := findClass_of_methodNamed Bd.named
  have hnm := (name_of_methodNamed Bd.named Bd.method).1
  have X0 : Stand p l e ({ frames := 5, cells := 0, slots := 0, locals := 66 } : Room) s m #[(.ref a)] below meth c_ s₁ [] 0 0 := Stand.of_body Bd
  have e0 : s₁.heap = h0 := by rw [← hh, Bd.state]; rfl
  have N0 := Fr.nil n0
  have w3_ := hw _ (List.mem_of_getElem? (i := 3) rfl)
  have w26_ := hw _ (List.mem_of_getElem? (i := 26) rfl)
  have w27_ := hw _ (List.mem_of_getElem? (i := 27) rfl)
  have w28_ := hw _ (List.mem_of_getElem? (i := 28) rfl)
  have w29_ := hw _ (List.mem_of_getElem? (i := 29) rfl)
  have w30_ := hw _ (List.mem_of_getElem? (i := 30) rfl)
  have w51_ := hw _ (List.mem_of_getElem? (i := 51) rfl)
  have w52_ := hw _ (List.mem_of_getElem? (i := 52) rfl)
  have w53_ := hw _ (List.mem_of_getElem? (i := 53) rfl)
  have w54_ := hw _ (List.mem_of_getElem? (i := 54) rfl)
  have w55_ := hw _ (List.mem_of_getElem? (i := 55) rfl)
  show Go p e below (RetG s (Q_fv_2u Z a b kb c0 c1 cz fz h0 n0) 0 0) (s₁.setTop (entryFrame m #[(.ref a)] 3))
  rw [show entryFrame m #[(.ref a)] 3 = mkF m 0 #[.val (.ref a), .unset, .unset] [] from by first | (simp [entryFrame, mkF, argsToLocals, Value.category]; done) | rfl]
  refine g_iconst X0 hx hby (0 : Int32) d4_0 rfl ?_
  refine g_istoreN X0 hx hby d4_1 (l' := #[.val (.ref a), .val (.int (0 : Int32)), .unset]) rfl ?_
  refine g_iloadN X0 hx hby d4_2 rfl ?_
  refine g_aloadN X0 hx hby d4_3 rfl rfl ?_
  refine g_virtual X0 hx hby hZ hown (rm_slen16_2 l Z a0 hw [] a b kb c0 c1 cz h0 n0 Z0 O2 P5 OLD Uad Uhi Ulo E C VF VB) w26_ w27_ (notFace_of_selects (args := #[]) (mvT hZ w29_)) w29_ w28_ w3_ w30_ (by decide) e0 E (by rw [hml]; rfl) [] (lenOf own_pd3 rfl) rfl rfl (Nat.le_of_ble_eq_true rfl) (Nat.le_of_ble_eq_true rfl) (Nat.le_of_ble_eq_true rfl) (Nat.le_of_ble_eq_true rfl) d4_4 (fun v1 T1 L1 X1 hQ1 => ?_)
  obtain ⟨rfl, N1q, eh1⟩ := hQ1
  have N1 := Fr.app N0 N1q
  refine g_icN X1 hx hby d4_7 (tlt (by decide : (0 : Int32) < (2 : Int32))).2.1 ?_
  refine g_aloadN X1 hx hby d4_10 rfl rfl ?_
  refine g_iloadN X1 hx hby d4_11 rfl ?_
  refine g_virtual X1 hx hby hZ hown (rm_schar16_2_0 l Z a0 hw [] a b kb c0 c1 fz cz h0 n0 Z0 O2 P5 OLD Uad Uhi Ulo E C VF VB rfz O4 hr0) w51_ w52_ (notFace_of_selects (args := #[]) (mvT hZ w54_)) w54_ w53_ w3_ w55_ (by decide) eh1 E (by rw [hml]; rfl) [(.int (0 : Int32))] (lenOf own_pd18 rfl) rfl rfl (Nat.le_of_ble_eq_true rfl) (Nat.le_of_ble_eq_true rfl) (Nat.le_of_ble_eq_true rfl) (Nat.le_of_ble_eq_true rfl) d4_12 (fun v2 T2 L2 X2 hQ2 => ?_)
  obtain ⟨rfl, N2q, eh2⟩ := hQ2
  have N2 := Fr.app N1 N2q
  refine g_istoreN X2 hx hby d4_15 (l' := #[.val (.ref a), .val (.int (0 : Int32)), .val (.int c0)]) rfl ?_
  have J3 : ∀ (T3 : State) (L3 : List Loc), Stand p l e ({ frames := 5, cells := 0, slots := 0, locals := 66 } : Room) s m #[(.ref a)] below meth c_ T3 L3 0 0 → T3.heap = h0 → Fr n0 L3 → (own_fv c0 = (1 : Int32)) → Go p e below (RetG s (Q_fv_2u Z a b kb c0 c1 cz fz h0 n0) 0 0) (T3.setTop (mkF m 43 #[.val (.ref a), .val (.int (0 : Int32)), .val (.int c0)] [])) := by
    intro T3 L3 X3 e3 N3 hp_c0
    refine g_iinc X3 hx hby (1 : Int32) d4_43 rfl (by decide) (l' := #[.val (.ref a), .val (.int (1 : Int32)), .val (.int c0)]) rfl ?_
    refine g_goto X3 hx hby 2 d4_46 (by decide) (by decide) ?_
    refine g_iloadN X3 hx hby d4_2 rfl ?_
    refine g_aloadN X3 hx hby d4_3 rfl rfl ?_
    refine g_virtual X3 hx hby hZ hown (rm_slen16_2 l Z a0 hw [] a b kb c0 c1 cz h0 n0 Z0 O2 P5 OLD Uad Uhi Ulo E C VF VB) w26_ w27_ (notFace_of_selects (args := #[]) (mvT hZ w29_)) w29_ w28_ w3_ w30_ (by decide) e3 E (by rw [hml]; rfl) [] (lenOf own_pd3 rfl) rfl rfl (Nat.le_of_ble_eq_true rfl) (Nat.le_of_ble_eq_true rfl) (Nat.le_of_ble_eq_true rfl) (Nat.le_of_ble_eq_true rfl) d4_4 (fun v4 T4 L4 X4 hQ4 => ?_)
    obtain ⟨rfl, N4q, eh4⟩ := hQ4
    have N4 := Fr.app N3 N4q
    refine g_icN X4 hx hby d4_7 (tlt (by decide : (1 : Int32) < (2 : Int32))).2.1 ?_
    refine g_aloadN X4 hx hby d4_10 rfl rfl ?_
    refine g_iloadN X4 hx hby d4_11 rfl ?_
    refine g_virtual X4 hx hby hZ hown (rm_schar16_2_1 l Z a0 hw [] a b kb c0 c1 fz cz h0 n0 Z0 O2 P5 OLD Uad Uhi Ulo E C VF VB rfz O4 hr1) w51_ w52_ (notFace_of_selects (args := #[]) (mvT hZ w54_)) w54_ w53_ w3_ w55_ (by decide) eh4 E (by rw [hml]; rfl) [(.int (1 : Int32))] (lenOf own_pd18 rfl) rfl rfl (Nat.le_of_ble_eq_true rfl) (Nat.le_of_ble_eq_true rfl) (Nat.le_of_ble_eq_true rfl) (Nat.le_of_ble_eq_true rfl) d4_12 (fun v5 T5 L5 X5 hQ5 => ?_)
    obtain ⟨rfl, N5q, eh5⟩ := hQ5
    have N5 := Fr.app N4 N5q
    refine g_istoreN X5 hx hby d4_15 (l' := #[.val (.ref a), .val (.int (1 : Int32)), .val (.int c1)]) rfl ?_
    have J6 : ∀ (T6 : State) (L6 : List Loc), Stand p l e ({ frames := 5, cells := 0, slots := 0, locals := 66 } : Room) s m #[(.ref a)] below meth c_ T6 L6 0 0 → T6.heap = h0 → Fr n0 L6 → (own_fv c1 = (1 : Int32)) → Go p e below (RetG s (Q_fv_2u Z a b kb c0 c1 cz fz h0 n0) 0 0) (T6.setTop (mkF m 43 #[.val (.ref a), .val (.int (1 : Int32)), .val (.int c1)] [])) := by
      intro T6 L6 X6 e6 N6 hp_c1
      refine g_iinc X6 hx hby (2 : Int32) d4_43 rfl (by decide) (l' := #[.val (.ref a), .val (.int (2 : Int32)), .val (.int c1)]) rfl ?_
      refine g_goto X6 hx hby 2 d4_46 (by decide) (by decide) ?_
      refine g_iloadN X6 hx hby d4_2 rfl ?_
      refine g_aloadN X6 hx hby d4_3 rfl rfl ?_
      refine g_virtual X6 hx hby hZ hown (rm_slen16_2 l Z a0 hw [] a b kb c0 c1 cz h0 n0 Z0 O2 P5 OLD Uad Uhi Ulo E C VF VB) w26_ w27_ (notFace_of_selects (args := #[]) (mvT hZ w29_)) w29_ w28_ w3_ w30_ (by decide) e6 E (by rw [hml]; rfl) [] (lenOf own_pd3 rfl) rfl rfl (Nat.le_of_ble_eq_true rfl) (Nat.le_of_ble_eq_true rfl) (Nat.le_of_ble_eq_true rfl) (Nat.le_of_ble_eq_true rfl) d4_4 (fun v7 T7 L7 X7 hQ7 => ?_)
      obtain ⟨rfl, N7q, eh7⟩ := hQ7
      have N7 := Fr.app N6 N7q
      refine g_icY X7 hx hby 49 d4_7 (flt (by decide : ¬ ((2 : Int32) < (2 : Int32)))).2.1 (by decide) (by decide) ?_
      refine g_iconst X7 hx hby (1 : Int32) d4_49 rfl ?_
      refine g_nret X7 hx hby (t := .boolean) (by simp) Bd.returns Bd.notSynchronized d4_50 eh7 (by decide) (by decide) ?_
      show (Q_fv_2u Z a b kb c0 c1 cz fz h0 n0) (some (.int (1 : Int32))) _ _
      exact ⟨by simp [own_fvs, hp_c0, hp_c1], N7, rfl⟩
    refine g_iloadN X5 hx hby d4_16 rfl ?_
    refine g_bipush X5 hx hby (32 : Int32) d4_17 rfl ?_
    by_cases hc19_8 : c1 < (32 : Int32)
    · skip
      refine g_icN X5 hx hby d4_19 (tlt hc19_8).2.1 ?_
      refine g_iloadN X5 hx hby d4_22 rfl ?_
      refine g_bipush X5 hx hby (9 : Int32) d4_23 rfl ?_
      by_cases hc25_9 : c1 = (9 : Int32)
      · skip
        refine g_icN X5 hx hby d4_25 (teq hc25_9).2 ?_
        refine g_iloadN X5 hx hby d4_28 rfl ?_
        refine g_at 29 rfl rfl rfl ?_
        refine g_bipush X5 hx hby (127 : Int32) d4_29 rfl ?_
        by_cases hc31_10 : c1 = (127 : Int32)
        · skip
          refine g_icY X5 hx hby 41 d4_31 (teq hc31_10).1 (by decide) (by decide) ?_
          refine g_iconst X5 hx hby (0 : Int32) d4_41 rfl ?_
          refine g_nret X5 hx hby (t := .boolean) (by simp) Bd.returns Bd.notSynchronized d4_42 eh5 (by decide) (by decide) ?_
          show (Q_fv_2u Z a b kb c0 c1 cz fz h0 n0) (some (.int (0 : Int32))) _ _
          have hz : own_fv c1 = (0 : Int32) := by first | (simp [own_fv, hc19_8, hc25_9, hc31_10]; done) | (exact absurd hc19_8 (by rw [hc25_9]; decide)) | (exact absurd hc31_10 (by rw [hc25_9]; decide))
          exact ⟨by simp [own_fvs, hz, hp_c0], N5, rfl⟩
        · skip
          refine g_icN X5 hx hby d4_31 (feq hc31_10).1 ?_
          refine g_iloadN X5 hx hby d4_34 rfl ?_
          refine g_sipush X5 hx hby (255 : Int32) d4_35 rfl ?_
          by_cases hc38_11 : (255 : Int32) < c1
          · skip
            refine g_icN X5 hx hby d4_38 (tlt hc38_11).2.2.2 ?_
            refine g_iconst X5 hx hby (0 : Int32) d4_41 rfl ?_
            refine g_nret X5 hx hby (t := .boolean) (by simp) Bd.returns Bd.notSynchronized d4_42 eh5 (by decide) (by decide) ?_
            show (Q_fv_2u Z a b kb c0 c1 cz fz h0 n0) (some (.int (0 : Int32))) _ _
            have hz : own_fv c1 = (0 : Int32) := by first | (simp [own_fv, hc19_8, hc25_9, hc31_10, hc38_11]; done) | (exact absurd hc19_8 (by rw [hc25_9]; decide)) | (exact absurd hc38_11 (by rw [hc25_9]; decide))
            exact ⟨by simp [own_fvs, hz, hp_c0], N5, rfl⟩
          · skip
            refine g_icY X5 hx hby 43 d4_38 (flt hc38_11).2.2.2 (by decide) (by decide) ?_
            exact J6 _ _ X5 eh5 N5 (by simp [own_fv, hc19_8, hc25_9, hc31_10, hc38_11])
      · skip
        refine g_icY X5 hx hby 41 d4_25 (feq hc25_9).2 (by decide) (by decide) ?_
        refine g_iconst X5 hx hby (0 : Int32) d4_41 rfl ?_
        refine g_nret X5 hx hby (t := .boolean) (by simp) Bd.returns Bd.notSynchronized d4_42 eh5 (by decide) (by decide) ?_
        show (Q_fv_2u Z a b kb c0 c1 cz fz h0 n0) (some (.int (0 : Int32))) _ _
        have hz : own_fv c1 = (0 : Int32) := by first | (simp [own_fv, hc19_8, hc25_9]; done)
        exact ⟨by simp [own_fvs, hz, hp_c0], N5, rfl⟩
    · skip
      refine g_icY X5 hx hby 28 d4_19 (flt hc19_8).2.1 (by decide) (by decide) ?_
      refine g_iloadN X5 hx hby d4_28 rfl ?_
      refine g_bipush X5 hx hby (127 : Int32) d4_29 rfl ?_
      by_cases hc31_12 : c1 = (127 : Int32)
      · skip
        refine g_icY X5 hx hby 41 d4_31 (teq hc31_12).1 (by decide) (by decide) ?_
        refine g_iconst X5 hx hby (0 : Int32) d4_41 rfl ?_
        refine g_nret X5 hx hby (t := .boolean) (by simp) Bd.returns Bd.notSynchronized d4_42 eh5 (by decide) (by decide) ?_
        show (Q_fv_2u Z a b kb c0 c1 cz fz h0 n0) (some (.int (0 : Int32))) _ _
        have hz : own_fv c1 = (0 : Int32) := by first | (simp [own_fv, hc19_8, hc31_12]; done)
        exact ⟨by simp [own_fvs, hz, hp_c0], N5, rfl⟩
      · skip
        refine g_icN X5 hx hby d4_31 (feq hc31_12).1 ?_
        refine g_iloadN X5 hx hby d4_34 rfl ?_
        refine g_sipush X5 hx hby (255 : Int32) d4_35 rfl ?_
        by_cases hc38_13 : (255 : Int32) < c1
        · skip
          refine g_icN X5 hx hby d4_38 (tlt hc38_13).2.2.2 ?_
          refine g_iconst X5 hx hby (0 : Int32) d4_41 rfl ?_
          refine g_nret X5 hx hby (t := .boolean) (by simp) Bd.returns Bd.notSynchronized d4_42 eh5 (by decide) (by decide) ?_
          show (Q_fv_2u Z a b kb c0 c1 cz fz h0 n0) (some (.int (0 : Int32))) _ _
          have hz : own_fv c1 = (0 : Int32) := by first | (simp [own_fv, hc19_8, hc31_12, hc38_13]; done)
          exact ⟨by simp [own_fvs, hz, hp_c0], N5, rfl⟩
        · skip
          refine g_icY X5 hx hby 43 d4_38 (flt hc38_13).2.2.2 (by decide) (by decide) ?_
          exact J6 _ _ X5 eh5 N5 (by simp [own_fv, hc19_8, hc31_12, hc38_13])
  refine g_iloadN X2 hx hby d4_16 rfl ?_
  refine g_bipush X2 hx hby (32 : Int32) d4_17 rfl ?_
  by_cases hc19_14 : c0 < (32 : Int32)
  · skip
    refine g_icN X2 hx hby d4_19 (tlt hc19_14).2.1 ?_
    refine g_iloadN X2 hx hby d4_22 rfl ?_
    refine g_bipush X2 hx hby (9 : Int32) d4_23 rfl ?_
    refine g_at 25 rfl rfl rfl ?_
    by_cases hc25_15 : c0 = (9 : Int32)
    · skip
      refine g_icN X2 hx hby d4_25 (teq hc25_15).2 ?_
      refine g_iloadN X2 hx hby d4_28 rfl ?_
      refine g_bipush X2 hx hby (127 : Int32) d4_29 rfl ?_
      by_cases hc31_16 : c0 = (127 : Int32)
      · skip
        refine g_icY X2 hx hby 41 d4_31 (teq hc31_16).1 (by decide) (by decide) ?_
        refine g_iconst X2 hx hby (0 : Int32) d4_41 rfl ?_
        refine g_nret X2 hx hby (t := .boolean) (by simp) Bd.returns Bd.notSynchronized d4_42 eh2 (by decide) (by decide) ?_
        show (Q_fv_2u Z a b kb c0 c1 cz fz h0 n0) (some (.int (0 : Int32))) _ _
        have hz : own_fv c0 = (0 : Int32) := by first | (simp [own_fv, hc19_14, hc25_15, hc31_16]; done) | (exact absurd hc19_14 (by rw [hc25_15]; decide)) | (exact absurd hc31_16 (by rw [hc25_15]; decide))
        exact ⟨by simp [own_fvs, hz], N2, rfl⟩
      · skip
        refine g_icN X2 hx hby d4_31 (feq hc31_16).1 ?_
        refine g_iloadN X2 hx hby d4_34 rfl ?_
        refine g_sipush X2 hx hby (255 : Int32) d4_35 rfl ?_
        by_cases hc38_17 : (255 : Int32) < c0
        · skip
          refine g_icN X2 hx hby d4_38 (tlt hc38_17).2.2.2 ?_
          refine g_iconst X2 hx hby (0 : Int32) d4_41 rfl ?_
          refine g_nret X2 hx hby (t := .boolean) (by simp) Bd.returns Bd.notSynchronized d4_42 eh2 (by decide) (by decide) ?_
          show (Q_fv_2u Z a b kb c0 c1 cz fz h0 n0) (some (.int (0 : Int32))) _ _
          have hz : own_fv c0 = (0 : Int32) := by first | (simp [own_fv, hc19_14, hc25_15, hc31_16, hc38_17]; done) | (exact absurd hc19_14 (by rw [hc25_15]; decide)) | (exact absurd hc38_17 (by rw [hc25_15]; decide))
          exact ⟨by simp [own_fvs, hz], N2, rfl⟩
        · skip
          refine g_icY X2 hx hby 43 d4_38 (flt hc38_17).2.2.2 (by decide) (by decide) ?_
          exact J3 _ _ X2 eh2 N2 (by simp [own_fv, hc19_14, hc25_15, hc31_16, hc38_17])
    · skip
      refine g_icY X2 hx hby 41 d4_25 (feq hc25_15).2 (by decide) (by decide) ?_
      refine g_iconst X2 hx hby (0 : Int32) d4_41 rfl ?_
      refine g_nret X2 hx hby (t := .boolean) (by simp) Bd.returns Bd.notSynchronized d4_42 eh2 (by decide) (by decide) ?_
      show (Q_fv_2u Z a b kb c0 c1 cz fz h0 n0) (some (.int (0 : Int32))) _ _
      have hz : own_fv c0 = (0 : Int32) := by first | (simp [own_fv, hc19_14, hc25_15]; done)
      exact ⟨by simp [own_fvs, hz], N2, rfl⟩
  · skip
    refine g_icY X2 hx hby 28 d4_19 (flt hc19_14).2.1 (by decide) (by decide) ?_
    refine g_iloadN X2 hx hby d4_28 rfl ?_
    refine g_bipush X2 hx hby (127 : Int32) d4_29 rfl ?_
    by_cases hc31_18 : c0 = (127 : Int32)
    · skip
      refine g_icY X2 hx hby 41 d4_31 (teq hc31_18).1 (by decide) (by decide) ?_
      refine g_iconst X2 hx hby (0 : Int32) d4_41 rfl ?_
      refine g_nret X2 hx hby (t := .boolean) (by simp) Bd.returns Bd.notSynchronized d4_42 eh2 (by decide) (by decide) ?_
      show (Q_fv_2u Z a b kb c0 c1 cz fz h0 n0) (some (.int (0 : Int32))) _ _
      have hz : own_fv c0 = (0 : Int32) := by first | (simp [own_fv, hc19_14, hc31_18]; done)
      exact ⟨by simp [own_fvs, hz], N2, rfl⟩
    · skip
      refine g_icN X2 hx hby d4_31 (feq hc31_18).1 ?_
      refine g_iloadN X2 hx hby d4_34 rfl ?_
      refine g_sipush X2 hx hby (255 : Int32) d4_35 rfl ?_
      by_cases hc38_19 : (255 : Int32) < c0
      · skip
        refine g_icN X2 hx hby d4_38 (tlt hc38_19).2.2.2 ?_
        refine g_iconst X2 hx hby (0 : Int32) d4_41 rfl ?_
        refine g_nret X2 hx hby (t := .boolean) (by simp) Bd.returns Bd.notSynchronized d4_42 eh2 (by decide) (by decide) ?_
        show (Q_fv_2u Z a b kb c0 c1 cz fz h0 n0) (some (.int (0 : Int32))) _ _
        have hz : own_fv c0 = (0 : Int32) := by first | (simp [own_fv, hc19_14, hc31_18, hc38_19]; done)
        exact ⟨by simp [own_fvs, hz], N2, rfl⟩
      · skip
        refine g_icY X2 hx hby 43 d4_38 (flt hc38_19).2.2.2 (by decide) (by decide) ?_
        exact J3 _ _ X2 eh2 N2 (by simp [own_fv, hc19_14, hc31_18, hc38_19])

def Q_cmp5f_2_1 (Z : State) (ca : Addr) (ba : Addr) (kc : ClassId) (kb : ClassId) (c0 : Int32) (c1 : Int32) (h0 : Heap) (n0 : Nat) (v : Option Value) (h : Heap) (L : List Loc) : Prop := v = some (.int (1 : Int32)) ∧ Fr n0 L ∧ Keep h0 h [ba]
set_option maxRecDepth 65536 in
set_option maxHeartbeats 40000000 in
theorem rm_cmp5f_2_1 (l : Launch) (Z : State) (a0 : Array Value) (hw : ∀ d ∈ tables_1, d.before a0 Z = true) (ws : List Jvm.Cond) (ca : Addr) (ba : Addr) (kc : ClassId) (kb : ClassId) (c0 : Int32) (c1 : Int32) (h0 : Heap) (n0 : Nat) (Z0 : n0 ≤ h0.size) (VC : Arv Z h0 ca kc .char (2 : Int32) [(.int c0), (.int c1)] (.int (0 : Int32))) (VB : Arv Z h0 ba kb .byte (2 : Int32) [(.int (0 : Int32)), (.int (0 : Int32))] (.int (0 : Int32))) (nab : ca ≠ ba) (gb : n0 ≤ ba) (hc0 : ¬ (255 : Int32) < c0) (hf : (255 : Int32) < c1) :
    MetFree l (⟨"java/lang/StringUTF16", "compress", "([CI[BII)I"⟩ : MethodName) (head1 (Jvm.Cond.code (⟨"java/lang/StringUTF16", "compress", "([CI[BII)I"⟩ : MethodName) jdk_52_method_21_code 7 (some .int) :: ws) ({ frames := 0, cells := 0, slots := 0, locals := 0 } : Room)) (fun aa_ U => aa_ = #[(.ref ca), (.int (0 : Int32)), (.ref ba), (.int (0 : Int32)), (.int (2 : Int32))] ∧ Z.Warmed39 U.vm ∧ U.heap = h0) (fun _ _ _ _ _ => True) (fun _ U o_ U' => RetG U (Q_cmp5f_2_1 Z ca ba kc kb c0 c1 h0 n0) 0 0 U' o_) := by
  refine MetFree.of_bodySF (plainFor_of_name own_pn3) hisR ?_
  intro p e s m args below meth c_ s₁ Bd hml0 hP hK
  obtain ⟨rfl, hZ, hh⟩ := hP
  have hx := Bd.exec
  have hby := Bd.bytes
  have hml : c_.maxLocals = 7 := hml0
  have hown : s.vm.findClass "java/lang/StringUTF16" = some m.cls := findClass_of_methodNamed Bd.named
  have hnm := (name_of_methodNamed Bd.named Bd.method).1
  have X0 : Stand p l e ({ frames := 0, cells := 0, slots := 0, locals := 0 } : Room) s m #[(.ref ca), (.int (0 : Int32)), (.ref ba), (.int (0 : Int32)), (.int (2 : Int32))] below meth c_ s₁ [] 0 0 := Stand.of_body Bd
  have e0 : s₁.heap = h0 := by rw [← hh, Bd.state]; rfl
  have N0 := Fr.nil n0
  show Go p e below (RetG s (Q_cmp5f_2_1 Z ca ba kc kb c0 c1 h0 n0) 0 0) (s₁.setTop (entryFrame m #[(.ref ca), (.int (0 : Int32)), (.ref ba), (.int (0 : Int32)), (.int (2 : Int32))] 7))
  rw [show entryFrame m #[(.ref ca), (.int (0 : Int32)), (.ref ba), (.int (0 : Int32)), (.int (2 : Int32))] 7 = mkF m 0 #[.val (.ref ca), .val (.int (0 : Int32)), .val (.ref ba), .val (.int (0 : Int32)), .val (.int (2 : Int32)), .unset, .unset] [] from by first | (simp [entryFrame, mkF, argsToLocals, Value.category]; done) | rfl]
  refine g_iconst X0 hx hby (0 : Int32) d8_0 rfl ?_
  refine g_istore X0 hx hby d8_1 (l' := #[.val (.ref ca), .val (.int (0 : Int32)), .val (.ref ba), .val (.int (0 : Int32)), .val (.int (2 : Int32)), .val (.int (0 : Int32)), .unset]) rfl ?_
  refine g_iload X0 hx hby d8_3 rfl ?_
  refine g_iload X0 hx hby d8_5 rfl ?_
  refine g_icN X0 hx hby d8_7 (tlt (by decide : (0 : Int32) < (2 : Int32))).2.1 ?_
  refine g_aloadN X0 hx hby d8_10 rfl rfl ?_
  refine g_iloadN X0 hx hby d8_11 rfl ?_
  refine g_caload X0 hx hby hZ e0 VC (.int c0) ⟨by decide, by decide⟩ rfl d8_12 ?_
  refine g_istore X0 hx hby d8_13 (l' := #[.val (.ref ca), .val (.int (0 : Int32)), .val (.ref ba), .val (.int (0 : Int32)), .val (.int (2 : Int32)), .val (.int (0 : Int32)), .val (.int c0)]) rfl ?_
  refine g_iload X0 hx hby d8_15 rfl ?_
  refine g_sipush X0 hx hby (255 : Int32) d8_17 rfl ?_
  refine g_icY X0 hx hby 26 d8_20 (flt (hc0 : ¬ ((255 : Int32) < c0))).2.2.2 (by decide) (by decide) ?_
  refine g_aloadN X0 hx hby d8_26 rfl rfl ?_
  refine g_iloadN X0 hx hby d8_27 rfl ?_
  refine g_iload X0 hx hby d8_28 rfl ?_
  refine g_i2b X0 hx hby d8_30 ?_
  refine g_bastore X0 hx hby hZ e0 VB 0 [(.int (nar .byte (c0.toInt8.toInt32))), (.int (0 : Int32))] rfl ⟨by decide, by decide⟩ rfl (Nat.le_of_ble_eq_true rfl) N0 gb d8_31 (fun T1 h1 X1 e1 W1 V1 N1 => ?_)
  refine g_iinc X1 hx hby (1 : Int32) d8_32 rfl (by decide) (l' := #[.val (.ref ca), .val (.int (1 : Int32)), .val (.ref ba), .val (.int (0 : Int32)), .val (.int (2 : Int32)), .val (.int (0 : Int32)), .val (.int c0)]) rfl ?_
  refine g_iinc X1 hx hby (1 : Int32) d8_35 rfl (by decide) (l' := #[.val (.ref ca), .val (.int (1 : Int32)), .val (.ref ba), .val (.int (1 : Int32)), .val (.int (2 : Int32)), .val (.int (0 : Int32)), .val (.int c0)]) rfl ?_
  refine g_iinc X1 hx hby (1 : Int32) d8_38 rfl (by decide) (l' := #[.val (.ref ca), .val (.int (1 : Int32)), .val (.ref ba), .val (.int (1 : Int32)), .val (.int (2 : Int32)), .val (.int (1 : Int32)), .val (.int c0)]) rfl ?_
  refine g_goto X1 hx hby 3 d8_41 (by decide) (by decide) ?_
  refine g_iload X1 hx hby d8_3 rfl ?_
  refine g_iload X1 hx hby d8_5 rfl ?_
  refine g_icN X1 hx hby d8_7 (tlt (by decide : (1 : Int32) < (2 : Int32))).2.1 ?_
  refine g_aloadN X1 hx hby d8_10 rfl rfl ?_
  refine g_iloadN X1 hx hby d8_11 rfl ?_
  have f2 := (VC.other W1 nab)
  refine g_caload X1 hx hby hZ e1 f2 (.int c1) ⟨by decide, by decide⟩ rfl d8_12 ?_
  refine g_istore X1 hx hby d8_13 (l' := #[.val (.ref ca), .val (.int (1 : Int32)), .val (.ref ba), .val (.int (1 : Int32)), .val (.int (2 : Int32)), .val (.int (1 : Int32)), .val (.int c1)]) rfl ?_
  refine g_iload X1 hx hby d8_15 rfl ?_
  refine g_sipush X1 hx hby (255 : Int32) d8_17 rfl ?_
  refine g_icN X1 hx hby d8_20 (tlt (hf : (255 : Int32) < c1)).2.2.2 ?_
  refine g_iload X1 hx hby d8_23 rfl ?_
  refine g_iret X1 hx hby Bd.returns Bd.notSynchronized d8_25 e1 (by decide) (by decide) ?_
  show (Q_cmp5f_2_1 Z ca ba kc kb c0 c1 h0 n0) (some (.int (1 : Int32))) _ _
  exact ⟨rfl, N1, ((Keep.refl h0 [ba]).wr W1 (Or.inl (List.mem_of_getElem? (i := 0) rfl)))⟩

def Q_cmpf_2_1 (Z : State) (ca : Addr) (kc : ClassId) (c0 : Int32) (c1 : Int32) (h0 : Heap) (n0 : Nat) (v : Option Value) (h : Heap) (L : List Loc) : Prop := Fr n0 L ∧ Keep h0 h [] ∧ ∃ (b : Addr) (kb : ClassId), v = some (.ref b) ∧ h0.size ≤ b ∧ Arv Z h b kb .byte (4 : Int32) [(.int (own_lob c0)), (.int (own_hib c0)), (.int (own_lob c1)), (.int (own_hib c1))] (.int (0 : Int32))
set_option maxRecDepth 65536 in
set_option maxHeartbeats 40000000 in
theorem rm_cmpf_2_1 (l : Launch) (Z : State) (a0 : Array Value) (hw : ∀ d ∈ tables_1, d.before a0 Z = true) (ws : List Jvm.Cond) (ca : Addr) (kc : ClassId) (c0 : Int32) (c1 : Int32) (h0 : Heap) (n0 : Nat) (Z0 : n0 ≤ h0.size) (Uad : Sta Z Z.heap "java/lang/StringUTF16" "$assertionsDisabled" "Z" (.int (1 : Int32))) (Uhi : Sta Z Z.heap "java/lang/StringUTF16" "HI_BYTE_SHIFT" "I" (.int (0 : Int32))) (Ulo : Sta Z Z.heap "java/lang/StringUTF16" "LO_BYTE_SHIFT" "I" (.int (8 : Int32))) (OLD : Old Z n0 h0) (VC : Arv Z h0 ca kc .char (2 : Int32) [(.int c0), (.int c1)] (.int (0 : Int32))) (hc0 : ¬ (255 : Int32) < c0) (hf : (255 : Int32) < c1) (hr0 : 0 ≤ c0.toInt ∧ c0.toInt < 65536) (hr1 : 0 ≤ c1.toInt ∧ c1.toInt < 65536) :
    MetFree l (⟨"java/lang/StringUTF16", "compress", "([CII)[B"⟩ : MethodName) (head1 (Jvm.Cond.code (⟨"java/lang/StringUTF16", "compress", "([CII)[B"⟩ : MethodName) jdk_52_method_16_code 6 (some (.array .byte)) :: ws) ({ frames := 3, cells := 2, slots := 6, locals := 40 } : Room)) (fun aa_ U => aa_ = #[(.ref ca), (.int (0 : Int32)), (.int (2 : Int32))] ∧ Z.Warmed39 U.vm ∧ U.heap = h0) (fun _ _ _ _ _ => True) (fun _ U o_ U' => RetG U (Q_cmpf_2_1 Z ca kc c0 c1 h0 n0) 2 6 U' o_) := by
  refine MetFree.of_bodySF (plainFor_of_name own_pn3) hisR ?_
  intro p e s m args below meth c_ s₁ Bd hml0 hP hK
  obtain ⟨rfl, hZ, hh⟩ := hP
  have hx := Bd.exec
  have hby := Bd.bytes
  have hml : c_.maxLocals = 6 := hml0
  have hown : s.vm.findClass "java/lang/StringUTF16" = some m.cls := findClass_of_methodNamed Bd.named
  have hnm := (name_of_methodNamed Bd.named Bd.method).1
  have X0 : Stand p l e ({ frames := 3, cells := 2, slots := 6, locals := 40 } : Room) s m #[(.ref ca), (.int (0 : Int32)), (.int (2 : Int32))] below meth c_ s₁ [] 0 0 := Stand.of_body Bd
  have e0 : s₁.heap = h0 := by rw [← hh, Bd.state]; rfl
  have N0 := Fr.nil n0
  have w15_ := hw _ (List.mem_of_getElem? (i := 15) rfl)
  have w39_ := hw _ (List.mem_of_getElem? (i := 39) rfl)
  have w41_ := hw _ (List.mem_of_getElem? (i := 41) rfl)
  have w42_ := hw _ (List.mem_of_getElem? (i := 42) rfl)
  have w43_ := hw _ (List.mem_of_getElem? (i := 43) rfl)
  have w73_ := hw _ (List.mem_of_getElem? (i := 73) rfl)
  have w74_ := hw _ (List.mem_of_getElem? (i := 74) rfl)
  have w75_ := hw _ (List.mem_of_getElem? (i := 75) rfl)
  have w89_ := hw _ (List.mem_of_getElem? (i := 89) rfl)
  have w90_ := hw _ (List.mem_of_getElem? (i := 90) rfl)
  have w91_ := hw _ (List.mem_of_getElem? (i := 91) rfl)
  show Go p e below (RetG s (Q_cmpf_2_1 Z ca kc c0 c1 h0 n0) 2 6) (s₁.setTop (entryFrame m #[(.ref ca), (.int (0 : Int32)), (.int (2 : Int32))] 6))
  rw [show entryFrame m #[(.ref ca), (.int (0 : Int32)), (.int (2 : Int32))] 6 = mkF m 0 #[.val (.ref ca), .val (.int (0 : Int32)), .val (.int (2 : Int32)), .unset, .unset, .unset] [] from by first | (simp [entryFrame, mkF, argsToLocals, Value.category]; done) | rfl]
  refine g_iloadN X0 hx hby d7_0 rfl ?_
  refine g_newarray X0 hx hby hZ .byte .byte (.int (0 : Int32)) [(.int (0 : Int32)), (.int (0 : Int32))] rfl rfl w15_ e0 (by decide) 2 rfl (by decide) (by decide) (by decide) (by decide) d7_1 (fun T1 h1 k1 b1 g1 X1 e1 E1 V1 => ?_)
  refine g_astoreN X1 hx hby d7_3 rfl (l' := #[.val (.ref ca), .val (.int (0 : Int32)), .val (.int (2 : Int32)), .val (.ref b1), .unset, .unset]) rfl ?_
  refine g_aloadN X1 hx hby d7_4 rfl rfl ?_
  refine g_iloadN X1 hx hby d7_5 rfl ?_
  refine g_aloadN X1 hx hby d7_6 rfl rfl ?_
  refine g_iconst X1 hx hby (0 : Int32) d7_7 rfl ?_
  refine g_iloadN X1 hx hby d7_8 rfl ?_
  have f3 := (VC.ext E1)
  have ne4 : ca ≠ b1 := (Nat.ne_of_lt (Nat.lt_of_lt_of_le VC.lt (Nat.le_of_eq g1)))
  have g_b1 : n0 ≤ b1 := Nat.le_trans Z0 (Nat.le_of_eq g1)
  have z5 := (Nat.le_trans Z0 E1.1)
  refine g_static X1 hx hby hZ hown (rm_cmp5f_2_1 l Z a0 hw [] ca b1 kc k1 c0 c1 h1 n0 z5 f3 V1 ne4 g_b1 hc0 hf) w41_ w42_ w39_ w43_ (by decide) e1 (by rw [hml]; rfl) [(.ref ca), (.int (0 : Int32)), (.ref b1), (.int (0 : Int32)), (.int (2 : Int32))] (lenOf own_pd8 rfl) rfl rfl (Nat.le_of_ble_eq_true rfl) (Nat.le_of_ble_eq_true rfl) (Nat.le_of_ble_eq_true rfl) (Nat.le_of_ble_eq_true rfl) d7_9 (fun v2 T2 L2 X2 hQ2 => ?_)
  obtain ⟨rfl, N2q, K2⟩ := hQ2
  have N2 := Fr.app N0 N2q
  refine g_istore X2 hx hby d7_12 (l' := #[.val (.ref ca), .val (.int (0 : Int32)), .val (.int (2 : Int32)), .val (.ref b1), .val (.int (1 : Int32)), .unset]) rfl ?_
  refine g_iload X2 hx hby d7_14 rfl ?_
  refine g_iloadN X2 hx hby d7_16 rfl ?_
  refine g_icN X2 hx hby d7_17 (feq (by decide : ¬ ((1 : Int32) = (2 : Int32)))).1 ?_
  refine g_aloadN X2 hx hby d7_20 rfl rfl ?_
  refine g_iloadN X2 hx hby d7_21 rfl ?_
  refine g_iloadN X2 hx hby d7_22 rfl ?_
  have f7 := ((OLD.ext E1).keep K2 (allS g_b1 all0))
  have f8 := (f3.keep K2 (ninS ne4 nin0))
  have z9 := (Nat.le_trans z5 K2.1)
  refine g_static X2 hx hby hZ hown (rm_tob_2 l Z a0 hw [] ca kc c0 c1 T2.heap n0 z9 Uad Uhi Ulo f7 f8) w73_ w74_ w39_ w75_ (by decide) rfl (by rw [hml]; rfl) [(.ref ca), (.int (0 : Int32)), (.int (2 : Int32))] (lenOf own_pd9 rfl) rfl rfl (Nat.le_of_ble_eq_true rfl) (Nat.le_of_ble_eq_true rfl) (Nat.le_of_ble_eq_true rfl) (Nat.le_of_ble_eq_true rfl) d7_23 (fun v6 T6 L6 X6 hQ6 => ?_)
  obtain ⟨N6q, K6, bb, kbb, rfl, lob, Vb⟩ := hQ6
  have N6 := Fr.app N2 N6q
  refine g_at 26 rfl rfl rfl ?_
  refine g_astore X6 hx hby d7_26 rfl (l' := #[.val (.ref ca), .val (.int (0 : Int32)), .val (.int (2 : Int32)), .val (.ref b1), .val (.int (1 : Int32)), .val (.ref bb)]) rfl ?_
  refine g_aload X6 hx hby d7_28 rfl rfl ?_
  refine g_iload X6 hx hby d7_30 rfl ?_
  have f11 := (f7.keep K6 all0)
  have z12 := (Nat.le_trans z9 K6.1)
  refine g_static X6 hx hby hZ hown (rm_getc_2_1 l Z a0 hw [] bb kbb (own_lob c0) (own_hib c0) (own_lob c1) (own_hib c1) T6.heap n0 z12 Uad Uhi Ulo f11 Vb) w89_ w90_ w39_ w91_ (by decide) rfl (by rw [hml]; rfl) [(.ref bb), (.int (1 : Int32))] (lenOf own_pd10 rfl) rfl rfl (Nat.le_of_ble_eq_true rfl) (Nat.le_of_ble_eq_true rfl) (Nat.le_of_ble_eq_true rfl) (Nat.le_of_ble_eq_true rfl) d7_32 (fun v10 T10 L10 X10 hQ10 => ?_)
  obtain ⟨rfl, N10q, eh10⟩ := hQ10
  have N10 := Fr.app N6 N10q
  refine g_topI (T := T10) c1 (own_u16 hr1) ?_
  refine g_sipush X10 hx hby (255 : Int32) d7_35 rfl ?_
  refine g_icY X10 hx hby 54 d7_38 (tlt (hf : (255 : Int32) < c1)).2.2.1 (by decide) (by decide) ?_
  refine g_aload X10 hx hby d7_54 rfl rfl ?_
  refine g_aret X10 hx hby (t := (.array .byte)) rfl rfl rfl Bd.returns Bd.notSynchronized d7_56 eh10 (by decide) (by decide) ?_
  show (Q_cmpf_2_1 Z ca kc c0 c1 h0 n0) (some (.ref bb)) _ _
  exact ⟨N10, ((((Keep.refl h0 []).ext E1).trans K2 (allS (Or.inr (Nat.le_trans (Nat.le_refl _) (Nat.le_of_eq g1))) all0)).trans K6 all0), bb, kbb, rfl, (Nat.le_trans (Nat.le_trans E1.1 K2.1) lob), Vb⟩

def Q_ini2f_2_1 (Z : State) (a : Addr) (ca : Addr) (kc : ClassId) (c0 : Int32) (c1 : Int32) (cz : Int32) (h0 : Heap) (n0 : Nat) (v : Option Value) (h : Heap) (L : List Loc) : Prop := v = none ∧ Fr n0 L ∧ Keep h0 h [a] ∧ ∃ (b : Addr) (kb : ClassId), h0.size ≤ b ∧ Exa Z h a "java/lang/String" ∧ Fld Z h a "java/lang/String" "coder" "B" (.int (1 : Int32)) ∧ Fld Z h a "java/lang/String" "value" "[B" (.ref b) ∧ Arv Z h b kb .byte (4 : Int32) [(.int (own_lob c0)), (.int (own_hib c0)), (.int (own_lob c1)), (.int (own_hib c1))] (.int (0 : Int32))
set_option maxRecDepth 65536 in
set_option maxHeartbeats 40000000 in
theorem rm_ini2f_2_1 (l : Launch) (Z : State) (a0 : Array Value) (hw : ∀ d ∈ tables_1, d.before a0 Z = true) (ws : List Jvm.Cond) (a : Addr) (ca : Addr) (kc : ClassId) (c0 : Int32) (c1 : Int32) (cz : Int32) (h0 : Heap) (n0 : Nat) (Z0 : n0 ≤ h0.size) (O2 : Sta Z Z.heap "java/lang/String" "COMPACT_STRINGS" "Z" (.int cz)) (P5 : ¬ cz = (0 : Int32)) (OLD : Old Z n0 h0) (Uad : Sta Z Z.heap "java/lang/StringUTF16" "$assertionsDisabled" "Z" (.int (1 : Int32))) (Uhi : Sta Z Z.heap "java/lang/StringUTF16" "HI_BYTE_SHIFT" "I" (.int (0 : Int32))) (Ulo : Sta Z Z.heap "java/lang/StringUTF16" "LO_BYTE_SHIFT" "I" (.int (8 : Int32))) (E : Exa Z h0 a "java/lang/String") (FC : Fld Z h0 a "java/lang/String" "coder" "B" (.int (0 : Int32))) (FV : Fld Z h0 a "java/lang/String" "value" "[B" .null) (VC : Arv Z h0 ca kc .char (2 : Int32) [(.int c0), (.int c1)] (.int (0 : Int32))) (ga : n0 ≤ a) (hc0 : ¬ (255 : Int32) < c0) (hf : (255 : Int32) < c1) (hr0 : 0 ≤ c0.toInt ∧ c0.toInt < 65536) (hr1 : 0 ≤ c1.toInt ∧ c1.toInt < 65536) :
    MetFree l (⟨"java/lang/String", "<init>", "([CIILjava/lang/Void;)V"⟩ : MethodName) (head1 (Jvm.Cond.code (⟨"java/lang/String", "<init>", "([CIILjava/lang/Void;)V"⟩ : MethodName) jdk_42_method_149_code 6 none :: ws) ({ frames := 4, cells := 2, slots := 6, locals := 57 } : Room)) (fun aa_ U => aa_ = #[(.ref a), (.ref ca), (.int (0 : Int32)), (.int (2 : Int32)), .null] ∧ Z.Warmed39 U.vm ∧ U.heap = h0) (fun _ _ _ _ _ => True) (fun _ U o_ U' => RetG U (Q_ini2f_2_1 Z a ca kc c0 c1 cz h0 n0) 2 6 U' o_) := by
  refine MetFree.of_bodySF (plainFor_of_name own_pn1) hisR ?_
  intro p e s m args below meth c_ s₁ Bd hml0 hP hK
  obtain ⟨rfl, hZ, hh⟩ := hP
  have hx := Bd.exec
  have hby := Bd.bytes
  have hml : c_.maxLocals = 6 := hml0
  have hown : s.vm.findClass "java/lang/String" = some m.cls := findClass_of_methodNamed Bd.named
  have hnm := (name_of_methodNamed Bd.named Bd.method).1
  have X0 : Stand p l e ({ frames := 4, cells := 2, slots := 6, locals := 57 } : Room) s m #[(.ref a), (.ref ca), (.int (0 : Int32)), (.int (2 : Int32)), .null] below meth c_ s₁ [] 0 0 := Stand.of_body Bd
  have e0 : s₁.heap = h0 := by rw [← hh, Bd.state]; rfl
  have N0 := Fr.nil n0
  have w2_ := hw _ (List.mem_of_getElem? (i := 2) rfl)
  have w11_ := hw _ (List.mem_of_getElem? (i := 11) rfl)
  have w12_ := hw _ (List.mem_of_getElem? (i := 12) rfl)
  have w13_ := hw _ (List.mem_of_getElem? (i := 13) rfl)
  have w16_ := hw _ (List.mem_of_getElem? (i := 16) rfl)
  have w17_ := hw _ (List.mem_of_getElem? (i := 17) rfl)
  have w20_ := hw _ (List.mem_of_getElem? (i := 20) rfl)
  have w21_ := hw _ (List.mem_of_getElem? (i := 21) rfl)
  have w36_ := hw _ (List.mem_of_getElem? (i := 36) rfl)
  have w37_ := hw _ (List.mem_of_getElem? (i := 37) rfl)
  have w38_ := hw _ (List.mem_of_getElem? (i := 38) rfl)
  have w39_ := hw _ (List.mem_of_getElem? (i := 39) rfl)
  have w40_ := hw _ (List.mem_of_getElem? (i := 40) rfl)
  have w44_ := hw _ (List.mem_of_getElem? (i := 44) rfl)
  have w45_ := hw _ (List.mem_of_getElem? (i := 45) rfl)
  have w46_ := hw _ (List.mem_of_getElem? (i := 46) rfl)
  show Go p e below (RetG s (Q_ini2f_2_1 Z a ca kc c0 c1 cz h0 n0) 2 6) (s₁.setTop (entryFrame m #[(.ref a), (.ref ca), (.int (0 : Int32)), (.int (2 : Int32)), .null] 6))
  rw [show entryFrame m #[(.ref a), (.ref ca), (.int (0 : Int32)), (.int (2 : Int32)), .null] 6 = mkF m 0 #[.val (.ref a), .val (.ref ca), .val (.int (0 : Int32)), .val (.int (2 : Int32)), .val .null, .unset] [] from by first | (simp [entryFrame, mkF, argsToLocals, Value.category]; done) | rfl]
  refine g_aloadN X0 hx hby d2_0 rfl rfl ?_
  refine g_initO X0 hx hby hZ hown w11_ w12_ w13_ e0 (by rw [hml]; rfl) (Nat.le_of_ble_eq_true rfl) (Nat.le_of_ble_eq_true rfl) d2_1 (fun T1 X1 e1 => ?_)
  refine g_iloadN X1 hx hby d2_4 rfl ?_
  refine g_ifY X1 hx hby 27 d2_5 (feq (by decide : ¬ ((2 : Int32) = (0 : Int32)))).2 (by decide) (by decide) ?_
  refine g_getS X1 hx hby hZ hown (host := "") (Or.inl w36_) Via.refl e1 (O2.ext OLD.2) d2_27 (fun T2 X2 e2 => ?_)
  refine g_ifN X2 hx hby d2_30 (feq (P5 : ¬ (cz = (0 : Int32)))).1 ?_
  refine g_aloadN X2 hx hby d2_33 rfl rfl ?_
  refine g_iloadN X2 hx hby d2_34 rfl ?_
  refine g_iloadN X2 hx hby d2_35 rfl ?_
  refine g_static X2 hx hby hZ hown (rm_cmpf_2_1 l Z a0 hw [] ca kc c0 c1 h0 n0 Z0 Uad Uhi Ulo OLD VC hc0 hf hr0 hr1) w37_ w38_ w39_ w40_ (by decide) e2 (by rw [hml]; rfl) [(.ref ca), (.int (0 : Int32)), (.int (2 : Int32))] (lenOf own_pd9 rfl) rfl rfl (Nat.le_of_ble_eq_true rfl) (Nat.le_of_ble_eq_true rfl) (Nat.le_of_ble_eq_true rfl) (Nat.le_of_ble_eq_true rfl) d2_36 (fun v3 T3 L3 X3 hQ3 => ?_)
  obtain ⟨N3q, K3, bb, kbb, rfl, lob, Vb⟩ := hQ3
  have N3 := Fr.app N0 N3q
  refine g_astore X3 hx hby d2_39 rfl (l' := #[.val (.ref a), .val (.ref ca), .val (.int (0 : Int32)), .val (.int (2 : Int32)), .val .null, .val (.ref bb)]) rfl ?_
  refine g_aloadN X3 hx hby d2_41 rfl rfl ?_
  refine g_aload X3 hx hby d2_42 rfl rfl ?_
  refine g_iloadN X3 hx hby d2_44 rfl ?_
  have z5 := (Nat.le_trans Z0 K3.1)
  refine g_static X3 hx hby hZ hown (rm_cfal_2_4 l Z a0 hw [] bb kbb [(.int (own_lob c0)), (.int (own_hib c0)), (.int (own_lob c1)), (.int (own_hib c1))] T3.heap n0 z5 Vb) w44_ w45_ w39_ w46_ (by decide) rfl (by rw [hml]; rfl) [(.ref bb), (.int (2 : Int32))] (lenOf own_pd11 rfl) rfl rfl (Nat.le_of_ble_eq_true rfl) (Nat.le_of_ble_eq_true rfl) (Nat.le_of_ble_eq_true rfl) (Nat.le_of_ble_eq_true rfl) d2_45 (fun v4 T4 L4 X4 hQ4 => ?_)
  obtain ⟨rfl, N4q, eh4⟩ := hQ4
  have N4 := Fr.app N3 N4q
  have f6 := (E.keep K3)
  have f7 := (FC.keep K3 nin0)
  refine g_putFN X4 hx hby hZ hown w21_ Via.refl eh4 f7 f6 (Or.inr ⟨w17_, rfl, hnm⟩) w2_ .byte (by decide) (.int (1 : Int32)) rfl rfl N4 ga d2_48 (fun T8 h8 X8 e8 W8 F8 N8 => ?_)
  refine g_aloadN X8 hx hby d2_51 rfl rfl ?_
  refine g_aload X8 hx hby d2_52 rfl rfl ?_
  have f9 := (f6.wr W8)
  have f10 := ((FV.keep K3 nin0).other W8 (Or.inr (slot_ne (Or.inr w16_) (Or.inr w17_) (by decide) (t := (.array .byte)) (t' := .byte) (by decide) (by decide))))
  refine g_putF X8 hx hby hZ hown (host := "") (Or.inl w20_) Via.refl e8 f10 f9 (Or.inr ⟨w16_, rfl, hnm⟩) w2_ (.array .byte) (by decide) rfl rfl N8 ga d2_54 (fun T11 h11 X11 e11 W11 F11 N11 => ?_)
  have f12 := (f9.wr W11)
  have f13 := (F8.other W11 (Or.inr (slot_ne (Or.inr w17_) (Or.inr w16_) (by decide) (t := .byte) (t' := (.array .byte)) (by decide) (by decide))))
  have ne14 : bb ≠ a := (Ne.symm (Nat.ne_of_lt (Nat.lt_of_lt_of_le E.lt lob)))
  have f15 := ((Vb.other W8 ne14).other W11 ne14)
  refine g_ret X11 hx hby Bd.returns Bd.notSynchronized d2_57 e11 (by decide) (by decide) ?_
  show (Q_ini2f_2_1 Z a ca kc c0 c1 cz h0 n0) none _ _
  exact ⟨rfl, N11, ((((Keep.refl h0 [a]).trans K3 all0).wr W8 (Or.inl (List.mem_of_getElem? (i := 0) rfl))).wr W11 (Or.inl (List.mem_of_getElem? (i := 0) rfl))), bb, kbb, (Nat.le_trans (Nat.le_refl _) lob), f12, f13, F11, f15⟩

def Q_ini1f_2_1 (Z : State) (a : Addr) (ca : Addr) (kc : ClassId) (c0 : Int32) (c1 : Int32) (cz : Int32) (h0 : Heap) (n0 : Nat) (v : Option Value) (h : Heap) (L : List Loc) : Prop := v = none ∧ Fr n0 L ∧ Keep h0 h [a] ∧ ∃ (b : Addr) (kb : ClassId), h0.size ≤ b ∧ Exa Z h a "java/lang/String" ∧ Fld Z h a "java/lang/String" "coder" "B" (.int (1 : Int32)) ∧ Fld Z h a "java/lang/String" "value" "[B" (.ref b) ∧ Arv Z h b kb .byte (4 : Int32) [(.int (own_lob c0)), (.int (own_hib c0)), (.int (own_lob c1)), (.int (own_hib c1))] (.int (0 : Int32))
set_option maxRecDepth 65536 in
set_option maxHeartbeats 40000000 in
theorem rm_ini1f_2_1 (l : Launch) (Z : State) (a0 : Array Value) (hw : ∀ d ∈ tables_1, d.before a0 Z = true) (ws : List Jvm.Cond) (a : Addr) (ca : Addr) (kc : ClassId) (c0 : Int32) (c1 : Int32) (cz : Int32) (h0 : Heap) (n0 : Nat) (Z0 : n0 ≤ h0.size) (O2 : Sta Z Z.heap "java/lang/String" "COMPACT_STRINGS" "Z" (.int cz)) (P5 : ¬ cz = (0 : Int32)) (OLD : Old Z n0 h0) (Uad : Sta Z Z.heap "java/lang/StringUTF16" "$assertionsDisabled" "Z" (.int (1 : Int32))) (Uhi : Sta Z Z.heap "java/lang/StringUTF16" "HI_BYTE_SHIFT" "I" (.int (0 : Int32))) (Ulo : Sta Z Z.heap "java/lang/StringUTF16" "LO_BYTE_SHIFT" "I" (.int (8 : Int32))) (E : Exa Z h0 a "java/lang/String") (FC : Fld Z h0 a "java/lang/String" "coder" "B" (.int (0 : Int32))) (FV : Fld Z h0 a "java/lang/String" "value" "[B" .null) (VC : Arv Z h0 ca kc .char (2 : Int32) [(.int c0), (.int c1)] (.int (0 : Int32))) (ga : n0 ≤ a) (hc0 : ¬ (255 : Int32) < c0) (hf : (255 : Int32) < c1) (hr0 : 0 ≤ c0.toInt ∧ c0.toInt < 65536) (hr1 : 0 ≤ c1.toInt ∧ c1.toInt < 65536) :
    MetFree l (⟨"java/lang/String", "<init>", "([C)V"⟩ : MethodName) (head1 (Jvm.Cond.code (⟨"java/lang/String", "<init>", "([C)V"⟩ : MethodName) jdk_42_method_3_code 2 none :: ws) ({ frames := 5, cells := 2, slots := 6, locals := 74 } : Room)) (fun aa_ U => aa_ = #[(.ref a), (.ref ca)] ∧ Z.Warmed39 U.vm ∧ U.heap = h0) (fun _ _ _ _ _ => True) (fun _ U o_ U' => RetG U (Q_ini1f_2_1 Z a ca kc c0 c1 cz h0 n0) 2 6 U' o_) := by
  refine MetFree.of_bodySF (plainFor_of_name own_pn1) hisR ?_
  intro p e s m args below meth c_ s₁ Bd hml0 hP hK
  obtain ⟨rfl, hZ, hh⟩ := hP
  have hx := Bd.exec
  have hby := Bd.bytes
  have hml : c_.maxLocals = 2 := hml0
  have hown : s.vm.findClass "java/lang/String" = some m.cls := findClass_of_methodNamed Bd.named
  have hnm := (name_of_methodNamed Bd.named Bd.method).1
  have X0 : Stand p l e ({ frames := 5, cells := 2, slots := 6, locals := 74 } : Room) s m #[(.ref a), (.ref ca)] below meth c_ s₁ [] 0 0 := Stand.of_body Bd
  have e0 : s₁.heap = h0 := by rw [← hh, Bd.state]; rfl
  have N0 := Fr.nil n0
  have w3_ := hw _ (List.mem_of_getElem? (i := 3) rfl)
  have w7_ := hw _ (List.mem_of_getElem? (i := 7) rfl)
  have w8_ := hw _ (List.mem_of_getElem? (i := 8) rfl)
  have w10_ := hw _ (List.mem_of_getElem? (i := 10) rfl)
  show Go p e below (RetG s (Q_ini1f_2_1 Z a ca kc c0 c1 cz h0 n0) 2 6) (s₁.setTop (entryFrame m #[(.ref a), (.ref ca)] 2))
  rw [show entryFrame m #[(.ref a), (.ref ca)] 2 = mkF m 0 #[.val (.ref a), .val (.ref ca)] [] from by first | (simp [entryFrame, mkF, argsToLocals, Value.category]; done) | rfl]
  refine g_aloadN X0 hx hby d1_0 rfl rfl ?_
  refine g_aloadN X0 hx hby d1_1 rfl rfl ?_
  refine g_iconst X0 hx hby (0 : Int32) d1_2 rfl ?_
  refine g_aloadN X0 hx hby d1_3 rfl rfl ?_
  refine g_arraylength X0 hx hby hZ e0 VC d1_4 ?_
  refine g_aconst_null X0 hx hby d1_5 ?_
  refine g_special X0 hx hby hZ hown (rm_ini2f_2_1 l Z a0 hw [] a ca kc c0 c1 cz h0 n0 Z0 O2 P5 OLD Uad Uhi Ulo E FC FV VC ga hc0 hf hr0 hr1) rfl rfl w7_ w8_ w3_ w10_ (by decide) e0 (by rw [hml]; rfl) [(.ref ca), (.int (0 : Int32)), (.int (2 : Int32)), .null] (lenOf own_pd0 rfl) rfl rfl (Nat.le_of_ble_eq_true rfl) (Nat.le_of_ble_eq_true rfl) (Nat.le_of_ble_eq_true rfl) (Nat.le_of_ble_eq_true rfl) d1_6 (fun v1 T1 L1 X1 hQ1 => ?_)
  obtain ⟨rfl, N1q, R1⟩ := hQ1
  have N1 := Fr.app N0 N1q
  refine g_ret X1 hx hby Bd.returns Bd.notSynchronized d1_9 rfl (by decide) (by decide) ?_
  show (Q_ini1f_2_1 Z a ca kc c0 c1 cz h0 n0) none _ _
  exact ⟨rfl, N1, R1⟩

def Q_cmp5_2 (Z : State) (ca : Addr) (ba : Addr) (kc : ClassId) (kb : ClassId) (c0 : Int32) (c1 : Int32) (h0 : Heap) (n0 : Nat) (v : Option Value) (h : Heap) (L : List Loc) : Prop := v = some (.int (2 : Int32)) ∧ Fr n0 L ∧ Keep h0 h [ba] ∧ Arv Z h ba kb .byte (2 : Int32) [(.int (nar .byte (c0.toInt8.toInt32))), (.int (nar .byte (c1.toInt8.toInt32)))] (.int (0 : Int32))
set_option maxRecDepth 65536 in
set_option maxHeartbeats 40000000 in
theorem rm_cmp5_2 (l : Launch) (Z : State) (a0 : Array Value) (hw : ∀ d ∈ tables_1, d.before a0 Z = true) (ws : List Jvm.Cond) (ca : Addr) (ba : Addr) (kc : ClassId) (kb : ClassId) (c0 : Int32) (c1 : Int32) (h0 : Heap) (n0 : Nat) (Z0 : n0 ≤ h0.size) (VC : Arv Z h0 ca kc .char (2 : Int32) [(.int c0), (.int c1)] (.int (0 : Int32))) (VB : Arv Z h0 ba kb .byte (2 : Int32) [(.int (0 : Int32)), (.int (0 : Int32))] (.int (0 : Int32))) (nab : ca ≠ ba) (gb : n0 ≤ ba) (hc0 : ¬ (255 : Int32) < c0) (hc1 : ¬ (255 : Int32) < c1) :
    MetFree l (⟨"java/lang/StringUTF16", "compress", "([CI[BII)I"⟩ : MethodName) (head1 (Jvm.Cond.code (⟨"java/lang/StringUTF16", "compress", "([CI[BII)I"⟩ : MethodName) jdk_52_method_21_code 7 (some .int) :: ws) ({ frames := 0, cells := 0, slots := 0, locals := 0 } : Room)) (fun aa_ U => aa_ = #[(.ref ca), (.int (0 : Int32)), (.ref ba), (.int (0 : Int32)), (.int (2 : Int32))] ∧ Z.Warmed39 U.vm ∧ U.heap = h0) (fun _ _ _ _ _ => True) (fun _ U o_ U' => RetG U (Q_cmp5_2 Z ca ba kc kb c0 c1 h0 n0) 0 0 U' o_) := by
  refine MetFree.of_bodySF (plainFor_of_name own_pn3) hisR ?_
  intro p e s m args below meth c_ s₁ Bd hml0 hP hK
  obtain ⟨rfl, hZ, hh⟩ := hP
  have hx := Bd.exec
  have hby := Bd.bytes
  have hml : c_.maxLocals = 7 := hml0
  have hown : s.vm.findClass "java/lang/StringUTF16" = some m.cls := findClass_of_methodNamed Bd.named
  have hnm := (name_of_methodNamed Bd.named Bd.method).1
  have X0 : Stand p l e ({ frames := 0, cells := 0, slots := 0, locals := 0 } : Room) s m #[(.ref ca), (.int (0 : Int32)), (.ref ba), (.int (0 : Int32)), (.int (2 : Int32))] below meth c_ s₁ [] 0 0 := Stand.of_body Bd
  have e0 : s₁.heap = h0 := by rw [← hh, Bd.state]; rfl
  have N0 := Fr.nil n0
  show Go p e below (RetG s (Q_cmp5_2 Z ca ba kc kb c0 c1 h0 n0) 0 0) (s₁.setTop (entryFrame m #[(.ref ca), (.int (0 : Int32)), (.ref ba), (.int (0 : Int32)), (.int (2 : Int32))] 7))
  rw [show entryFrame m #[(.ref ca), (.int (0 : Int32)), (.ref ba), (.int (0 : Int32)), (.int (2 : Int32))] 7 = mkF m 0 #[.val (.ref ca), .val (.int (0 : Int32)), .val (.ref ba), .val (.int (0 : Int32)), .val (.int (2 : Int32)), .unset, .unset] [] from by first | (simp [entryFrame, mkF, argsToLocals, Value.category]; done) | rfl]
  refine g_iconst X0 hx hby (0 : Int32) d8_0 rfl ?_
  refine g_istore X0 hx hby d8_1 (l' := #[.val (.ref ca), .val (.int (0 : Int32)), .val (.ref ba), .val (.int (0 : Int32)), .val (.int (2 : Int32)), .val (.int (0 : Int32)), .unset]) rfl ?_
  refine g_iload X0 hx hby d8_3 rfl ?_
  refine g_iload X0 hx hby d8_5 rfl ?_
  refine g_icN X0 hx hby d8_7 (tlt (by decide : (0 : Int32) < (2 : Int32))).2.1 ?_
  refine g_aloadN X0 hx hby d8_10 rfl rfl ?_
  refine g_iloadN X0 hx hby d8_11 rfl ?_
  refine g_caload X0 hx hby hZ e0 VC (.int c0) ⟨by decide, by decide⟩ rfl d8_12 ?_
  refine g_istore X0 hx hby d8_13 (l' := #[.val (.ref ca), .val (.int (0 : Int32)), .val (.ref ba), .val (.int (0 : Int32)), .val (.int (2 : Int32)), .val (.int (0 : Int32)), .val (.int c0)]) rfl ?_
  refine g_iload X0 hx hby d8_15 rfl ?_
  refine g_sipush X0 hx hby (255 : Int32) d8_17 rfl ?_
  refine g_icY X0 hx hby 26 d8_20 (flt (hc0 : ¬ ((255 : Int32) < c0))).2.2.2 (by decide) (by decide) ?_
  refine g_aloadN X0 hx hby d8_26 rfl rfl ?_
  refine g_iloadN X0 hx hby d8_27 rfl ?_
  refine g_iload X0 hx hby d8_28 rfl ?_
  refine g_i2b X0 hx hby d8_30 ?_
  refine g_bastore X0 hx hby hZ e0 VB 0 [(.int (nar .byte (c0.toInt8.toInt32))), (.int (0 : Int32))] rfl ⟨by decide, by decide⟩ rfl (Nat.le_of_ble_eq_true rfl) N0 gb d8_31 (fun T1 h1 X1 e1 W1 V1 N1 => ?_)
  refine g_iinc X1 hx hby (1 : Int32) d8_32 rfl (by decide) (l' := #[.val (.ref ca), .val (.int (1 : Int32)), .val (.ref ba), .val (.int (0 : Int32)), .val (.int (2 : Int32)), .val (.int (0 : Int32)), .val (.int c0)]) rfl ?_
  refine g_iinc X1 hx hby (1 : Int32) d8_35 rfl (by decide) (l' := #[.val (.ref ca), .val (.int (1 : Int32)), .val (.ref ba), .val (.int (1 : Int32)), .val (.int (2 : Int32)), .val (.int (0 : Int32)), .val (.int c0)]) rfl ?_
  refine g_iinc X1 hx hby (1 : Int32) d8_38 rfl (by decide) (l' := #[.val (.ref ca), .val (.int (1 : Int32)), .val (.ref ba), .val (.int (1 : Int32)), .val (.int (2 : Int32)), .val (.int (1 : Int32)), .val (.int c0)]) rfl ?_
  refine g_goto X1 hx hby 3 d8_41 (by decide) (by decide) ?_
  refine g_iload X1 hx hby d8_3 rfl ?_
  refine g_iload X1 hx hby d8_5 rfl ?_
  refine g_icN X1 hx hby d8_7 (tlt (by decide : (1 : Int32) < (2 : Int32))).2.1 ?_
  refine g_aloadN X1 hx hby d8_10 rfl rfl ?_
  refine g_iloadN X1 hx hby d8_11 rfl ?_
  have f2 := (VC.other W1 nab)
  refine g_caload X1 hx hby hZ e1 f2 (.int c1) ⟨by decide, by decide⟩ rfl d8_12 ?_
  refine g_istore X1 hx hby d8_13 (l' := #[.val (.ref ca), .val (.int (1 : Int32)), .val (.ref ba), .val (.int (1 : Int32)), .val (.int (2 : Int32)), .val (.int (1 : Int32)), .val (.int c1)]) rfl ?_
  refine g_iload X1 hx hby d8_15 rfl ?_
  refine g_sipush X1 hx hby (255 : Int32) d8_17 rfl ?_
  refine g_icY X1 hx hby 26 d8_20 (flt (hc1 : ¬ ((255 : Int32) < c1))).2.2.2 (by decide) (by decide) ?_
  refine g_aloadN X1 hx hby d8_26 rfl rfl ?_
  refine g_iloadN X1 hx hby d8_27 rfl ?_
  refine g_iload X1 hx hby d8_28 rfl ?_
  refine g_i2b X1 hx hby d8_30 ?_
  refine g_bastore X1 hx hby hZ e1 V1 1 [(.int (nar .byte (c0.toInt8.toInt32))), (.int (nar .byte (c1.toInt8.toInt32)))] rfl ⟨by decide, by decide⟩ rfl (Nat.le_of_ble_eq_true rfl) N1 gb d8_31 (fun T3 h3 X3 e3 W3 V3 N3 => ?_)
  refine g_iinc X3 hx hby (2 : Int32) d8_32 rfl (by decide) (l' := #[.val (.ref ca), .val (.int (2 : Int32)), .val (.ref ba), .val (.int (1 : Int32)), .val (.int (2 : Int32)), .val (.int (1 : Int32)), .val (.int c1)]) rfl ?_
  refine g_iinc X3 hx hby (2 : Int32) d8_35 rfl (by decide) (l' := #[.val (.ref ca), .val (.int (2 : Int32)), .val (.ref ba), .val (.int (2 : Int32)), .val (.int (2 : Int32)), .val (.int (1 : Int32)), .val (.int c1)]) rfl ?_
  refine g_iinc X3 hx hby (2 : Int32) d8_38 rfl (by decide) (l' := #[.val (.ref ca), .val (.int (2 : Int32)), .val (.ref ba), .val (.int (2 : Int32)), .val (.int (2 : Int32)), .val (.int (2 : Int32)), .val (.int c1)]) rfl ?_
  refine g_goto X3 hx hby 3 d8_41 (by decide) (by decide) ?_
  refine g_iload X3 hx hby d8_3 rfl ?_
  refine g_iload X3 hx hby d8_5 rfl ?_
  refine g_icY X3 hx hby 44 d8_7 (flt (by decide : ¬ ((2 : Int32) < (2 : Int32)))).2.1 (by decide) (by decide) ?_
  refine g_iload X3 hx hby d8_44 rfl ?_
  refine g_iret X3 hx hby Bd.returns Bd.notSynchronized d8_46 e3 (by decide) (by decide) ?_
  show (Q_cmp5_2 Z ca ba kc kb c0 c1 h0 n0) (some (.int (2 : Int32))) _ _
  exact ⟨rfl, N3, (((Keep.refl h0 [ba]).wr W1 (Or.inl (List.mem_of_getElem? (i := 0) rfl))).wr W3 (Or.inl (List.mem_of_getElem? (i := 0) rfl))), V3⟩

def Q_cmp_2 (Z : State) (ca : Addr) (kc : ClassId) (c0 : Int32) (c1 : Int32) (h0 : Heap) (n0 : Nat) (v : Option Value) (h : Heap) (L : List Loc) : Prop := Fr n0 L ∧ Keep h0 h [] ∧ ∃ (b : Addr) (kb : ClassId), v = some (.ref b) ∧ h0.size ≤ b ∧ Arv Z h b kb .byte (2 : Int32) [(.int (nar .byte (c0.toInt8.toInt32))), (.int (nar .byte (c1.toInt8.toInt32)))] (.int (0 : Int32))
set_option maxRecDepth 65536 in
set_option maxHeartbeats 40000000 in
theorem rm_cmp_2 (l : Launch) (Z : State) (a0 : Array Value) (hw : ∀ d ∈ tables_1, d.before a0 Z = true) (ws : List Jvm.Cond) (ca : Addr) (kc : ClassId) (c0 : Int32) (c1 : Int32) (h0 : Heap) (n0 : Nat) (Z0 : n0 ≤ h0.size) (VC : Arv Z h0 ca kc .char (2 : Int32) [(.int c0), (.int c1)] (.int (0 : Int32))) (hc0 : ¬ (255 : Int32) < c0) (hc1 : ¬ (255 : Int32) < c1) :
    MetFree l (⟨"java/lang/StringUTF16", "compress", "([CII)[B"⟩ : MethodName) (head1 (Jvm.Cond.code (⟨"java/lang/StringUTF16", "compress", "([CII)[B"⟩ : MethodName) jdk_52_method_16_code 6 (some (.array .byte)) :: ws) ({ frames := 1, cells := 1, slots := 2, locals := 18 } : Room)) (fun aa_ U => aa_ = #[(.ref ca), (.int (0 : Int32)), (.int (2 : Int32))] ∧ Z.Warmed39 U.vm ∧ U.heap = h0) (fun _ _ _ _ _ => True) (fun _ U o_ U' => RetG U (Q_cmp_2 Z ca kc c0 c1 h0 n0) 1 2 U' o_) := by
  refine MetFree.of_bodySF (plainFor_of_name own_pn3) hisR ?_
  intro p e s m args below meth c_ s₁ Bd hml0 hP hK
  obtain ⟨rfl, hZ, hh⟩ := hP
  have hx := Bd.exec
  have hby := Bd.bytes
  have hml : c_.maxLocals = 6 := hml0
  have hown : s.vm.findClass "java/lang/StringUTF16" = some m.cls := findClass_of_methodNamed Bd.named
  have hnm := (name_of_methodNamed Bd.named Bd.method).1
  have X0 : Stand p l e ({ frames := 1, cells := 1, slots := 2, locals := 18 } : Room) s m #[(.ref ca), (.int (0 : Int32)), (.int (2 : Int32))] below meth c_ s₁ [] 0 0 := Stand.of_body Bd
  have e0 : s₁.heap = h0 := by rw [← hh, Bd.state]; rfl
  have N0 := Fr.nil n0
  have w15_ := hw _ (List.mem_of_getElem? (i := 15) rfl)
  have w39_ := hw _ (List.mem_of_getElem? (i := 39) rfl)
  have w41_ := hw _ (List.mem_of_getElem? (i := 41) rfl)
  have w42_ := hw _ (List.mem_of_getElem? (i := 42) rfl)
  have w43_ := hw _ (List.mem_of_getElem? (i := 43) rfl)
  show Go p e below (RetG s (Q_cmp_2 Z ca kc c0 c1 h0 n0) 1 2) (s₁.setTop (entryFrame m #[(.ref ca), (.int (0 : Int32)), (.int (2 : Int32))] 6))
  rw [show entryFrame m #[(.ref ca), (.int (0 : Int32)), (.int (2 : Int32))] 6 = mkF m 0 #[.val (.ref ca), .val (.int (0 : Int32)), .val (.int (2 : Int32)), .unset, .unset, .unset] [] from by first | (simp [entryFrame, mkF, argsToLocals, Value.category]; done) | rfl]
  refine g_iloadN X0 hx hby d7_0 rfl ?_
  refine g_newarray X0 hx hby hZ .byte .byte (.int (0 : Int32)) [(.int (0 : Int32)), (.int (0 : Int32))] rfl rfl w15_ e0 (by decide) 2 rfl (by decide) (by decide) (by decide) (by decide) d7_1 (fun T1 h1 k1 b1 g1 X1 e1 E1 V1 => ?_)
  refine g_astoreN X1 hx hby d7_3 rfl (l' := #[.val (.ref ca), .val (.int (0 : Int32)), .val (.int (2 : Int32)), .val (.ref b1), .unset, .unset]) rfl ?_
  refine g_aloadN X1 hx hby d7_4 rfl rfl ?_
  refine g_iloadN X1 hx hby d7_5 rfl ?_
  refine g_aloadN X1 hx hby d7_6 rfl rfl ?_
  refine g_iconst X1 hx hby (0 : Int32) d7_7 rfl ?_
  refine g_iloadN X1 hx hby d7_8 rfl ?_
  have f3 := (VC.ext E1)
  have ne4 : ca ≠ b1 := (Nat.ne_of_lt (Nat.lt_of_lt_of_le VC.lt (Nat.le_of_eq g1)))
  have g_b1 : n0 ≤ b1 := Nat.le_trans Z0 (Nat.le_of_eq g1)
  have z5 := (Nat.le_trans Z0 E1.1)
  refine g_static X1 hx hby hZ hown (rm_cmp5_2 l Z a0 hw [] ca b1 kc k1 c0 c1 h1 n0 z5 f3 V1 ne4 g_b1 hc0 hc1) w41_ w42_ w39_ w43_ (by decide) e1 (by rw [hml]; rfl) [(.ref ca), (.int (0 : Int32)), (.ref b1), (.int (0 : Int32)), (.int (2 : Int32))] (lenOf own_pd8 rfl) rfl rfl (Nat.le_of_ble_eq_true rfl) (Nat.le_of_ble_eq_true rfl) (Nat.le_of_ble_eq_true rfl) (Nat.le_of_ble_eq_true rfl) d7_9 (fun v2 T2 L2 X2 hQ2 => ?_)
  obtain ⟨rfl, N2q, K2, V2⟩ := hQ2
  have N2 := Fr.app N0 N2q
  refine g_istore X2 hx hby d7_12 (l' := #[.val (.ref ca), .val (.int (0 : Int32)), .val (.int (2 : Int32)), .val (.ref b1), .val (.int (2 : Int32)), .unset]) rfl ?_
  refine g_iload X2 hx hby d7_14 rfl ?_
  refine g_iloadN X2 hx hby d7_16 rfl ?_
  refine g_icY X2 hx hby 57 d7_17 (teq (by decide : (2 : Int32) = (2 : Int32))).1 (by decide) (by decide) ?_
  refine g_aloadN X2 hx hby d7_57 rfl rfl ?_
  refine g_aret X2 hx hby (t := (.array .byte)) rfl rfl rfl Bd.returns Bd.notSynchronized d7_58 rfl (by decide) (by decide) ?_
  show (Q_cmp_2 Z ca kc c0 c1 h0 n0) (some (.ref b1)) _ _
  exact ⟨N2, (((Keep.refl h0 []).ext E1).trans K2 (allS (Or.inr (Nat.le_trans (Nat.le_refl _) (Nat.le_of_eq g1))) all0)), b1, k1, rfl, (Nat.le_trans (Nat.le_refl _) (Nat.le_of_eq g1)), V2⟩

def Q_cfal_2_2 (Z : State) (ba : Addr) (kb : ClassId) (bs : List Value) (h0 : Heap) (n0 : Nat) (v : Option Value) (h : Heap) (L : List Loc) : Prop := v = some (.int (0 : Int32)) ∧ Fr n0 L ∧ h = h0
set_option maxRecDepth 65536 in
set_option maxHeartbeats 40000000 in
theorem rm_cfal_2_2 (l : Launch) (Z : State) (a0 : Array Value) (hw : ∀ d ∈ tables_1, d.before a0 Z = true) (ws : List Jvm.Cond) (ba : Addr) (kb : ClassId) (bs : List Value) (h0 : Heap) (n0 : Nat) (Z0 : n0 ≤ h0.size) (VB : Arv Z h0 ba kb .byte (2 : Int32) bs (.int (0 : Int32))) :
    MetFree l (⟨"java/lang/StringUTF16", "coderFromArrayLen", "([BI)B"⟩ : MethodName) (head1 (Jvm.Cond.code (⟨"java/lang/StringUTF16", "coderFromArrayLen", "([BI)B"⟩ : MethodName) jdk_52_method_15_code 2 (some .byte) :: ws) ({ frames := 0, cells := 0, slots := 0, locals := 0 } : Room)) (fun aa_ U => aa_ = #[(.ref ba), (.int (2 : Int32))] ∧ Z.Warmed39 U.vm ∧ U.heap = h0) (fun _ _ _ _ _ => True) (fun _ U o_ U' => RetG U (Q_cfal_2_2 Z ba kb bs h0 n0) 0 0 U' o_) := by
  refine MetFree.of_bodySF (plainFor_of_name own_pn3) hisR ?_
  intro p e s m args below meth c_ s₁ Bd hml0 hP hK
  obtain ⟨rfl, hZ, hh⟩ := hP
  have hx := Bd.exec
  have hby := Bd.bytes
  have hml : c_.maxLocals = 2 := hml0
  have hown : s.vm.findClass "java/lang/StringUTF16" = some m.cls := findClass_of_methodNamed Bd.named
  have hnm := (name_of_methodNamed Bd.named Bd.method).1
  have X0 : Stand p l e ({ frames := 0, cells := 0, slots := 0, locals := 0 } : Room) s m #[(.ref ba), (.int (2 : Int32))] below meth c_ s₁ [] 0 0 := Stand.of_body Bd
  have e0 : s₁.heap = h0 := by rw [← hh, Bd.state]; rfl
  have N0 := Fr.nil n0
  show Go p e below (RetG s (Q_cfal_2_2 Z ba kb bs h0 n0) 0 0) (s₁.setTop (entryFrame m #[(.ref ba), (.int (2 : Int32))] 2))
  rw [show entryFrame m #[(.ref ba), (.int (2 : Int32))] 2 = mkF m 0 #[.val (.ref ba), .val (.int (2 : Int32))] [] from by first | (simp [entryFrame, mkF, argsToLocals, Value.category]; done) | rfl]
  refine g_iloadN X0 hx hby d9_0 rfl ?_
  refine g_aloadN X0 hx hby d9_1 rfl rfl ?_
  refine g_arraylength X0 hx hby hZ e0 VB d9_2 ?_
  refine g_isub X0 hx hby d9_3 ?_
  refine g_topI (0 : Int32) (by decide) ?_
  refine g_bipush X0 hx hby (31 : Int32) d9_4 rfl ?_
  refine g_iushr X0 hx hby d9_6 ?_
  refine g_topI (0 : Int32) (by decide) ?_
  refine g_i2b X0 hx hby d9_7 ?_
  refine g_topI (0 : Int32) (by decide) ?_
  refine g_nret X0 hx hby (t := .byte) (by simp) Bd.returns Bd.notSynchronized d9_8 e0 (by decide) (by decide) ?_
  show (Q_cfal_2_2 Z ba kb bs h0 n0) (some (.int (0 : Int32))) _ _
  exact ⟨rfl, N0, rfl⟩

def Q_ini2_2 (Z : State) (a : Addr) (ca : Addr) (kc : ClassId) (c0 : Int32) (c1 : Int32) (cz : Int32) (h0 : Heap) (n0 : Nat) (v : Option Value) (h : Heap) (L : List Loc) : Prop := v = none ∧ Fr n0 L ∧ Keep h0 h [a] ∧ ∃ (b : Addr) (kb : ClassId), h0.size ≤ b ∧ Exa Z h a "java/lang/String" ∧ Fld Z h a "java/lang/String" "coder" "B" (.int (0 : Int32)) ∧ Fld Z h a "java/lang/String" "value" "[B" (.ref b) ∧ Arv Z h b kb .byte (2 : Int32) [(.int (nar .byte (c0.toInt8.toInt32))), (.int (nar .byte (c1.toInt8.toInt32)))] (.int (0 : Int32))
set_option maxRecDepth 65536 in
set_option maxHeartbeats 40000000 in
theorem rm_ini2_2 (l : Launch) (Z : State) (a0 : Array Value) (hw : ∀ d ∈ tables_1, d.before a0 Z = true) (ws : List Jvm.Cond) (a : Addr) (ca : Addr) (kc : ClassId) (c0 : Int32) (c1 : Int32) (cz : Int32) (h0 : Heap) (n0 : Nat) (Z0 : n0 ≤ h0.size) (O2 : Sta Z Z.heap "java/lang/String" "COMPACT_STRINGS" "Z" (.int cz)) (P5 : ¬ cz = (0 : Int32)) (OLD : Old Z n0 h0) (E : Exa Z h0 a "java/lang/String") (FC : Fld Z h0 a "java/lang/String" "coder" "B" (.int (0 : Int32))) (FV : Fld Z h0 a "java/lang/String" "value" "[B" .null) (VC : Arv Z h0 ca kc .char (2 : Int32) [(.int c0), (.int c1)] (.int (0 : Int32))) (ga : n0 ≤ a) (hc0 : ¬ (255 : Int32) < c0) (hc1 : ¬ (255 : Int32) < c1) :
    MetFree l (⟨"java/lang/String", "<init>", "([CIILjava/lang/Void;)V"⟩ : MethodName) (head1 (Jvm.Cond.code (⟨"java/lang/String", "<init>", "([CIILjava/lang/Void;)V"⟩ : MethodName) jdk_42_method_149_code 6 none :: ws) ({ frames := 2, cells := 1, slots := 2, locals := 35 } : Room)) (fun aa_ U => aa_ = #[(.ref a), (.ref ca), (.int (0 : Int32)), (.int (2 : Int32)), .null] ∧ Z.Warmed39 U.vm ∧ U.heap = h0) (fun _ _ _ _ _ => True) (fun _ U o_ U' => RetG U (Q_ini2_2 Z a ca kc c0 c1 cz h0 n0) 1 2 U' o_) := by
  refine MetFree.of_bodySF (plainFor_of_name own_pn1) hisR ?_
  intro p e s m args below meth c_ s₁ Bd hml0 hP hK
  obtain ⟨rfl, hZ, hh⟩ := hP
  have hx := Bd.exec
  have hby := Bd.bytes
  have hml : c_.maxLocals = 6 := hml0
  have hown : s.vm.findClass "java/lang/String" = some m.cls := findClass_of_methodNamed Bd.named
  have hnm := (name_of_methodNamed Bd.named Bd.method).1
  have X0 : Stand p l e ({ frames := 2, cells := 1, slots := 2, locals := 35 } : Room) s m #[(.ref a), (.ref ca), (.int (0 : Int32)), (.int (2 : Int32)), .null] below meth c_ s₁ [] 0 0 := Stand.of_body Bd
  have e0 : s₁.heap = h0 := by rw [← hh, Bd.state]; rfl
  have N0 := Fr.nil n0
  have w2_ := hw _ (List.mem_of_getElem? (i := 2) rfl)
  have w11_ := hw _ (List.mem_of_getElem? (i := 11) rfl)
  have w12_ := hw _ (List.mem_of_getElem? (i := 12) rfl)
  have w13_ := hw _ (List.mem_of_getElem? (i := 13) rfl)
  have w16_ := hw _ (List.mem_of_getElem? (i := 16) rfl)
  have w17_ := hw _ (List.mem_of_getElem? (i := 17) rfl)
  have w20_ := hw _ (List.mem_of_getElem? (i := 20) rfl)
  have w21_ := hw _ (List.mem_of_getElem? (i := 21) rfl)
  have w36_ := hw _ (List.mem_of_getElem? (i := 36) rfl)
  have w37_ := hw _ (List.mem_of_getElem? (i := 37) rfl)
  have w38_ := hw _ (List.mem_of_getElem? (i := 38) rfl)
  have w39_ := hw _ (List.mem_of_getElem? (i := 39) rfl)
  have w40_ := hw _ (List.mem_of_getElem? (i := 40) rfl)
  have w44_ := hw _ (List.mem_of_getElem? (i := 44) rfl)
  have w45_ := hw _ (List.mem_of_getElem? (i := 45) rfl)
  have w46_ := hw _ (List.mem_of_getElem? (i := 46) rfl)
  show Go p e below (RetG s (Q_ini2_2 Z a ca kc c0 c1 cz h0 n0) 1 2) (s₁.setTop (entryFrame m #[(.ref a), (.ref ca), (.int (0 : Int32)), (.int (2 : Int32)), .null] 6))
  rw [show entryFrame m #[(.ref a), (.ref ca), (.int (0 : Int32)), (.int (2 : Int32)), .null] 6 = mkF m 0 #[.val (.ref a), .val (.ref ca), .val (.int (0 : Int32)), .val (.int (2 : Int32)), .val .null, .unset] [] from by first | (simp [entryFrame, mkF, argsToLocals, Value.category]; done) | rfl]
  refine g_aloadN X0 hx hby d2_0 rfl rfl ?_
  refine g_initO X0 hx hby hZ hown w11_ w12_ w13_ e0 (by rw [hml]; rfl) (Nat.le_of_ble_eq_true rfl) (Nat.le_of_ble_eq_true rfl) d2_1 (fun T1 X1 e1 => ?_)
  refine g_iloadN X1 hx hby d2_4 rfl ?_
  refine g_ifY X1 hx hby 27 d2_5 (feq (by decide : ¬ ((2 : Int32) = (0 : Int32)))).2 (by decide) (by decide) ?_
  refine g_getS X1 hx hby hZ hown (host := "") (Or.inl w36_) Via.refl e1 (O2.ext OLD.2) d2_27 (fun T2 X2 e2 => ?_)
  refine g_ifN X2 hx hby d2_30 (feq (P5 : ¬ (cz = (0 : Int32)))).1 ?_
  refine g_aloadN X2 hx hby d2_33 rfl rfl ?_
  refine g_iloadN X2 hx hby d2_34 rfl ?_
  refine g_iloadN X2 hx hby d2_35 rfl ?_
  refine g_static X2 hx hby hZ hown (rm_cmp_2 l Z a0 hw [] ca kc c0 c1 h0 n0 Z0 VC hc0 hc1) w37_ w38_ w39_ w40_ (by decide) e2 (by rw [hml]; rfl) [(.ref ca), (.int (0 : Int32)), (.int (2 : Int32))] (lenOf own_pd9 rfl) rfl rfl (Nat.le_of_ble_eq_true rfl) (Nat.le_of_ble_eq_true rfl) (Nat.le_of_ble_eq_true rfl) (Nat.le_of_ble_eq_true rfl) d2_36 (fun v3 T3 L3 X3 hQ3 => ?_)
  obtain ⟨N3q, K3, bb, kb, rfl, lob, Vb⟩ := hQ3
  have N3 := Fr.app N0 N3q
  refine g_astore X3 hx hby d2_39 rfl (l' := #[.val (.ref a), .val (.ref ca), .val (.int (0 : Int32)), .val (.int (2 : Int32)), .val .null, .val (.ref bb)]) rfl ?_
  refine g_aloadN X3 hx hby d2_41 rfl rfl ?_
  refine g_aload X3 hx hby d2_42 rfl rfl ?_
  refine g_iloadN X3 hx hby d2_44 rfl ?_
  have z5 := (Nat.le_trans Z0 K3.1)
  refine g_static X3 hx hby hZ hown (rm_cfal_2_2 l Z a0 hw [] bb kb [(.int (nar .byte (c0.toInt8.toInt32))), (.int (nar .byte (c1.toInt8.toInt32)))] T3.heap n0 z5 Vb) w44_ w45_ w39_ w46_ (by decide) rfl (by rw [hml]; rfl) [(.ref bb), (.int (2 : Int32))] (lenOf own_pd11 rfl) rfl rfl (Nat.le_of_ble_eq_true rfl) (Nat.le_of_ble_eq_true rfl) (Nat.le_of_ble_eq_true rfl) (Nat.le_of_ble_eq_true rfl) d2_45 (fun v4 T4 L4 X4 hQ4 => ?_)
  obtain ⟨rfl, N4q, eh4⟩ := hQ4
  have N4 := Fr.app N3 N4q
  have f6 := (E.keep K3)
  have f7 := (FC.keep K3 nin0)
  refine g_putFN X4 hx hby hZ hown w21_ Via.refl eh4 f7 f6 (Or.inr ⟨w17_, rfl, hnm⟩) w2_ .byte (by decide) (.int (0 : Int32)) rfl rfl N4 ga d2_48 (fun T8 h8 X8 e8 W8 F8 N8 => ?_)
  refine g_aloadN X8 hx hby d2_51 rfl rfl ?_
  refine g_aload X8 hx hby d2_52 rfl rfl ?_
  have f9 := (f6.wr W8)
  have f10 := ((FV.keep K3 nin0).other W8 (Or.inr (slot_ne (Or.inr w16_) (Or.inr w17_) (by decide) (t := (.array .byte)) (t' := .byte) (by decide) (by decide))))
  refine g_putF X8 hx hby hZ hown (host := "") (Or.inl w20_) Via.refl e8 f10 f9 (Or.inr ⟨w16_, rfl, hnm⟩) w2_ (.array .byte) (by decide) rfl rfl N8 ga d2_54 (fun T11 h11 X11 e11 W11 F11 N11 => ?_)
  have f12 := (f9.wr W11)
  have f13 := (F8.other W11 (Or.inr (slot_ne (Or.inr w17_) (Or.inr w16_) (by decide) (t := .byte) (t' := (.array .byte)) (by decide) (by decide))))
  have ne14 : bb ≠ a := (Ne.symm (Nat.ne_of_lt (Nat.lt_of_lt_of_le E.lt lob)))
  have f15 := ((Vb.other W8 ne14).other W11 ne14)
  refine g_ret X11 hx hby Bd.returns Bd.notSynchronized d2_57 e11 (by decide) (by decide) ?_
  show (Q_ini2_2 Z a ca kc c0 c1 cz h0 n0) none _ _
  exact ⟨rfl, N11, ((((Keep.refl h0 [a]).trans K3 all0).wr W8 (Or.inl (List.mem_of_getElem? (i := 0) rfl))).wr W11 (Or.inl (List.mem_of_getElem? (i := 0) rfl))), bb, kb, (Nat.le_trans (Nat.le_refl _) lob), f12, f13, F11, f15⟩

def Q_ini1_2 (Z : State) (a : Addr) (ca : Addr) (kc : ClassId) (c0 : Int32) (c1 : Int32) (cz : Int32) (h0 : Heap) (n0 : Nat) (v : Option Value) (h : Heap) (L : List Loc) : Prop := v = none ∧ Fr n0 L ∧ Keep h0 h [a] ∧ ∃ (b : Addr) (kb : ClassId), h0.size ≤ b ∧ Exa Z h a "java/lang/String" ∧ Fld Z h a "java/lang/String" "coder" "B" (.int (0 : Int32)) ∧ Fld Z h a "java/lang/String" "value" "[B" (.ref b) ∧ Arv Z h b kb .byte (2 : Int32) [(.int (nar .byte (c0.toInt8.toInt32))), (.int (nar .byte (c1.toInt8.toInt32)))] (.int (0 : Int32))
set_option maxRecDepth 65536 in
set_option maxHeartbeats 40000000 in
theorem rm_ini1_2 (l : Launch) (Z : State) (a0 : Array Value) (hw : ∀ d ∈ tables_1, d.before a0 Z = true) (ws : List Jvm.Cond) (a : Addr) (ca : Addr) (kc : ClassId) (c0 : Int32) (c1 : Int32) (cz : Int32) (h0 : Heap) (n0 : Nat) (Z0 : n0 ≤ h0.size) (O2 : Sta Z Z.heap "java/lang/String" "COMPACT_STRINGS" "Z" (.int cz)) (P5 : ¬ cz = (0 : Int32)) (OLD : Old Z n0 h0) (E : Exa Z h0 a "java/lang/String") (FC : Fld Z h0 a "java/lang/String" "coder" "B" (.int (0 : Int32))) (FV : Fld Z h0 a "java/lang/String" "value" "[B" .null) (VC : Arv Z h0 ca kc .char (2 : Int32) [(.int c0), (.int c1)] (.int (0 : Int32))) (ga : n0 ≤ a) (hc0 : ¬ (255 : Int32) < c0) (hc1 : ¬ (255 : Int32) < c1) :
    MetFree l (⟨"java/lang/String", "<init>", "([C)V"⟩ : MethodName) (head1 (Jvm.Cond.code (⟨"java/lang/String", "<init>", "([C)V"⟩ : MethodName) jdk_42_method_3_code 2 none :: ws) ({ frames := 3, cells := 1, slots := 2, locals := 52 } : Room)) (fun aa_ U => aa_ = #[(.ref a), (.ref ca)] ∧ Z.Warmed39 U.vm ∧ U.heap = h0) (fun _ _ _ _ _ => True) (fun _ U o_ U' => RetG U (Q_ini1_2 Z a ca kc c0 c1 cz h0 n0) 1 2 U' o_) := by
  refine MetFree.of_bodySF (plainFor_of_name own_pn1) hisR ?_
  intro p e s m args below meth c_ s₁ Bd hml0 hP hK
  obtain ⟨rfl, hZ, hh⟩ := hP
  have hx := Bd.exec
  have hby := Bd.bytes
  have hml : c_.maxLocals = 2 := hml0
  have hown : s.vm.findClass "java/lang/String" = some m.cls := findClass_of_methodNamed Bd.named
  have hnm := (name_of_methodNamed Bd.named Bd.method).1
  have X0 : Stand p l e ({ frames := 3, cells := 1, slots := 2, locals := 52 } : Room) s m #[(.ref a), (.ref ca)] below meth c_ s₁ [] 0 0 := Stand.of_body Bd
  have e0 : s₁.heap = h0 := by rw [← hh, Bd.state]; rfl
  have N0 := Fr.nil n0
  have w3_ := hw _ (List.mem_of_getElem? (i := 3) rfl)
  have w7_ := hw _ (List.mem_of_getElem? (i := 7) rfl)
  have w8_ := hw _ (List.mem_of_getElem? (i := 8) rfl)
  have w10_ := hw _ (List.mem_of_getElem? (i := 10) rfl)
  show Go p e below (RetG s (Q_ini1_2 Z a ca kc c0 c1 cz h0 n0) 1 2) (s₁.setTop (entryFrame m #[(.ref a), (.ref ca)] 2))
  rw [show entryFrame m #[(.ref a), (.ref ca)] 2 = mkF m 0 #[.val (.ref a), .val (.ref ca)] [] from by first | (simp [entryFrame, mkF, argsToLocals, Value.category]; done) | rfl]
  refine g_aloadN X0 hx hby d1_0 rfl rfl ?_
  refine g_aloadN X0 hx hby d1_1 rfl rfl ?_
  refine g_iconst X0 hx hby (0 : Int32) d1_2 rfl ?_
  refine g_aloadN X0 hx hby d1_3 rfl rfl ?_
  refine g_arraylength X0 hx hby hZ e0 VC d1_4 ?_
  refine g_aconst_null X0 hx hby d1_5 ?_
  refine g_special X0 hx hby hZ hown (rm_ini2_2 l Z a0 hw [] a ca kc c0 c1 cz h0 n0 Z0 O2 P5 OLD E FC FV VC ga hc0 hc1) rfl rfl w7_ w8_ w3_ w10_ (by decide) e0 (by rw [hml]; rfl) [(.ref ca), (.int (0 : Int32)), (.int (2 : Int32)), .null] (lenOf own_pd0 rfl) rfl rfl (Nat.le_of_ble_eq_true rfl) (Nat.le_of_ble_eq_true rfl) (Nat.le_of_ble_eq_true rfl) (Nat.le_of_ble_eq_true rfl) d1_6 (fun v1 T1 L1 X1 hQ1 => ?_)
  obtain ⟨rfl, N1q, R1⟩ := hQ1
  have N1 := Fr.app N0 N1q
  refine g_ret X1 hx hby Bd.returns Bd.notSynchronized d1_9 rfl (by decide) (by decide) ?_
  show (Q_ini1_2 Z a ca kc c0 c1 cz h0 n0) none _ _
  exact ⟨rfl, N1, R1⟩

def Q_slen_2 (Z : State) (a : Addr) (b : Addr) (kb : ClassId) (bs : List Value) (cz : Int32) (h0 : Heap) (n0 : Nat) (v : Option Value) (h : Heap) (L : List Loc) : Prop := v = some (.int (2 : Int32)) ∧ Fr n0 L ∧ h = h0
set_option maxRecDepth 65536 in
set_option maxHeartbeats 40000000 in
theorem rm_slen_2 (l : Launch) (Z : State) (a0 : Array Value) (hw : ∀ d ∈ tables_1, d.before a0 Z = true) (ws : List Jvm.Cond) (a : Addr) (b : Addr) (kb : ClassId) (bs : List Value) (cz : Int32) (h0 : Heap) (n0 : Nat) (Z0 : n0 ≤ h0.size) (O2 : Sta Z Z.heap "java/lang/String" "COMPACT_STRINGS" "Z" (.int cz)) (P5 : ¬ cz = (0 : Int32)) (OLD : Old Z n0 h0) (E : Exa Z h0 a "java/lang/String") (C : Fld Z h0 a "java/lang/String" "coder" "B" (.int (0 : Int32))) (VF : Fld Z h0 a "java/lang/String" "value" "[B" (.ref b)) (VB : Arv Z h0 b kb .byte (2 : Int32) bs (.int (0 : Int32))) :
    MetFree l (⟨"java/lang/String", "length", "()I"⟩ : MethodName) (head1 (Jvm.Cond.code (⟨"java/lang/String", "length", "()I"⟩ : MethodName) jdk_42_method_54_code 1 (some .int) :: ws) ({ frames := 1, cells := 0, slots := 0, locals := 13 } : Room)) (fun aa_ U => aa_ = #[(.ref a)] ∧ Z.Warmed39 U.vm ∧ U.heap = h0) (fun _ _ _ _ _ => True) (fun _ U o_ U' => RetG U (Q_slen_2 Z a b kb bs cz h0 n0) 0 0 U' o_) := by
  refine MetFree.of_bodySF (plainFor_of_name own_pn1) hisR ?_
  intro p e s m args below meth c_ s₁ Bd hml0 hP hK
  obtain ⟨rfl, hZ, hh⟩ := hP
  have hx := Bd.exec
  have hby := Bd.bytes
  have hml : c_.maxLocals = 1 := hml0
  have hown : s.vm.findClass "java/lang/String" = some m.cls := findClass_of_methodNamed Bd.named
  have hnm := (name_of_methodNamed Bd.named Bd.method).1
  have X0 : Stand p l e ({ frames := 1, cells := 0, slots := 0, locals := 13 } : Room) s m #[(.ref a)] below meth c_ s₁ [] 0 0 := Stand.of_body Bd
  have e0 : s₁.heap = h0 := by rw [← hh, Bd.state]; rfl
  have N0 := Fr.nil n0
  have w3_ := hw _ (List.mem_of_getElem? (i := 3) rfl)
  have w20_ := hw _ (List.mem_of_getElem? (i := 20) rfl)
  have w31_ := hw _ (List.mem_of_getElem? (i := 31) rfl)
  have w32_ := hw _ (List.mem_of_getElem? (i := 32) rfl)
  have w33_ := hw _ (List.mem_of_getElem? (i := 33) rfl)
  have w34_ := hw _ (List.mem_of_getElem? (i := 34) rfl)
  have w35_ := hw _ (List.mem_of_getElem? (i := 35) rfl)
  show Go p e below (RetG s (Q_slen_2 Z a b kb bs cz h0 n0) 0 0) (s₁.setTop (entryFrame m #[(.ref a)] 1))
  rw [show entryFrame m #[(.ref a)] 1 = mkF m 0 #[.val (.ref a)] [] from by first | (simp [entryFrame, mkF, argsToLocals, Value.category]; done) | rfl]
  refine g_aloadN X0 hx hby d5_0 rfl rfl ?_
  refine g_getF X0 hx hby hZ hown (host := "") (Or.inl w20_) Via.refl e0 VF d5_1 (fun T1 X1 e1 => ?_)
  refine g_arraylength X1 hx hby hZ e1 VB d5_4 ?_
  refine g_aloadN X1 hx hby d5_5 rfl rfl ?_
  refine g_virtual X1 hx hby hZ hown (rm_coder l Z a0 hw [] a (0 : Int32) cz h0 n0 Z0 O2 P5 OLD C) w31_ w32_ (notFace_of_selects (args := #[]) (mvT hZ w34_)) w34_ w33_ w3_ w35_ (by decide) e1 E (by rw [hml]; rfl) [] (lenOf own_pd2 rfl) rfl rfl (Nat.le_of_ble_eq_true rfl) (Nat.le_of_ble_eq_true rfl) (Nat.le_of_ble_eq_true rfl) (Nat.le_of_ble_eq_true rfl) d5_6 (fun v2 T2 L2 X2 hQ2 => ?_)
  obtain ⟨rfl, N2q, eh2⟩ := hQ2
  have N2 := Fr.app N0 N2q
  refine g_topI (T := T2) (0 : Int32) (by decide) ?_
  refine g_ishr X2 hx hby d5_9 ?_
  refine g_topI (2 : Int32) (by decide) ?_
  refine g_iret X2 hx hby Bd.returns Bd.notSynchronized d5_10 eh2 (by decide) (by decide) ?_
  show (Q_slen_2 Z a b kb bs cz h0 n0) (some (.int (2 : Int32))) _ _
  exact ⟨rfl, N2, rfl⟩

def Q_lchar_2 (Z : State) (b : Addr) (kb : ClassId) (bs : List Value) (j : Int32) (bv : Int32) (fz : Value) (h0 : Heap) (n0 : Nat) (v : Option Value) (h : Heap) (L : List Loc) : Prop := v = some (.int (nar .char ((bv &&& (255 : Int32)).toUInt32.toUInt16.toUInt32.toInt32))) ∧ Fr n0 L ∧ h = h0
set_option maxRecDepth 65536 in
set_option maxHeartbeats 40000000 in
theorem rm_lchar_2 (l : Launch) (Z : State) (a0 : Array Value) (hw : ∀ d ∈ tables_1, d.before a0 Z = true) (ws : List Jvm.Cond) (b : Addr) (kb : ClassId) (bs : List Value) (j : Int32) (bv : Int32) (fz : Value) (h0 : Heap) (n0 : Nat) (Z0 : n0 ≤ h0.size) (VB : Arv Z h0 b kb .byte (2 : Int32) bs (.int (0 : Int32))) (hj : ¬ j < 0 ∧ j < (2 : Int32)) (hv : bs.getD j.toNatClampNeg (.int (0 : Int32)) = .int bv) (rfz : Rf fz) (O4 : Sta Z Z.heap "jdk/internal/util/Preconditions" "SIOOBE_FORMATTER" "Ljava/util/function/BiFunction;" fz) (OLD : Old Z n0 h0) :
    MetFree l (⟨"java/lang/StringLatin1", "charAt", "([BI)C"⟩ : MethodName) (head1 (Jvm.Cond.code (⟨"java/lang/StringLatin1", "charAt", "([BI)C"⟩ : MethodName) jdk_43_method_2_code 2 (some .char) :: ws) ({ frames := 2, cells := 0, slots := 0, locals := 27 } : Room)) (fun aa_ U => aa_ = #[(.ref b), (.int j)] ∧ Z.Warmed39 U.vm ∧ U.heap = h0) (fun _ _ _ _ _ => True) (fun _ U o_ U' => RetG U (Q_lchar_2 Z b kb bs j bv fz h0 n0) 0 0 U' o_) := by
  refine MetFree.of_bodySF (plainFor_of_name own_pn5) hisR ?_
  intro p e s m args below meth c_ s₁ Bd hml0 hP hK
  obtain ⟨rfl, hZ, hh⟩ := hP
  have hx := Bd.exec
  have hby := Bd.bytes
  have hml : c_.maxLocals = 2 := hml0
  have hown : s.vm.findClass "java/lang/StringLatin1" = some m.cls := findClass_of_methodNamed Bd.named
  have hnm := (name_of_methodNamed Bd.named Bd.method).1
  have X0 : Stand p l e ({ frames := 2, cells := 0, slots := 0, locals := 27 } : Room) s m #[(.ref b), (.int j)] below meth c_ s₁ [] 0 0 := Stand.of_body Bd
  have e0 : s₁.heap = h0 := by rw [← hh, Bd.state]; rfl
  have N0 := Fr.nil n0
  have w3_ := hw _ (List.mem_of_getElem? (i := 3) rfl)
  have w65_ := hw _ (List.mem_of_getElem? (i := 65) rfl)
  have w66_ := hw _ (List.mem_of_getElem? (i := 66) rfl)
  have w67_ := hw _ (List.mem_of_getElem? (i := 67) rfl)
  show Go p e below (RetG s (Q_lchar_2 Z b kb bs j bv fz h0 n0) 0 0) (s₁.setTop (entryFrame m #[(.ref b), (.int j)] 2))
  rw [show entryFrame m #[(.ref b), (.int j)] 2 = mkF m 0 #[.val (.ref b), .val (.int j)] [] from by first | (simp [entryFrame, mkF, argsToLocals, Value.category]; done) | rfl]
  refine g_iloadN X0 hx hby d13_0 rfl ?_
  refine g_aloadN X0 hx hby d13_1 rfl rfl ?_
  refine g_arraylength X0 hx hby hZ e0 VB d13_2 ?_
  refine g_static X0 hx hby hZ hown (rm_schk l Z a0 hw [] j (2 : Int32) fz h0 n0 Z0 hj rfz O4 OLD) w65_ w66_ w3_ w67_ (by decide) e0 (by rw [hml]; rfl) [(.int j), (.int (2 : Int32))] (lenOf own_pd15 rfl) rfl rfl (Nat.le_of_ble_eq_true rfl) (Nat.le_of_ble_eq_true rfl) (Nat.le_of_ble_eq_true rfl) (Nat.le_of_ble_eq_true rfl) d13_3 (fun v1 T1 L1 X1 hQ1 => ?_)
  obtain ⟨rfl, N1q, eh1⟩ := hQ1
  have N1 := Fr.app N0 N1q
  refine g_aloadN X1 hx hby d13_6 rfl rfl ?_
  refine g_iloadN X1 hx hby d13_7 rfl ?_
  refine g_baload X1 hx hby hZ eh1 VB (.int bv) hj hv d13_8 ?_
  refine g_sipush X1 hx hby (255 : Int32) d13_9 rfl ?_
  refine g_iand X1 hx hby d13_12 ?_
  refine g_i2c X1 hx hby d13_13 ?_
  refine g_nret X1 hx hby (t := .char) (by simp) Bd.returns Bd.notSynchronized d13_14 eh1 (by decide) (by decide) ?_
  show (Q_lchar_2 Z b kb bs j bv fz h0 n0) (some (.int (nar .char ((bv &&& (255 : Int32)).toUInt32.toUInt16.toUInt32.toInt32)))) _ _
  exact ⟨rfl, N1, rfl⟩

def Q_schar_2 (Z : State) (a : Addr) (b : Addr) (kb : ClassId) (bs : List Value) (j : Int32) (bv : Int32) (fz : Value) (cz : Int32) (h0 : Heap) (n0 : Nat) (v : Option Value) (h : Heap) (L : List Loc) : Prop := v = some (.int (nar .char (nar .char ((bv &&& (255 : Int32)).toUInt32.toUInt16.toUInt32.toInt32)))) ∧ Fr n0 L ∧ h = h0
set_option maxRecDepth 65536 in
set_option maxHeartbeats 40000000 in
theorem rm_schar_2 (l : Launch) (Z : State) (a0 : Array Value) (hw : ∀ d ∈ tables_1, d.before a0 Z = true) (ws : List Jvm.Cond) (a : Addr) (b : Addr) (kb : ClassId) (bs : List Value) (j : Int32) (bv : Int32) (fz : Value) (cz : Int32) (h0 : Heap) (n0 : Nat) (Z0 : n0 ≤ h0.size) (O2 : Sta Z Z.heap "java/lang/String" "COMPACT_STRINGS" "Z" (.int cz)) (P5 : ¬ cz = (0 : Int32)) (OLD : Old Z n0 h0) (E : Exa Z h0 a "java/lang/String") (C : Fld Z h0 a "java/lang/String" "coder" "B" (.int (0 : Int32))) (VF : Fld Z h0 a "java/lang/String" "value" "[B" (.ref b)) (VB : Arv Z h0 b kb .byte (2 : Int32) bs (.int (0 : Int32))) (hj : ¬ j < 0 ∧ j < (2 : Int32)) (hv : bs.getD j.toNatClampNeg (.int (0 : Int32)) = .int bv) (rfz : Rf fz) (O4 : Sta Z Z.heap "jdk/internal/util/Preconditions" "SIOOBE_FORMATTER" "Ljava/util/function/BiFunction;" fz) :
    MetFree l (⟨"java/lang/String", "charAt", "(I)C"⟩ : MethodName) (head1 (Jvm.Cond.code (⟨"java/lang/String", "charAt", "(I)C"⟩ : MethodName) jdk_42_method_56_code 2 (some .char) :: ws) ({ frames := 3, cells := 0, slots := 0, locals := 40 } : Room)) (fun aa_ U => aa_ = #[(.ref a), (.int j)] ∧ Z.Warmed39 U.vm ∧ U.heap = h0) (fun _ _ _ _ _ => True) (fun _ U o_ U' => RetG U (Q_schar_2 Z a b kb bs j bv fz cz h0 n0) 0 0 U' o_) := by
  refine MetFree.of_bodySF (plainFor_of_name own_pn1) hisR ?_
  intro p e s m args below meth c_ s₁ Bd hml0 hP hK
  obtain ⟨rfl, hZ, hh⟩ := hP
  have hx := Bd.exec
  have hby := Bd.bytes
  have hml : c_.maxLocals = 2 := hml0
  have hown : s.vm.findClass "java/lang/String" = some m.cls := findClass_of_methodNamed Bd.named
  have hnm := (name_of_methodNamed Bd.named Bd.method).1
  have X0 : Stand p l e ({ frames := 3, cells := 0, slots := 0, locals := 40 } : Room) s m #[(.ref a), (.int j)] below meth c_ s₁ [] 0 0 := Stand.of_body Bd
  have e0 : s₁.heap = h0 := by rw [← hh, Bd.state]; rfl
  have N0 := Fr.nil n0
  have w3_ := hw _ (List.mem_of_getElem? (i := 3) rfl)
  have w20_ := hw _ (List.mem_of_getElem? (i := 20) rfl)
  have w56_ := hw _ (List.mem_of_getElem? (i := 56) rfl)
  have w57_ := hw _ (List.mem_of_getElem? (i := 57) rfl)
  have w58_ := hw _ (List.mem_of_getElem? (i := 58) rfl)
  have w59_ := hw _ (List.mem_of_getElem? (i := 59) rfl)
  have w60_ := hw _ (List.mem_of_getElem? (i := 60) rfl)
  have w61_ := hw _ (List.mem_of_getElem? (i := 61) rfl)
  have w62_ := hw _ (List.mem_of_getElem? (i := 62) rfl)
  have w63_ := hw _ (List.mem_of_getElem? (i := 63) rfl)
  have w64_ := hw _ (List.mem_of_getElem? (i := 64) rfl)
  show Go p e below (RetG s (Q_schar_2 Z a b kb bs j bv fz cz h0 n0) 0 0) (s₁.setTop (entryFrame m #[(.ref a), (.int j)] 2))
  rw [show entryFrame m #[(.ref a), (.int j)] 2 = mkF m 0 #[.val (.ref a), .val (.int j)] [] from by first | (simp [entryFrame, mkF, argsToLocals, Value.category]; done) | rfl]
  refine g_aloadN X0 hx hby d11_0 rfl rfl ?_
  refine g_virtual X0 hx hby hZ hown (rm_islat l Z a0 hw [] a cz h0 n0 Z0 O2 P5 OLD C) w56_ w57_ (notFace_of_selects (args := #[]) (mvT hZ w59_)) w59_ w58_ w3_ w60_ (by decide) e0 E (by rw [hml]; rfl) [] (lenOf own_pd17 rfl) rfl rfl (Nat.le_of_ble_eq_true rfl) (Nat.le_of_ble_eq_true rfl) (Nat.le_of_ble_eq_true rfl) (Nat.le_of_ble_eq_true rfl) d11_1 (fun v1 T1 L1 X1 hQ1 => ?_)
  obtain ⟨rfl, N1q, eh1⟩ := hQ1
  have N1 := Fr.app N0 N1q
  refine g_ifN X1 hx hby d11_4 (feq (by decide : ¬ ((1 : Int32) = (0 : Int32)))).1 ?_
  refine g_aloadN X1 hx hby d11_7 rfl rfl ?_
  refine g_getF X1 hx hby hZ hown (host := "") (Or.inl w20_) Via.refl eh1 VF d11_8 (fun T2 X2 e2 => ?_)
  refine g_iloadN X2 hx hby d11_11 rfl ?_
  refine g_static X2 hx hby hZ hown (rm_lchar_2 l Z a0 hw [] b kb bs j bv fz h0 n0 Z0 VB hj hv rfz O4 OLD) w61_ w62_ w63_ w64_ (by decide) e2 (by rw [hml]; rfl) [(.ref b), (.int j)] (lenOf own_pd10 rfl) rfl rfl (Nat.le_of_ble_eq_true rfl) (Nat.le_of_ble_eq_true rfl) (Nat.le_of_ble_eq_true rfl) (Nat.le_of_ble_eq_true rfl) d11_12 (fun v3 T3 L3 X3 hQ3 => ?_)
  obtain ⟨rfl, N3q, eh3⟩ := hQ3
  have N3 := Fr.app N1 N3q
  refine g_nret X3 hx hby (t := .char) (by simp) Bd.returns Bd.notSynchronized d11_15 eh3 (by decide) (by decide) ?_
  show (Q_schar_2 Z a b kb bs j bv fz cz h0 n0) (some (.int (nar .char (nar .char ((bv &&& (255 : Int32)).toUInt32.toUInt16.toUInt32.toInt32))))) _ _
  exact ⟨rfl, N3, rfl⟩

def Q_fv_2 (Z : State) (a : Addr) (b : Addr) (kb : ClassId) (c0 : Int32) (c1 : Int32) (cz : Int32) (fz : Value) (h0 : Heap) (n0 : Nat) (v : Option Value) (h : Heap) (L : List Loc) : Prop := v = some (.int (own_fvs [c0, c1])) ∧ Fr n0 L ∧ h = h0
set_option maxRecDepth 65536 in
set_option maxHeartbeats 40000000 in
theorem rm_fv_2 (l : Launch) (Z : State) (a0 : Array Value) (hw : ∀ d ∈ tables_1, d.before a0 Z = true) (ws : List Jvm.Cond) (a : Addr) (b : Addr) (kb : ClassId) (c0 : Int32) (c1 : Int32) (cz : Int32) (fz : Value) (h0 : Heap) (n0 : Nat) (Z0 : n0 ≤ h0.size) (O2 : Sta Z Z.heap "java/lang/String" "COMPACT_STRINGS" "Z" (.int cz)) (P5 : ¬ cz = (0 : Int32)) (OLD : Old Z n0 h0) (E : Exa Z h0 a "java/lang/String") (C : Fld Z h0 a "java/lang/String" "coder" "B" (.int (0 : Int32))) (VF : Fld Z h0 a "java/lang/String" "value" "[B" (.ref b)) (VB : Arv Z h0 b kb .byte (2 : Int32) [(.int (nar .byte (c0.toInt8.toInt32))), (.int (nar .byte (c1.toInt8.toInt32)))] (.int (0 : Int32))) (rfz : Rf fz) (O4 : Sta Z Z.heap "jdk/internal/util/Preconditions" "SIOOBE_FORMATTER" "Ljava/util/function/BiFunction;" fz) (hr0 : 0 ≤ c0.toInt ∧ c0.toInt < 65536) (hr1 : 0 ≤ c1.toInt ∧ c1.toInt < 65536) (hl0 : ¬ (255 : Int32) < c0) (hl1 : ¬ (255 : Int32) < c1) :
    MetFree l (⟨"com/example/usher/usher/gateway/http/Http1Input", "isFieldValue", "(Ljava/lang/String;)Z"⟩ : MethodName) (head1 (Jvm.Cond.code (⟨"com/example/usher/usher/gateway/http/Http1Input", "isFieldValue", "(Ljava/lang/String;)Z"⟩ : MethodName) prog_2_method_17_code 3 (some .boolean) :: ws) ({ frames := 4, cells := 0, slots := 0, locals := 53 } : Room)) (fun aa_ U => aa_ = #[(.ref a)] ∧ Z.Warmed39 U.vm ∧ U.heap = h0) (fun _ _ _ _ _ => True) (fun _ U o_ U' => RetG U (Q_fv_2 Z a b kb c0 c1 cz fz h0 n0) 0 0 U' o_) := by
  refine MetFree.of_bodySF (plainFor_of_name own_pn2) hisR ?_
  intro p e s m args below meth c_ s₁ Bd hml0 hP hK
  obtain ⟨rfl, hZ, hh⟩ := hP
  have hx := Bd.exec
  have hby := Bd.bytes
  have hml : c_.maxLocals = 3 := hml0
  have hown : s.vm.findClass "com/example/usher/usher/gateway/http/Http1Input" = some m.cls := findClass_of_methodNamed Bd.named
  have hnm := (name_of_methodNamed Bd.named Bd.method).1
  have X0 : Stand p l e ({ frames := 4, cells := 0, slots := 0, locals := 53 } : Room) s m #[(.ref a)] below meth c_ s₁ [] 0 0 := Stand.of_body Bd
  have e0 : s₁.heap = h0 := by rw [← hh, Bd.state]; rfl
  have N0 := Fr.nil n0
  have w3_ := hw _ (List.mem_of_getElem? (i := 3) rfl)
  have w26_ := hw _ (List.mem_of_getElem? (i := 26) rfl)
  have w27_ := hw _ (List.mem_of_getElem? (i := 27) rfl)
  have w28_ := hw _ (List.mem_of_getElem? (i := 28) rfl)
  have w29_ := hw _ (List.mem_of_getElem? (i := 29) rfl)
  have w30_ := hw _ (List.mem_of_getElem? (i := 30) rfl)
  have w51_ := hw _ (List.mem_of_getElem? (i := 51) rfl)
  have w52_ := hw _ (List.mem_of_getElem? (i := 52) rfl)
  have w53_ := hw _ (List.mem_of_getElem? (i := 53) rfl)
  have w54_ := hw _ (List.mem_of_getElem? (i := 54) rfl)
  have w55_ := hw _ (List.mem_of_getElem? (i := 55) rfl)
  show Go p e below (RetG s (Q_fv_2 Z a b kb c0 c1 cz fz h0 n0) 0 0) (s₁.setTop (entryFrame m #[(.ref a)] 3))
  rw [show entryFrame m #[(.ref a)] 3 = mkF m 0 #[.val (.ref a), .unset, .unset] [] from by first | (simp [entryFrame, mkF, argsToLocals, Value.category]; done) | rfl]
  refine g_iconst X0 hx hby (0 : Int32) d4_0 rfl ?_
  refine g_istoreN X0 hx hby d4_1 (l' := #[.val (.ref a), .val (.int (0 : Int32)), .unset]) rfl ?_
  refine g_iloadN X0 hx hby d4_2 rfl ?_
  refine g_aloadN X0 hx hby d4_3 rfl rfl ?_
  refine g_virtual X0 hx hby hZ hown (rm_slen_2 l Z a0 hw [] a b kb [(.int (nar .byte (c0.toInt8.toInt32))), (.int (nar .byte (c1.toInt8.toInt32)))] cz h0 n0 Z0 O2 P5 OLD E C VF VB) w26_ w27_ (notFace_of_selects (args := #[]) (mvT hZ w29_)) w29_ w28_ w3_ w30_ (by decide) e0 E (by rw [hml]; rfl) [] (lenOf own_pd3 rfl) rfl rfl (Nat.le_of_ble_eq_true rfl) (Nat.le_of_ble_eq_true rfl) (Nat.le_of_ble_eq_true rfl) (Nat.le_of_ble_eq_true rfl) d4_4 (fun v1 T1 L1 X1 hQ1 => ?_)
  obtain ⟨rfl, N1q, eh1⟩ := hQ1
  have N1 := Fr.app N0 N1q
  refine g_icN X1 hx hby d4_7 (tlt (by decide : (0 : Int32) < (2 : Int32))).2.1 ?_
  refine g_aloadN X1 hx hby d4_10 rfl rfl ?_
  refine g_iloadN X1 hx hby d4_11 rfl ?_
  refine g_virtual X1 hx hby hZ hown (rm_schar_2 l Z a0 hw [] a b kb [(.int (nar .byte (c0.toInt8.toInt32))), (.int (nar .byte (c1.toInt8.toInt32)))] (0 : Int32) (nar .byte (c0.toInt8.toInt32)) fz cz h0 n0 Z0 O2 P5 OLD E C VF VB ⟨by decide, by decide⟩ rfl rfz O4) w51_ w52_ (notFace_of_selects (args := #[]) (mvT hZ w54_)) w54_ w53_ w3_ w55_ (by decide) eh1 E (by rw [hml]; rfl) [(.int (0 : Int32))] (lenOf own_pd18 rfl) rfl rfl (Nat.le_of_ble_eq_true rfl) (Nat.le_of_ble_eq_true rfl) (Nat.le_of_ble_eq_true rfl) (Nat.le_of_ble_eq_true rfl) d4_12 (fun v2 T2 L2 X2 hQ2 => ?_)
  obtain ⟨rfl, N2q, eh2⟩ := hQ2
  have N2 := Fr.app N1 N2q
  refine g_topI (T := T2) c0 (own_byte hr0 hl0) ?_
  refine g_istoreN X2 hx hby d4_15 (l' := #[.val (.ref a), .val (.int (0 : Int32)), .val (.int c0)]) rfl ?_
  have J3 : ∀ (T3 : State) (L3 : List Loc), Stand p l e ({ frames := 4, cells := 0, slots := 0, locals := 53 } : Room) s m #[(.ref a)] below meth c_ T3 L3 0 0 → T3.heap = h0 → Fr n0 L3 → (own_fv c0 = (1 : Int32)) → Go p e below (RetG s (Q_fv_2 Z a b kb c0 c1 cz fz h0 n0) 0 0) (T3.setTop (mkF m 43 #[.val (.ref a), .val (.int (0 : Int32)), .val (.int c0)] [])) := by
    intro T3 L3 X3 e3 N3 hp_c0
    refine g_iinc X3 hx hby (1 : Int32) d4_43 rfl (by decide) (l' := #[.val (.ref a), .val (.int (1 : Int32)), .val (.int c0)]) rfl ?_
    refine g_goto X3 hx hby 2 d4_46 (by decide) (by decide) ?_
    refine g_iloadN X3 hx hby d4_2 rfl ?_
    refine g_aloadN X3 hx hby d4_3 rfl rfl ?_
    refine g_virtual X3 hx hby hZ hown (rm_slen_2 l Z a0 hw [] a b kb [(.int (nar .byte (c0.toInt8.toInt32))), (.int (nar .byte (c1.toInt8.toInt32)))] cz h0 n0 Z0 O2 P5 OLD E C VF VB) w26_ w27_ (notFace_of_selects (args := #[]) (mvT hZ w29_)) w29_ w28_ w3_ w30_ (by decide) e3 E (by rw [hml]; rfl) [] (lenOf own_pd3 rfl) rfl rfl (Nat.le_of_ble_eq_true rfl) (Nat.le_of_ble_eq_true rfl) (Nat.le_of_ble_eq_true rfl) (Nat.le_of_ble_eq_true rfl) d4_4 (fun v4 T4 L4 X4 hQ4 => ?_)
    obtain ⟨rfl, N4q, eh4⟩ := hQ4
    have N4 := Fr.app N3 N4q
    refine g_icN X4 hx hby d4_7 (tlt (by decide : (1 : Int32) < (2 : Int32))).2.1 ?_
    refine g_aloadN X4 hx hby d4_10 rfl rfl ?_
    refine g_iloadN X4 hx hby d4_11 rfl ?_
    refine g_virtual X4 hx hby hZ hown (rm_schar_2 l Z a0 hw [] a b kb [(.int (nar .byte (c0.toInt8.toInt32))), (.int (nar .byte (c1.toInt8.toInt32)))] (1 : Int32) (nar .byte (c1.toInt8.toInt32)) fz cz h0 n0 Z0 O2 P5 OLD E C VF VB ⟨by decide, by decide⟩ rfl rfz O4) w51_ w52_ (notFace_of_selects (args := #[]) (mvT hZ w54_)) w54_ w53_ w3_ w55_ (by decide) eh4 E (by rw [hml]; rfl) [(.int (1 : Int32))] (lenOf own_pd18 rfl) rfl rfl (Nat.le_of_ble_eq_true rfl) (Nat.le_of_ble_eq_true rfl) (Nat.le_of_ble_eq_true rfl) (Nat.le_of_ble_eq_true rfl) d4_12 (fun v5 T5 L5 X5 hQ5 => ?_)
    obtain ⟨rfl, N5q, eh5⟩ := hQ5
    have N5 := Fr.app N4 N5q
    refine g_topI (T := T5) c1 (own_byte hr1 hl1) ?_
    refine g_istoreN X5 hx hby d4_15 (l' := #[.val (.ref a), .val (.int (1 : Int32)), .val (.int c1)]) rfl ?_
    have J6 : ∀ (T6 : State) (L6 : List Loc), Stand p l e ({ frames := 4, cells := 0, slots := 0, locals := 53 } : Room) s m #[(.ref a)] below meth c_ T6 L6 0 0 → T6.heap = h0 → Fr n0 L6 → (own_fv c1 = (1 : Int32)) → Go p e below (RetG s (Q_fv_2 Z a b kb c0 c1 cz fz h0 n0) 0 0) (T6.setTop (mkF m 43 #[.val (.ref a), .val (.int (1 : Int32)), .val (.int c1)] [])) := by
      intro T6 L6 X6 e6 N6 hp_c1
      refine g_iinc X6 hx hby (2 : Int32) d4_43 rfl (by decide) (l' := #[.val (.ref a), .val (.int (2 : Int32)), .val (.int c1)]) rfl ?_
      refine g_goto X6 hx hby 2 d4_46 (by decide) (by decide) ?_
      refine g_iloadN X6 hx hby d4_2 rfl ?_
      refine g_aloadN X6 hx hby d4_3 rfl rfl ?_
      refine g_virtual X6 hx hby hZ hown (rm_slen_2 l Z a0 hw [] a b kb [(.int (nar .byte (c0.toInt8.toInt32))), (.int (nar .byte (c1.toInt8.toInt32)))] cz h0 n0 Z0 O2 P5 OLD E C VF VB) w26_ w27_ (notFace_of_selects (args := #[]) (mvT hZ w29_)) w29_ w28_ w3_ w30_ (by decide) e6 E (by rw [hml]; rfl) [] (lenOf own_pd3 rfl) rfl rfl (Nat.le_of_ble_eq_true rfl) (Nat.le_of_ble_eq_true rfl) (Nat.le_of_ble_eq_true rfl) (Nat.le_of_ble_eq_true rfl) d4_4 (fun v7 T7 L7 X7 hQ7 => ?_)
      obtain ⟨rfl, N7q, eh7⟩ := hQ7
      have N7 := Fr.app N6 N7q
      refine g_icY X7 hx hby 49 d4_7 (flt (by decide : ¬ ((2 : Int32) < (2 : Int32)))).2.1 (by decide) (by decide) ?_
      refine g_iconst X7 hx hby (1 : Int32) d4_49 rfl ?_
      refine g_nret X7 hx hby (t := .boolean) (by simp) Bd.returns Bd.notSynchronized d4_50 eh7 (by decide) (by decide) ?_
      show (Q_fv_2 Z a b kb c0 c1 cz fz h0 n0) (some (.int (1 : Int32))) _ _
      exact ⟨by simp [own_fvs, hp_c0, hp_c1], N7, rfl⟩
    refine g_iloadN X5 hx hby d4_16 rfl ?_
    refine g_bipush X5 hx hby (32 : Int32) d4_17 rfl ?_
    by_cases hc19_8 : c1 < (32 : Int32)
    · skip
      refine g_icN X5 hx hby d4_19 (tlt hc19_8).2.1 ?_
      refine g_iloadN X5 hx hby d4_22 rfl ?_
      refine g_bipush X5 hx hby (9 : Int32) d4_23 rfl ?_
      by_cases hc25_9 : c1 = (9 : Int32)
      · skip
        refine g_icN X5 hx hby d4_25 (teq hc25_9).2 ?_
        refine g_iloadN X5 hx hby d4_28 rfl ?_
        refine g_at 29 rfl rfl rfl ?_
        refine g_bipush X5 hx hby (127 : Int32) d4_29 rfl ?_
        by_cases hc31_10 : c1 = (127 : Int32)
        · skip
          refine g_icY X5 hx hby 41 d4_31 (teq hc31_10).1 (by decide) (by decide) ?_
          refine g_iconst X5 hx hby (0 : Int32) d4_41 rfl ?_
          refine g_nret X5 hx hby (t := .boolean) (by simp) Bd.returns Bd.notSynchronized d4_42 eh5 (by decide) (by decide) ?_
          show (Q_fv_2 Z a b kb c0 c1 cz fz h0 n0) (some (.int (0 : Int32))) _ _
          have hz : own_fv c1 = (0 : Int32) := by first | (simp [own_fv, hc19_8, hc25_9, hc31_10]; done) | (exact absurd hc19_8 (by rw [hc25_9]; decide)) | (exact absurd hc31_10 (by rw [hc25_9]; decide))
          exact ⟨by simp [own_fvs, hz, hp_c0], N5, rfl⟩
        · skip
          refine g_icN X5 hx hby d4_31 (feq hc31_10).1 ?_
          refine g_iloadN X5 hx hby d4_34 rfl ?_
          refine g_sipush X5 hx hby (255 : Int32) d4_35 rfl ?_
          by_cases hc38_11 : (255 : Int32) < c1
          · skip
            refine g_icN X5 hx hby d4_38 (tlt hc38_11).2.2.2 ?_
            refine g_iconst X5 hx hby (0 : Int32) d4_41 rfl ?_
            refine g_nret X5 hx hby (t := .boolean) (by simp) Bd.returns Bd.notSynchronized d4_42 eh5 (by decide) (by decide) ?_
            show (Q_fv_2 Z a b kb c0 c1 cz fz h0 n0) (some (.int (0 : Int32))) _ _
            have hz : own_fv c1 = (0 : Int32) := by first | (simp [own_fv, hc19_8, hc25_9, hc31_10, hc38_11]; done) | (exact absurd hc19_8 (by rw [hc25_9]; decide)) | (exact absurd hc38_11 (by rw [hc25_9]; decide))
            exact ⟨by simp [own_fvs, hz, hp_c0], N5, rfl⟩
          · skip
            refine g_icY X5 hx hby 43 d4_38 (flt hc38_11).2.2.2 (by decide) (by decide) ?_
            exact J6 _ _ X5 eh5 N5 (by simp [own_fv, hc19_8, hc25_9, hc31_10, hc38_11])
      · skip
        refine g_icY X5 hx hby 41 d4_25 (feq hc25_9).2 (by decide) (by decide) ?_
        refine g_iconst X5 hx hby (0 : Int32) d4_41 rfl ?_
        refine g_nret X5 hx hby (t := .boolean) (by simp) Bd.returns Bd.notSynchronized d4_42 eh5 (by decide) (by decide) ?_
        show (Q_fv_2 Z a b kb c0 c1 cz fz h0 n0) (some (.int (0 : Int32))) _ _
        have hz : own_fv c1 = (0 : Int32) := by first | (simp [own_fv, hc19_8, hc25_9]; done)
        exact ⟨by simp [own_fvs, hz, hp_c0], N5, rfl⟩
    · skip
      refine g_icY X5 hx hby 28 d4_19 (flt hc19_8).2.1 (by decide) (by decide) ?_
      refine g_iloadN X5 hx hby d4_28 rfl ?_
      refine g_bipush X5 hx hby (127 : Int32) d4_29 rfl ?_
      by_cases hc31_12 : c1 = (127 : Int32)
      · skip
        refine g_icY X5 hx hby 41 d4_31 (teq hc31_12).1 (by decide) (by decide) ?_
        refine g_iconst X5 hx hby (0 : Int32) d4_41 rfl ?_
        refine g_nret X5 hx hby (t := .boolean) (by simp) Bd.returns Bd.notSynchronized d4_42 eh5 (by decide) (by decide) ?_
        show (Q_fv_2 Z a b kb c0 c1 cz fz h0 n0) (some (.int (0 : Int32))) _ _
        have hz : own_fv c1 = (0 : Int32) := by first | (simp [own_fv, hc19_8, hc31_12]; done)
        exact ⟨by simp [own_fvs, hz, hp_c0], N5, rfl⟩
      · skip
        refine g_icN X5 hx hby d4_31 (feq hc31_12).1 ?_
        refine g_iloadN X5 hx hby d4_34 rfl ?_
        refine g_sipush X5 hx hby (255 : Int32) d4_35 rfl ?_
        by_cases hc38_13 : (255 : Int32) < c1
        · skip
          refine g_icN X5 hx hby d4_38 (tlt hc38_13).2.2.2 ?_
          refine g_iconst X5 hx hby (0 : Int32) d4_41 rfl ?_
          refine g_nret X5 hx hby (t := .boolean) (by simp) Bd.returns Bd.notSynchronized d4_42 eh5 (by decide) (by decide) ?_
          show (Q_fv_2 Z a b kb c0 c1 cz fz h0 n0) (some (.int (0 : Int32))) _ _
          have hz : own_fv c1 = (0 : Int32) := by first | (simp [own_fv, hc19_8, hc31_12, hc38_13]; done)
          exact ⟨by simp [own_fvs, hz, hp_c0], N5, rfl⟩
        · skip
          refine g_icY X5 hx hby 43 d4_38 (flt hc38_13).2.2.2 (by decide) (by decide) ?_
          exact J6 _ _ X5 eh5 N5 (by simp [own_fv, hc19_8, hc31_12, hc38_13])
  refine g_iloadN X2 hx hby d4_16 rfl ?_
  refine g_bipush X2 hx hby (32 : Int32) d4_17 rfl ?_
  by_cases hc19_14 : c0 < (32 : Int32)
  · skip
    refine g_icN X2 hx hby d4_19 (tlt hc19_14).2.1 ?_
    refine g_iloadN X2 hx hby d4_22 rfl ?_
    refine g_bipush X2 hx hby (9 : Int32) d4_23 rfl ?_
    refine g_at 25 rfl rfl rfl ?_
    by_cases hc25_15 : c0 = (9 : Int32)
    · skip
      refine g_icN X2 hx hby d4_25 (teq hc25_15).2 ?_
      refine g_iloadN X2 hx hby d4_28 rfl ?_
      refine g_bipush X2 hx hby (127 : Int32) d4_29 rfl ?_
      by_cases hc31_16 : c0 = (127 : Int32)
      · skip
        refine g_icY X2 hx hby 41 d4_31 (teq hc31_16).1 (by decide) (by decide) ?_
        refine g_iconst X2 hx hby (0 : Int32) d4_41 rfl ?_
        refine g_nret X2 hx hby (t := .boolean) (by simp) Bd.returns Bd.notSynchronized d4_42 eh2 (by decide) (by decide) ?_
        show (Q_fv_2 Z a b kb c0 c1 cz fz h0 n0) (some (.int (0 : Int32))) _ _
        have hz : own_fv c0 = (0 : Int32) := by first | (simp [own_fv, hc19_14, hc25_15, hc31_16]; done) | (exact absurd hc19_14 (by rw [hc25_15]; decide)) | (exact absurd hc31_16 (by rw [hc25_15]; decide))
        exact ⟨by simp [own_fvs, hz], N2, rfl⟩
      · skip
        refine g_icN X2 hx hby d4_31 (feq hc31_16).1 ?_
        refine g_iloadN X2 hx hby d4_34 rfl ?_
        refine g_sipush X2 hx hby (255 : Int32) d4_35 rfl ?_
        by_cases hc38_17 : (255 : Int32) < c0
        · skip
          refine g_icN X2 hx hby d4_38 (tlt hc38_17).2.2.2 ?_
          refine g_iconst X2 hx hby (0 : Int32) d4_41 rfl ?_
          refine g_nret X2 hx hby (t := .boolean) (by simp) Bd.returns Bd.notSynchronized d4_42 eh2 (by decide) (by decide) ?_
          show (Q_fv_2 Z a b kb c0 c1 cz fz h0 n0) (some (.int (0 : Int32))) _ _
          have hz : own_fv c0 = (0 : Int32) := by first | (simp [own_fv, hc19_14, hc25_15, hc31_16, hc38_17]; done) | (exact absurd hc19_14 (by rw [hc25_15]; decide)) | (exact absurd hc38_17 (by rw [hc25_15]; decide))
          exact ⟨by simp [own_fvs, hz], N2, rfl⟩
        · skip
          refine g_icY X2 hx hby 43 d4_38 (flt hc38_17).2.2.2 (by decide) (by decide) ?_
          exact J3 _ _ X2 eh2 N2 (by simp [own_fv, hc19_14, hc25_15, hc31_16, hc38_17])
    · skip
      refine g_icY X2 hx hby 41 d4_25 (feq hc25_15).2 (by decide) (by decide) ?_
      refine g_iconst X2 hx hby (0 : Int32) d4_41 rfl ?_
      refine g_nret X2 hx hby (t := .boolean) (by simp) Bd.returns Bd.notSynchronized d4_42 eh2 (by decide) (by decide) ?_
      show (Q_fv_2 Z a b kb c0 c1 cz fz h0 n0) (some (.int (0 : Int32))) _ _
      have hz : own_fv c0 = (0 : Int32) := by first | (simp [own_fv, hc19_14, hc25_15]; done)
      exact ⟨by simp [own_fvs, hz], N2, rfl⟩
  · skip
    refine g_icY X2 hx hby 28 d4_19 (flt hc19_14).2.1 (by decide) (by decide) ?_
    refine g_iloadN X2 hx hby d4_28 rfl ?_
    refine g_bipush X2 hx hby (127 : Int32) d4_29 rfl ?_
    by_cases hc31_18 : c0 = (127 : Int32)
    · skip
      refine g_icY X2 hx hby 41 d4_31 (teq hc31_18).1 (by decide) (by decide) ?_
      refine g_iconst X2 hx hby (0 : Int32) d4_41 rfl ?_
      refine g_nret X2 hx hby (t := .boolean) (by simp) Bd.returns Bd.notSynchronized d4_42 eh2 (by decide) (by decide) ?_
      show (Q_fv_2 Z a b kb c0 c1 cz fz h0 n0) (some (.int (0 : Int32))) _ _
      have hz : own_fv c0 = (0 : Int32) := by first | (simp [own_fv, hc19_14, hc31_18]; done)
      exact ⟨by simp [own_fvs, hz], N2, rfl⟩
    · skip
      refine g_icN X2 hx hby d4_31 (feq hc31_18).1 ?_
      refine g_iloadN X2 hx hby d4_34 rfl ?_
      refine g_sipush X2 hx hby (255 : Int32) d4_35 rfl ?_
      by_cases hc38_19 : (255 : Int32) < c0
      · skip
        refine g_icN X2 hx hby d4_38 (tlt hc38_19).2.2.2 ?_
        refine g_iconst X2 hx hby (0 : Int32) d4_41 rfl ?_
        refine g_nret X2 hx hby (t := .boolean) (by simp) Bd.returns Bd.notSynchronized d4_42 eh2 (by decide) (by decide) ?_
        show (Q_fv_2 Z a b kb c0 c1 cz fz h0 n0) (some (.int (0 : Int32))) _ _
        have hz : own_fv c0 = (0 : Int32) := by first | (simp [own_fv, hc19_14, hc31_18, hc38_19]; done)
        exact ⟨by simp [own_fvs, hz], N2, rfl⟩
      · skip
        refine g_icY X2 hx hby 43 d4_38 (flt hc38_19).2.2.2 (by decide) (by decide) ?_
        exact J3 _ _ X2 eh2 N2 (by simp [own_fv, hc19_14, hc31_18, hc38_19])

def Q_cmp5f_3_0 (Z : State) (ca : Addr) (ba : Addr) (kc : ClassId) (kb : ClassId) (c0 : Int32) (c1 : Int32) (c2 : Int32) (h0 : Heap) (n0 : Nat) (v : Option Value) (h : Heap) (L : List Loc) : Prop := v = some (.int (0 : Int32)) ∧ Fr n0 L ∧ Keep h0 h [ba]
set_option maxRecDepth 65536 in
set_option maxHeartbeats 40000000 in
theorem rm_cmp5f_3_0 (l : Launch) (Z : State) (a0 : Array Value) (hw : ∀ d ∈ tables_1, d.before a0 Z = true) (ws : List Jvm.Cond) (ca : Addr) (ba : Addr) (kc : ClassId) (kb : ClassId) (c0 : Int32) (c1 : Int32) (c2 : Int32) (h0 : Heap) (n0 : Nat) (Z0 : n0 ≤ h0.size) (VC : Arv Z h0 ca kc .char (3 : Int32) [(.int c0), (.int c1), (.int c2)] (.int (0 : Int32))) (VB : Arv Z h0 ba kb .byte (3 : Int32) [(.int (0 : Int32)), (.int (0 : Int32)), (.int (0 : Int32))] (.int (0 : Int32))) (nab : ca ≠ ba) (gb : n0 ≤ ba) (hf : (255 : Int32) < c0) :
    MetFree l (⟨"java/lang/StringUTF16", "compress", "([CI[BII)I"⟩ : MethodName) (head1 (Jvm.Cond.code (⟨"java/lang/StringUTF16", "compress", "([CI[BII)I"⟩ : MethodName) jdk_52_method_21_code 7 (some .int) :: ws) ({ frames := 0, cells := 0, slots := 0, locals := 0 } : Room)) (fun aa_ U => aa_ = #[(.ref ca), (.int (0 : Int32)), (.ref ba), (.int (0 : Int32)), (.int (3 : Int32))] ∧ Z.Warmed39 U.vm ∧ U.heap = h0) (fun _ _ _ _ _ => True) (fun _ U o_ U' => RetG U (Q_cmp5f_3_0 Z ca ba kc kb c0 c1 c2 h0 n0) 0 0 U' o_) := by
  refine MetFree.of_bodySF (plainFor_of_name own_pn3) hisR ?_
  intro p e s m args below meth c_ s₁ Bd hml0 hP hK
  obtain ⟨rfl, hZ, hh⟩ := hP
  have hx := Bd.exec
  have hby := Bd.bytes
  have hml : c_.maxLocals = 7 := hml0
  have hown : s.vm.findClass "java/lang/StringUTF16" = some m.cls := findClass_of_methodNamed Bd.named
  have hnm := (name_of_methodNamed Bd.named Bd.method).1
  have X0 : Stand p l e ({ frames := 0, cells := 0, slots := 0, locals := 0 } : Room) s m #[(.ref ca), (.int (0 : Int32)), (.ref ba), (.int (0 : Int32)), (.int (3 : Int32))] below meth c_ s₁ [] 0 0 := Stand.of_body Bd
  have e0 : s₁.heap = h0 := by rw [← hh, Bd.state]; rfl
  have N0 := Fr.nil n0
  show Go p e below (RetG s (Q_cmp5f_3_0 Z ca ba kc kb c0 c1 c2 h0 n0) 0 0) (s₁.setTop (entryFrame m #[(.ref ca), (.int (0 : Int32)), (.ref ba), (.int (0 : Int32)), (.int (3 : Int32))] 7))
  rw [show entryFrame m #[(.ref ca), (.int (0 : Int32)), (.ref ba), (.int (0 : Int32)), (.int (3 : Int32))] 7 = mkF m 0 #[.val (.ref ca), .val (.int (0 : Int32)), .val (.ref ba), .val (.int (0 : Int32)), .val (.int (3 : Int32)), .unset, .unset] [] from by first | (simp [entryFrame, mkF, argsToLocals, Value.category]; done) | rfl]
  refine g_iconst X0 hx hby (0 : Int32) d8_0 rfl ?_
  refine g_istore X0 hx hby d8_1 (l' := #[.val (.ref ca), .val (.int (0 : Int32)), .val (.ref ba), .val (.int (0 : Int32)), .val (.int (3 : Int32)), .val (.int (0 : Int32)), .unset]) rfl ?_
  refine g_iload X0 hx hby d8_3 rfl ?_
  refine g_iload X0 hx hby d8_5 rfl ?_
  refine g_icN X0 hx hby d8_7 (tlt (by decide : (0 : Int32) < (3 : Int32))).2.1 ?_
  refine g_aloadN X0 hx hby d8_10 rfl rfl ?_
  refine g_iloadN X0 hx hby d8_11 rfl ?_
  refine g_caload X0 hx hby hZ e0 VC (.int c0) ⟨by decide, by decide⟩ rfl d8_12 ?_
  refine g_istore X0 hx hby d8_13 (l' := #[.val (.ref ca), .val (.int (0 : Int32)), .val (.ref ba), .val (.int (0 : Int32)), .val (.int (3 : Int32)), .val (.int (0 : Int32)), .val (.int c0)]) rfl ?_
  refine g_iload X0 hx hby d8_15 rfl ?_
  refine g_sipush X0 hx hby (255 : Int32) d8_17 rfl ?_
  refine g_icN X0 hx hby d8_20 (tlt (hf : (255 : Int32) < c0)).2.2.2 ?_
  refine g_iload X0 hx hby d8_23 rfl ?_
  refine g_iret X0 hx hby Bd.returns Bd.notSynchronized d8_25 e0 (by decide) (by decide) ?_
  show (Q_cmp5f_3_0 Z ca ba kc kb c0 c1 c2 h0 n0) (some (.int (0 : Int32))) _ _
  exact ⟨rfl, N0, (Keep.refl h0 [ba])⟩

def Q_nbl_3 (Z : State)  (h0 : Heap) (n0 : Nat) (v : Option Value) (h : Heap) (L : List Loc) : Prop := v = some (.int (6 : Int32)) ∧ Fr n0 L ∧ h = h0
set_option maxRecDepth 65536 in
set_option maxHeartbeats 40000000 in
theorem rm_nbl_3 (l : Launch) (Z : State) (a0 : Array Value) (hw : ∀ d ∈ tables_1, d.before a0 Z = true) (ws : List Jvm.Cond)  (h0 : Heap) (n0 : Nat) (Z0 : n0 ≤ h0.size) :
    MetFree l (⟨"java/lang/StringUTF16", "newBytesLength", "(I)I"⟩ : MethodName) (head1 (Jvm.Cond.code (⟨"java/lang/StringUTF16", "newBytesLength", "(I)I"⟩ : MethodName) jdk_52_method_3_code 1 (some .int) :: ws) ({ frames := 0, cells := 0, slots := 0, locals := 0 } : Room)) (fun aa_ U => aa_ = #[(.int (3 : Int32))] ∧ Z.Warmed39 U.vm ∧ U.heap = h0) (fun _ _ _ _ _ => True) (fun _ U o_ U' => RetG U (Q_nbl_3 Z h0 n0) 0 0 U' o_) := by
  refine MetFree.of_bodySF (plainFor_of_name own_pn3) hisR ?_
  intro p e s m args below meth c_ s₁ Bd hml0 hP hK
  obtain ⟨rfl, hZ, hh⟩ := hP
  have hx := Bd.exec
  have hby := Bd.bytes
  have hml : c_.maxLocals = 1 := hml0
  have hown : s.vm.findClass "java/lang/StringUTF16" = some m.cls := findClass_of_methodNamed Bd.named
  have hnm := (name_of_methodNamed Bd.named Bd.method).1
  have X0 : Stand p l e ({ frames := 0, cells := 0, slots := 0, locals := 0 } : Room) s m #[(.int (3 : Int32))] below meth c_ s₁ [] 0 0 := Stand.of_body Bd
  have e0 : s₁.heap = h0 := by rw [← hh, Bd.state]; rfl
  have N0 := Fr.nil n0
  have w82_ := hw _ (List.mem_of_getElem? (i := 82) rfl)
  show Go p e below (RetG s (Q_nbl_3 Z h0 n0) 0 0) (s₁.setTop (entryFrame m #[(.int (3 : Int32))] 1))
  rw [show entryFrame m #[(.int (3 : Int32))] 1 = mkF m 0 #[.val (.int (3 : Int32))] [] from by first | (simp [entryFrame, mkF, argsToLocals, Value.category]; done) | rfl]
  refine g_iloadN X0 hx hby d18_0 rfl ?_
  refine g_ifY X0 hx hby 12 d18_1 (flt (by decide : ¬ ((3 : Int32) < (0 : Int32)))).2.1 (by decide) (by decide) ?_
  refine g_iloadN X0 hx hby d18_12 rfl ?_
  refine g_ldcI X0 hx hby hZ hown w82_ d18_13 ?_
  refine g_icY X0 hx hby 55 d18_15 (tlt (by decide : (3 : Int32) < (1073741823 : Int32))).1 (by decide) (by decide) ?_
  refine g_iloadN X0 hx hby d18_55 rfl ?_
  refine g_iconst X0 hx hby (1 : Int32) d18_56 rfl ?_
  refine g_ishl X0 hx hby d18_57 ?_
  refine g_topI (6 : Int32) (by decide) ?_
  refine g_iret X0 hx hby Bd.returns Bd.notSynchronized d18_58 e0 (by decide) (by decide) ?_
  show (Q_nbl_3 Z h0 n0) (some (.int (6 : Int32))) _ _
  exact ⟨rfl, N0, rfl⟩

def Q_nbf_3 (Z : State)  (h0 : Heap) (n0 : Nat) (v : Option Value) (h : Heap) (L : List Loc) : Prop := Fr n0 L ∧ Keep h0 h [] ∧ ∃ (b : Addr) (kb : ClassId), v = some (.ref b) ∧ h0.size ≤ b ∧ Arv Z h b kb .byte (6 : Int32) [(.int (0 : Int32)), (.int (0 : Int32)), (.int (0 : Int32)), (.int (0 : Int32)), (.int (0 : Int32)), (.int (0 : Int32))] (.int (0 : Int32))
set_option maxRecDepth 65536 in
set_option maxHeartbeats 40000000 in
theorem rm_nbf_3 (l : Launch) (Z : State) (a0 : Array Value) (hw : ∀ d ∈ tables_1, d.before a0 Z = true) (ws : List Jvm.Cond)  (h0 : Heap) (n0 : Nat) (Z0 : n0 ≤ h0.size) :
    MetFree l (⟨"java/lang/StringUTF16", "newBytesFor", "(I)[B"⟩ : MethodName) (head1 (Jvm.Cond.code (⟨"java/lang/StringUTF16", "newBytesFor", "(I)[B"⟩ : MethodName) jdk_52_method_2_code 1 (some (.array .byte)) :: ws) ({ frames := 1, cells := 1, slots := 6, locals := 12 } : Room)) (fun aa_ U => aa_ = #[(.int (3 : Int32))] ∧ Z.Warmed39 U.vm ∧ U.heap = h0) (fun _ _ _ _ _ => True) (fun _ U o_ U' => RetG U (Q_nbf_3 Z h0 n0) 1 6 U' o_) := by
  refine MetFree.of_bodySF (plainFor_of_name own_pn3) hisR ?_
  intro p e s m args below meth c_ s₁ Bd hml0 hP hK
  obtain ⟨rfl, hZ, hh⟩ := hP
  have hx := Bd.exec
  have hby := Bd.bytes
  have hml : c_.maxLocals = 1 := hml0
  have hown : s.vm.findClass "java/lang/StringUTF16" = some m.cls := findClass_of_methodNamed Bd.named
  have hnm := (name_of_methodNamed Bd.named Bd.method).1
  have X0 : Stand p l e ({ frames := 1, cells := 1, slots := 6, locals := 12 } : Room) s m #[(.int (3 : Int32))] below meth c_ s₁ [] 0 0 := Stand.of_body Bd
  have e0 : s₁.heap = h0 := by rw [← hh, Bd.state]; rfl
  have N0 := Fr.nil n0
  have w15_ := hw _ (List.mem_of_getElem? (i := 15) rfl)
  have w39_ := hw _ (List.mem_of_getElem? (i := 39) rfl)
  have w79_ := hw _ (List.mem_of_getElem? (i := 79) rfl)
  have w80_ := hw _ (List.mem_of_getElem? (i := 80) rfl)
  have w81_ := hw _ (List.mem_of_getElem? (i := 81) rfl)
  show Go p e below (RetG s (Q_nbf_3 Z h0 n0) 1 6) (s₁.setTop (entryFrame m #[(.int (3 : Int32))] 1))
  rw [show entryFrame m #[(.int (3 : Int32))] 1 = mkF m 0 #[.val (.int (3 : Int32))] [] from by first | (simp [entryFrame, mkF, argsToLocals, Value.category]; done) | rfl]
  refine g_iloadN X0 hx hby d17_0 rfl ?_
  refine g_static X0 hx hby hZ hown (rm_nbl_3 l Z a0 hw []  h0 n0 Z0 ) w79_ w80_ w39_ w81_ (by decide) e0 (by rw [hml]; rfl) [(.int (3 : Int32))] (lenOf own_pd5 rfl) rfl rfl (Nat.le_of_ble_eq_true rfl) (Nat.le_of_ble_eq_true rfl) (Nat.le_of_ble_eq_true rfl) (Nat.le_of_ble_eq_true rfl) d17_1 (fun v1 T1 L1 X1 hQ1 => ?_)
  obtain ⟨rfl, N1q, eh1⟩ := hQ1
  have N1 := Fr.app N0 N1q
  refine g_newarray X1 hx hby hZ .byte .byte (.int (0 : Int32)) [(.int (0 : Int32)), (.int (0 : Int32)), (.int (0 : Int32)), (.int (0 : Int32)), (.int (0 : Int32)), (.int (0 : Int32))] rfl rfl w15_ eh1 (by decide) 6 rfl (by decide) (by decide) (by decide) (by decide) d17_4 (fun T2 h2 k2 b2 g2 X2 e2 E2 V2 => ?_)
  refine g_aret X2 hx hby (t := (.array .byte)) rfl rfl rfl Bd.returns Bd.notSynchronized d17_6 e2 (by decide) (by decide) ?_
  show (Q_nbf_3 Z h0 n0) (some (.ref b2)) _ _
  exact ⟨N1, ((Keep.refl h0 []).ext E2), b2, k2, rfl, (Nat.le_trans (Nat.le_refl _) (Nat.le_of_eq g2)), V2⟩

def Q_putc_3_0 (Z : State) (b : Addr) (kb : ClassId) (c : Int32) (v0 : Int32) (v1 : Int32) (v2 : Int32) (v3 : Int32) (v4 : Int32) (v5 : Int32) (h0 : Heap) (n0 : Nat) (v : Option Value) (h : Heap) (L : List Loc) : Prop := v = none ∧ Fr n0 L ∧ Keep h0 h [b] ∧ Arv Z h b kb .byte (6 : Int32) [(.int (own_lob c)), (.int (own_hib c)), (.int v2), (.int v3), (.int v4), (.int v5)] (.int (0 : Int32))
set_option maxRecDepth 65536 in
set_option maxHeartbeats 40000000 in
theorem rm_putc_3_0 (l : Launch) (Z : State) (a0 : Array Value) (hw : ∀ d ∈ tables_1, d.before a0 Z = true) (ws : List Jvm.Cond) (b : Addr) (kb : ClassId) (c : Int32) (v0 : Int32) (v1 : Int32) (v2 : Int32) (v3 : Int32) (v4 : Int32) (v5 : Int32) (h0 : Heap) (n0 : Nat) (Z0 : n0 ≤ h0.size) (Uad : Sta Z Z.heap "java/lang/StringUTF16" "$assertionsDisabled" "Z" (.int (1 : Int32))) (Uhi : Sta Z Z.heap "java/lang/StringUTF16" "HI_BYTE_SHIFT" "I" (.int (0 : Int32))) (Ulo : Sta Z Z.heap "java/lang/StringUTF16" "LO_BYTE_SHIFT" "I" (.int (8 : Int32))) (OLD : Old Z n0 h0) (VB : Arv Z h0 b kb .byte (6 : Int32) [(.int v0), (.int v1), (.int v2), (.int v3), (.int v4), (.int v5)] (.int (0 : Int32))) (gb : n0 ≤ b) :
    MetFree l (⟨"java/lang/StringUTF16", "putChar", "([BII)V"⟩ : MethodName) (head1 (Jvm.Cond.code (⟨"java/lang/StringUTF16", "putChar", "([BII)V"⟩ : MethodName) jdk_52_method_4_code 3 none :: ws) ({ frames := 0, cells := 0, slots := 0, locals := 0 } : Room)) (fun aa_ U => aa_ = #[(.ref b), (.int (0 : Int32)), (.int c)] ∧ Z.Warmed39 U.vm ∧ U.heap = h0) (fun _ _ _ _ _ => True) (fun _ U o_ U' => RetG U (Q_putc_3_0 Z b kb c v0 v1 v2 v3 v4 v5 h0 n0) 0 0 U' o_) := by
  refine MetFree.of_bodySF (plainFor_of_name own_pn3) hisR ?_
  intro p e s m args below meth c_ s₁ Bd hml0 hP hK
  obtain ⟨rfl, hZ, hh⟩ := hP
  have hx := Bd.exec
  have hby := Bd.bytes
  have hml : c_.maxLocals = 3 := hml0
  have hown : s.vm.findClass "java/lang/StringUTF16" = some m.cls := findClass_of_methodNamed Bd.named
  have hnm := (name_of_methodNamed Bd.named Bd.method).1
  have X0 : Stand p l e ({ frames := 0, cells := 0, slots := 0, locals := 0 } : Room) s m #[(.ref b), (.int (0 : Int32)), (.int c)] below meth c_ s₁ [] 0 0 := Stand.of_body Bd
  have e0 : s₁.heap = h0 := by rw [← hh, Bd.state]; rfl
  have N0 := Fr.nil n0
  have w86_ := hw _ (List.mem_of_getElem? (i := 86) rfl)
  have w87_ := hw _ (List.mem_of_getElem? (i := 87) rfl)
  have w88_ := hw _ (List.mem_of_getElem? (i := 88) rfl)
  show Go p e below (RetG s (Q_putc_3_0 Z b kb c v0 v1 v2 v3 v4 v5 h0 n0) 0 0) (s₁.setTop (entryFrame m #[(.ref b), (.int (0 : Int32)), (.int c)] 3))
  rw [show entryFrame m #[(.ref b), (.int (0 : Int32)), (.int c)] 3 = mkF m 0 #[.val (.ref b), .val (.int (0 : Int32)), .val (.int c)] [] from by first | (simp [entryFrame, mkF, argsToLocals, Value.category]; done) | rfl]
  refine g_getS X0 hx hby hZ hown (host := "") (Or.inl w86_) Via.refl e0 (Uad.ext OLD.2) d19_0 (fun T1 X1 e1 => ?_)
  refine g_ifY X1 hx hby 28 d19_3 (feq (by decide : ¬ ((1 : Int32) = (0 : Int32)))).2 (by decide) (by decide) ?_
  refine g_iloadN X1 hx hby d19_28 rfl ?_
  refine g_iconst X1 hx hby (1 : Int32) d19_29 rfl ?_
  refine g_ishl X1 hx hby d19_30 ?_
  refine g_topI (0 : Int32) (by decide) ?_
  refine g_istoreN X1 hx hby d19_31 (l' := #[.val (.ref b), .val (.int (0 : Int32)), .val (.int c)]) rfl ?_
  refine g_aloadN X1 hx hby d19_32 rfl rfl ?_
  refine g_iloadN X1 hx hby d19_33 rfl ?_
  refine g_iinc X1 hx hby (1 : Int32) d19_34 rfl (by decide) (l' := #[.val (.ref b), .val (.int (1 : Int32)), .val (.int c)]) rfl ?_
  refine g_iloadN X1 hx hby d19_37 rfl ?_
  refine g_getS X1 hx hby hZ hown (host := "") (Or.inl w87_) Via.refl e1 (Uhi.ext OLD.2) d19_38 (fun T2 X2 e2 => ?_)
  refine g_ishr X2 hx hby d19_41 ?_
  refine g_i2b X2 hx hby d19_42 ?_
  refine g_bastore X2 hx hby hZ e2 VB 0 [(.int (nar .byte ((c >>> ((0 : Int32) &&& 31)).toInt8.toInt32))), (.int v1), (.int v2), (.int v3), (.int v4), (.int v5)] rfl ⟨by decide, by decide⟩ rfl (Nat.le_of_ble_eq_true rfl) N0 gb d19_43 (fun T3 h3 X3 e3 W3 V3 N3 => ?_)
  refine g_aloadN X3 hx hby d19_44 rfl rfl ?_
  refine g_iloadN X3 hx hby d19_45 rfl ?_
  refine g_iloadN X3 hx hby d19_46 rfl ?_
  have f4 := (OLD.wr W3 gb)
  refine g_getS X3 hx hby hZ hown (host := "") (Or.inl w88_) Via.refl e3 (Ulo.ext f4.2) d19_47 (fun T5 X5 e5 => ?_)
  refine g_ishr X5 hx hby d19_50 ?_
  refine g_i2b X5 hx hby d19_51 ?_
  refine g_bastore X5 hx hby hZ e5 V3 1 [(.int (nar .byte ((c >>> ((0 : Int32) &&& 31)).toInt8.toInt32))), (.int (nar .byte ((c >>> ((8 : Int32) &&& 31)).toInt8.toInt32))), (.int v2), (.int v3), (.int v4), (.int v5)] rfl ⟨by decide, by decide⟩ rfl (Nat.le_of_ble_eq_true rfl) N3 gb d19_52 (fun T6 h6 X6 e6 W6 V6 N6 => ?_)
  refine g_ret X6 hx hby Bd.returns Bd.notSynchronized d19_53 e6 (by decide) (by decide) ?_
  show (Q_putc_3_0 Z b kb c v0 v1 v2 v3 v4 v5 h0 n0) none _ _
  exact ⟨rfl, N6, (((Keep.refl h0 [b]).wr W3 (Or.inl (List.mem_of_getElem? (i := 0) rfl))).wr W6 (Or.inl (List.mem_of_getElem? (i := 0) rfl))), V6⟩

def Q_putc_3_1 (Z : State) (b : Addr) (kb : ClassId) (c : Int32) (v0 : Int32) (v1 : Int32) (v2 : Int32) (v3 : Int32) (v4 : Int32) (v5 : Int32) (h0 : Heap) (n0 : Nat) (v : Option Value) (h : Heap) (L : List Loc) : Prop := v = none ∧ Fr n0 L ∧ Keep h0 h [b] ∧ Arv Z h b kb .byte (6 : Int32) [(.int v0), (.int v1), (.int (own_lob c)), (.int (own_hib c)), (.int v4), (.int v5)] (.int (0 : Int32))
set_option maxRecDepth 65536 in
set_option maxHeartbeats 40000000 in
theorem rm_putc_3_1 (l : Launch) (Z : State) (a0 : Array Value) (hw : ∀ d ∈ tables_1, d.before a0 Z = true) (ws : List Jvm.Cond) (b : Addr) (kb : ClassId) (c : Int32) (v0 : Int32) (v1 : Int32) (v2 : Int32) (v3 : Int32) (v4 : Int32) (v5 : Int32) (h0 : Heap) (n0 : Nat) (Z0 : n0 ≤ h0.size) (Uad : Sta Z Z.heap "java/lang/StringUTF16" "$assertionsDisabled" "Z" (.int (1 : Int32))) (Uhi : Sta Z Z.heap "java/lang/StringUTF16" "HI_BYTE_SHIFT" "I" (.int (0 : Int32))) (Ulo : Sta Z Z.heap "java/lang/StringUTF16" "LO_BYTE_SHIFT" "I" (.int (8 : Int32))) (OLD : Old Z n0 h0) (VB : Arv Z h0 b kb .byte (6 : Int32) [(.int v0), (.int v1), (.int v2), (.int v3), (.int v4), (.int v5)] (.int (0 : Int32))) (gb : n0 ≤ b) :
    MetFree l (⟨"java/lang/StringUTF16", "putChar", "([BII)V"⟩ : MethodName) (head1 (Jvm.Cond.code (⟨"java/lang/StringUTF16", "putChar", "([BII)V"⟩ : MethodName) jdk_52_method_4_code 3 none :: ws) ({ frames := 0, cells := 0, slots := 0, locals := 0 } : Room)) (fun aa_ U => aa_ = #[(.ref b), (.int (1 : Int32)), (.int c)] ∧ Z.Warmed39 U.vm ∧ U.heap = h0) (fun _ _ _ _ _ => True) (fun _ U o_ U' => RetG U (Q_putc_3_1 Z b kb c v0 v1 v2 v3 v4 v5 h0 n0) 0 0 U' o_) := by
  refine MetFree.of_bodySF (plainFor_of_name own_pn3) hisR ?_
  intro p e s m args below meth c_ s₁ Bd hml0 hP hK
  obtain ⟨rfl, hZ, hh⟩ := hP
  have hx := Bd.exec
  have hby := Bd.bytes
  have hml : c_.maxLocals = 3 := hml0
  have hown : s.vm.findClass "java/lang/StringUTF16" = some m.cls := findClass_of_methodNamed Bd.named
  have hnm := (name_of_methodNamed Bd.named Bd.method).1
  have X0 : Stand p l e ({ frames := 0, cells := 0, slots := 0, locals := 0 } : Room) s m #[(.ref b), (.int (1 : Int32)), (.int c)] below meth c_ s₁ [] 0 0 := Stand.of_body Bd
  have e0 : s₁.heap = h0 := by rw [← hh, Bd.state]; rfl
  have N0 := Fr.nil n0
  have w86_ := hw _ (List.mem_of_getElem? (i := 86) rfl)
  have w87_ := hw _ (List.mem_of_getElem? (i := 87) rfl)
  have w88_ := hw _ (List.mem_of_getElem? (i := 88) rfl)
  show Go p e below (RetG s (Q_putc_3_1 Z b kb c v0 v1 v2 v3 v4 v5 h0 n0) 0 0) (s₁.setTop (entryFrame m #[(.ref b), (.int (1 : Int32)), (.int c)] 3))
  rw [show entryFrame m #[(.ref b), (.int (1 : Int32)), (.int c)] 3 = mkF m 0 #[.val (.ref b), .val (.int (1 : Int32)), .val (.int c)] [] from by first | (simp [entryFrame, mkF, argsToLocals, Value.category]; done) | rfl]
  refine g_getS X0 hx hby hZ hown (host := "") (Or.inl w86_) Via.refl e0 (Uad.ext OLD.2) d19_0 (fun T1 X1 e1 => ?_)
  refine g_ifY X1 hx hby 28 d19_3 (feq (by decide : ¬ ((1 : Int32) = (0 : Int32)))).2 (by decide) (by decide) ?_
  refine g_iloadN X1 hx hby d19_28 rfl ?_
  refine g_iconst X1 hx hby (1 : Int32) d19_29 rfl ?_
  refine g_ishl X1 hx hby d19_30 ?_
  refine g_topI (2 : Int32) (by decide) ?_
  refine g_istoreN X1 hx hby d19_31 (l' := #[.val (.ref b), .val (.int (2 : Int32)), .val (.int c)]) rfl ?_
  refine g_aloadN X1 hx hby d19_32 rfl rfl ?_
  refine g_iloadN X1 hx hby d19_33 rfl ?_
  refine g_iinc X1 hx hby (3 : Int32) d19_34 rfl (by decide) (l' := #[.val (.ref b), .val (.int (3 : Int32)), .val (.int c)]) rfl ?_
  refine g_iloadN X1 hx hby d19_37 rfl ?_
  refine g_getS X1 hx hby hZ hown (host := "") (Or.inl w87_) Via.refl e1 (Uhi.ext OLD.2) d19_38 (fun T2 X2 e2 => ?_)
  refine g_ishr X2 hx hby d19_41 ?_
  refine g_i2b X2 hx hby d19_42 ?_
  refine g_bastore X2 hx hby hZ e2 VB 2 [(.int v0), (.int v1), (.int (nar .byte ((c >>> ((0 : Int32) &&& 31)).toInt8.toInt32))), (.int v3), (.int v4), (.int v5)] rfl ⟨by decide, by decide⟩ rfl (Nat.le_of_ble_eq_true rfl) N0 gb d19_43 (fun T3 h3 X3 e3 W3 V3 N3 => ?_)
  refine g_aloadN X3 hx hby d19_44 rfl rfl ?_
  refine g_iloadN X3 hx hby d19_45 rfl ?_
  refine g_iloadN X3 hx hby d19_46 rfl ?_
  have f4 := (OLD.wr W3 gb)
  refine g_getS X3 hx hby hZ hown (host := "") (Or.inl w88_) Via.refl e3 (Ulo.ext f4.2) d19_47 (fun T5 X5 e5 => ?_)
  refine g_ishr X5 hx hby d19_50 ?_
  refine g_i2b X5 hx hby d19_51 ?_
  refine g_bastore X5 hx hby hZ e5 V3 3 [(.int v0), (.int v1), (.int (nar .byte ((c >>> ((0 : Int32) &&& 31)).toInt8.toInt32))), (.int (nar .byte ((c >>> ((8 : Int32) &&& 31)).toInt8.toInt32))), (.int v4), (.int v5)] rfl ⟨by decide, by decide⟩ rfl (Nat.le_of_ble_eq_true rfl) N3 gb d19_52 (fun T6 h6 X6 e6 W6 V6 N6 => ?_)
  refine g_ret X6 hx hby Bd.returns Bd.notSynchronized d19_53 e6 (by decide) (by decide) ?_
  show (Q_putc_3_1 Z b kb c v0 v1 v2 v3 v4 v5 h0 n0) none _ _
  exact ⟨rfl, N6, (((Keep.refl h0 [b]).wr W3 (Or.inl (List.mem_of_getElem? (i := 0) rfl))).wr W6 (Or.inl (List.mem_of_getElem? (i := 0) rfl))), V6⟩

def Q_putc_3_2 (Z : State) (b : Addr) (kb : ClassId) (c : Int32) (v0 : Int32) (v1 : Int32) (v2 : Int32) (v3 : Int32) (v4 : Int32) (v5 : Int32) (h0 : Heap) (n0 : Nat) (v : Option Value) (h : Heap) (L : List Loc) : Prop := v = none ∧ Fr n0 L ∧ Keep h0 h [b] ∧ Arv Z h b kb .byte (6 : Int32) [(.int v0), (.int v1), (.int v2), (.int v3), (.int (own_lob c)), (.int (own_hib c))] (.int (0 : Int32))
set_option maxRecDepth 65536 in
set_option maxHeartbeats 40000000 in
theorem rm_putc_3_2 (l : Launch) (Z : State) (a0 : Array Value) (hw : ∀ d ∈ tables_1, d.before a0 Z = true) (ws : List Jvm.Cond) (b : Addr) (kb : ClassId) (c : Int32) (v0 : Int32) (v1 : Int32) (v2 : Int32) (v3 : Int32) (v4 : Int32) (v5 : Int32) (h0 : Heap) (n0 : Nat) (Z0 : n0 ≤ h0.size) (Uad : Sta Z Z.heap "java/lang/StringUTF16" "$assertionsDisabled" "Z" (.int (1 : Int32))) (Uhi : Sta Z Z.heap "java/lang/StringUTF16" "HI_BYTE_SHIFT" "I" (.int (0 : Int32))) (Ulo : Sta Z Z.heap "java/lang/StringUTF16" "LO_BYTE_SHIFT" "I" (.int (8 : Int32))) (OLD : Old Z n0 h0) (VB : Arv Z h0 b kb .byte (6 : Int32) [(.int v0), (.int v1), (.int v2), (.int v3), (.int v4), (.int v5)] (.int (0 : Int32))) (gb : n0 ≤ b) :
    MetFree l (⟨"java/lang/StringUTF16", "putChar", "([BII)V"⟩ : MethodName) (head1 (Jvm.Cond.code (⟨"java/lang/StringUTF16", "putChar", "([BII)V"⟩ : MethodName) jdk_52_method_4_code 3 none :: ws) ({ frames := 0, cells := 0, slots := 0, locals := 0 } : Room)) (fun aa_ U => aa_ = #[(.ref b), (.int (2 : Int32)), (.int c)] ∧ Z.Warmed39 U.vm ∧ U.heap = h0) (fun _ _ _ _ _ => True) (fun _ U o_ U' => RetG U (Q_putc_3_2 Z b kb c v0 v1 v2 v3 v4 v5 h0 n0) 0 0 U' o_) := by
  refine MetFree.of_bodySF (plainFor_of_name own_pn3) hisR ?_
  intro p e s m args below meth c_ s₁ Bd hml0 hP hK
  obtain ⟨rfl, hZ, hh⟩ := hP
  have hx := Bd.exec
  have hby := Bd.bytes
  have hml : c_.maxLocals = 3 := hml0
  have hown : s.vm.findClass "java/lang/StringUTF16" = some m.cls := findClass_of_methodNamed Bd.named
  have hnm := (name_of_methodNamed Bd.named Bd.method).1
  have X0 : Stand p l e ({ frames := 0, cells := 0, slots := 0, locals := 0 } : Room) s m #[(.ref b), (.int (2 : Int32)), (.int c)] below meth c_ s₁ [] 0 0 := Stand.of_body Bd
  have e0 : s₁.heap = h0 := by rw [← hh, Bd.state]; rfl
  have N0 := Fr.nil n0
  have w86_ := hw _ (List.mem_of_getElem? (i := 86) rfl)
  have w87_ := hw _ (List.mem_of_getElem? (i := 87) rfl)
  have w88_ := hw _ (List.mem_of_getElem? (i := 88) rfl)
  show Go p e below (RetG s (Q_putc_3_2 Z b kb c v0 v1 v2 v3 v4 v5 h0 n0) 0 0) (s₁.setTop (entryFrame m #[(.ref b), (.int (2 : Int32)), (.int c)] 3))
  rw [show entryFrame m #[(.ref b), (.int (2 : Int32)), (.int c)] 3 = mkF m 0 #[.val (.ref b), .val (.int (2 : Int32)), .val (.int c)] [] from by first | (simp [entryFrame, mkF, argsToLocals, Value.category]; done) | rfl]
  refine g_getS X0 hx hby hZ hown (host := "") (Or.inl w86_) Via.refl e0 (Uad.ext OLD.2) d19_0 (fun T1 X1 e1 => ?_)
  refine g_ifY X1 hx hby 28 d19_3 (feq (by decide : ¬ ((1 : Int32) = (0 : Int32)))).2 (by decide) (by decide) ?_
  refine g_iloadN X1 hx hby d19_28 rfl ?_
  refine g_iconst X1 hx hby (1 : Int32) d19_29 rfl ?_
  refine g_ishl X1 hx hby d19_30 ?_
  refine g_topI (4 : Int32) (by decide) ?_
  refine g_istoreN X1 hx hby d19_31 (l' := #[.val (.ref b), .val (.int (4 : Int32)), .val (.int c)]) rfl ?_
  refine g_aloadN X1 hx hby d19_32 rfl rfl ?_
  refine g_iloadN X1 hx hby d19_33 rfl ?_
  refine g_iinc X1 hx hby (5 : Int32) d19_34 rfl (by decide) (l' := #[.val (.ref b), .val (.int (5 : Int32)), .val (.int c)]) rfl ?_
  refine g_iloadN X1 hx hby d19_37 rfl ?_
  refine g_getS X1 hx hby hZ hown (host := "") (Or.inl w87_) Via.refl e1 (Uhi.ext OLD.2) d19_38 (fun T2 X2 e2 => ?_)
  refine g_ishr X2 hx hby d19_41 ?_
  refine g_i2b X2 hx hby d19_42 ?_
  refine g_bastore X2 hx hby hZ e2 VB 4 [(.int v0), (.int v1), (.int v2), (.int v3), (.int (nar .byte ((c >>> ((0 : Int32) &&& 31)).toInt8.toInt32))), (.int v5)] rfl ⟨by decide, by decide⟩ rfl (Nat.le_of_ble_eq_true rfl) N0 gb d19_43 (fun T3 h3 X3 e3 W3 V3 N3 => ?_)
  refine g_aloadN X3 hx hby d19_44 rfl rfl ?_
  refine g_iloadN X3 hx hby d19_45 rfl ?_
  refine g_iloadN X3 hx hby d19_46 rfl ?_
  have f4 := (OLD.wr W3 gb)
  refine g_getS X3 hx hby hZ hown (host := "") (Or.inl w88_) Via.refl e3 (Ulo.ext f4.2) d19_47 (fun T5 X5 e5 => ?_)
  refine g_ishr X5 hx hby d19_50 ?_
  refine g_i2b X5 hx hby d19_51 ?_
  refine g_bastore X5 hx hby hZ e5 V3 5 [(.int v0), (.int v1), (.int v2), (.int v3), (.int (nar .byte ((c >>> ((0 : Int32) &&& 31)).toInt8.toInt32))), (.int (nar .byte ((c >>> ((8 : Int32) &&& 31)).toInt8.toInt32)))] rfl ⟨by decide, by decide⟩ rfl (Nat.le_of_ble_eq_true rfl) N3 gb d19_52 (fun T6 h6 X6 e6 W6 V6 N6 => ?_)
  refine g_ret X6 hx hby Bd.returns Bd.notSynchronized d19_53 e6 (by decide) (by decide) ?_
  show (Q_putc_3_2 Z b kb c v0 v1 v2 v3 v4 v5 h0 n0) none _ _
  exact ⟨rfl, N6, (((Keep.refl h0 [b]).wr W3 (Or.inl (List.mem_of_getElem? (i := 0) rfl))).wr W6 (Or.inl (List.mem_of_getElem? (i := 0) rfl))), V6⟩

def Q_tob_3 (Z : State) (ca : Addr) (kc : ClassId) (c0 : Int32) (c1 : Int32) (c2 : Int32) (h0 : Heap) (n0 : Nat) (v : Option Value) (h : Heap) (L : List Loc) : Prop := Fr n0 L ∧ Keep h0 h [] ∧ ∃ (b : Addr) (kb : ClassId), v = some (.ref b) ∧ h0.size ≤ b ∧ Arv Z h b kb .byte (6 : Int32) [(.int (own_lob c0)), (.int (own_hib c0)), (.int (own_lob c1)), (.int (own_hib c1)), (.int (own_lob c2)), (.int (own_hib c2))] (.int (0 : Int32))
set_option maxRecDepth 65536 in
set_option maxHeartbeats 40000000 in
theorem rm_tob_3 (l : Launch) (Z : State) (a0 : Array Value) (hw : ∀ d ∈ tables_1, d.before a0 Z = true) (ws : List Jvm.Cond) (ca : Addr) (kc : ClassId) (c0 : Int32) (c1 : Int32) (c2 : Int32) (h0 : Heap) (n0 : Nat) (Z0 : n0 ≤ h0.size) (Uad : Sta Z Z.heap "java/lang/StringUTF16" "$assertionsDisabled" "Z" (.int (1 : Int32))) (Uhi : Sta Z Z.heap "java/lang/StringUTF16" "HI_BYTE_SHIFT" "I" (.int (0 : Int32))) (Ulo : Sta Z Z.heap "java/lang/StringUTF16" "LO_BYTE_SHIFT" "I" (.int (8 : Int32))) (OLD : Old Z n0 h0) (VC : Arv Z h0 ca kc .char (3 : Int32) [(.int c0), (.int c1), (.int c2)] (.int (0 : Int32))) :
    MetFree l (⟨"java/lang/StringUTF16", "toBytes", "([CII)[B"⟩ : MethodName) (head1 (Jvm.Cond.code (⟨"java/lang/StringUTF16", "toBytes", "([CII)[B"⟩ : MethodName) jdk_52_method_14_code 5 (some (.array .byte)) :: ws) ({ frames := 2, cells := 1, slots := 6, locals := 24 } : Room)) (fun aa_ U => aa_ = #[(.ref ca), (.int (0 : Int32)), (.int (3 : Int32))] ∧ Z.Warmed39 U.vm ∧ U.heap = h0) (fun _ _ _ _ _ => True) (fun _ U o_ U' => RetG U (Q_tob_3 Z ca kc c0 c1 c2 h0 n0) 1 6 U' o_) := by
  refine MetFree.of_bodySF (plainFor_of_name own_pn3) hisR ?_
  intro p e s m args below meth c_ s₁ Bd hml0 hP hK
  obtain ⟨rfl, hZ, hh⟩ := hP
  have hx := Bd.exec
  have hby := Bd.bytes
  have hml : c_.maxLocals = 5 := hml0
  have hown : s.vm.findClass "java/lang/StringUTF16" = some m.cls := findClass_of_methodNamed Bd.named
  have hnm := (name_of_methodNamed Bd.named Bd.method).1
  have X0 : Stand p l e ({ frames := 2, cells := 1, slots := 6, locals := 24 } : Room) s m #[(.ref ca), (.int (0 : Int32)), (.int (3 : Int32))] below meth c_ s₁ [] 0 0 := Stand.of_body Bd
  have e0 : s₁.heap = h0 := by rw [← hh, Bd.state]; rfl
  have N0 := Fr.nil n0
  have w39_ := hw _ (List.mem_of_getElem? (i := 39) rfl)
  have w76_ := hw _ (List.mem_of_getElem? (i := 76) rfl)
  have w77_ := hw _ (List.mem_of_getElem? (i := 77) rfl)
  have w78_ := hw _ (List.mem_of_getElem? (i := 78) rfl)
  have w83_ := hw _ (List.mem_of_getElem? (i := 83) rfl)
  have w84_ := hw _ (List.mem_of_getElem? (i := 84) rfl)
  have w85_ := hw _ (List.mem_of_getElem? (i := 85) rfl)
  show Go p e below (RetG s (Q_tob_3 Z ca kc c0 c1 c2 h0 n0) 1 6) (s₁.setTop (entryFrame m #[(.ref ca), (.int (0 : Int32)), (.int (3 : Int32))] 5))
  rw [show entryFrame m #[(.ref ca), (.int (0 : Int32)), (.int (3 : Int32))] 5 = mkF m 0 #[.val (.ref ca), .val (.int (0 : Int32)), .val (.int (3 : Int32)), .unset, .unset] [] from by first | (simp [entryFrame, mkF, argsToLocals, Value.category]; done) | rfl]
  refine g_iloadN X0 hx hby d16_0 rfl ?_
  refine g_static X0 hx hby hZ hown (rm_nbf_3 l Z a0 hw []  h0 n0 Z0 ) w76_ w77_ w39_ w78_ (by decide) e0 (by rw [hml]; rfl) [(.int (3 : Int32))] (lenOf own_pd6 rfl) rfl rfl (Nat.le_of_ble_eq_true rfl) (Nat.le_of_ble_eq_true rfl) (Nat.le_of_ble_eq_true rfl) (Nat.le_of_ble_eq_true rfl) d16_1 (fun v1 T1 L1 X1 hQ1 => ?_)
  obtain ⟨N1q, K1, bb, kbb, rfl, lob, Vb⟩ := hQ1
  have N1 := Fr.app N0 N1q
  refine g_astoreN X1 hx hby d16_4 rfl (l' := #[.val (.ref ca), .val (.int (0 : Int32)), .val (.int (3 : Int32)), .val (.ref bb), .unset]) rfl ?_
  refine g_iconst X1 hx hby (0 : Int32) d16_5 rfl ?_
  refine g_istore X1 hx hby d16_6 (l' := #[.val (.ref ca), .val (.int (0 : Int32)), .val (.int (3 : Int32)), .val (.ref bb), .val (.int (0 : Int32))]) rfl ?_
  refine g_iload X1 hx hby d16_8 rfl ?_
  refine g_iloadN X1 hx hby d16_10 rfl ?_
  refine g_icN X1 hx hby d16_11 (tlt (by decide : (0 : Int32) < (3 : Int32))).2.1 ?_
  refine g_aloadN X1 hx hby d16_14 rfl rfl ?_
  refine g_iload X1 hx hby d16_15 rfl ?_
  refine g_aloadN X1 hx hby d16_17 rfl rfl ?_
  refine g_iloadN X1 hx hby d16_18 rfl ?_
  have f2 := (VC.keep K1 nin0)
  refine g_caload X1 hx hby hZ rfl f2 (.int c0) ⟨by decide, by decide⟩ rfl d16_19 ?_
  have f4 := (OLD.keep K1 all0)
  have g_bb : n0 ≤ bb := Nat.le_trans Z0 lob
  have z5 := (Nat.le_trans Z0 K1.1)
  refine g_static X1 hx hby hZ hown (rm_putc_3_0 l Z a0 hw [] bb kbb c0 (0 : Int32) (0 : Int32) (0 : Int32) (0 : Int32) (0 : Int32) (0 : Int32) T1.heap n0 z5 Uad Uhi Ulo f4 Vb g_bb) w83_ w84_ w39_ w85_ (by decide) rfl (by rw [hml]; rfl) [(.ref bb), (.int (0 : Int32)), (.int c0)] (lenOf own_pd7 rfl) rfl rfl (Nat.le_of_ble_eq_true rfl) (Nat.le_of_ble_eq_true rfl) (Nat.le_of_ble_eq_true rfl) (Nat.le_of_ble_eq_true rfl) d16_20 (fun v3 T3 L3 X3 hQ3 => ?_)
  obtain ⟨rfl, N3q, K3, V3⟩ := hQ3
  have N3 := Fr.app N1 N3q
  refine g_iinc X3 hx hby (1 : Int32) d16_23 rfl (by decide) (l' := #[.val (.ref ca), .val (.int (1 : Int32)), .val (.int (3 : Int32)), .val (.ref bb), .val (.int (0 : Int32))]) rfl ?_
  refine g_at 26 rfl rfl rfl ?_
  refine g_iinc X3 hx hby (1 : Int32) d16_26 rfl (by decide) (l' := #[.val (.ref ca), .val (.int (1 : Int32)), .val (.int (3 : Int32)), .val (.ref bb), .val (.int (1 : Int32))]) rfl ?_
  refine g_goto X3 hx hby 8 d16_29 (by decide) (by decide) ?_
  refine g_iload X3 hx hby d16_8 rfl ?_
  refine g_iloadN X3 hx hby d16_10 rfl ?_
  refine g_icN X3 hx hby d16_11 (tlt (by decide : (1 : Int32) < (3 : Int32))).2.1 ?_
  refine g_aloadN X3 hx hby d16_14 rfl rfl ?_
  refine g_iload X3 hx hby d16_15 rfl ?_
  refine g_aloadN X3 hx hby d16_17 rfl rfl ?_
  refine g_iloadN X3 hx hby d16_18 rfl ?_
  have ne6 : ca ≠ bb := (Nat.ne_of_lt (Nat.lt_of_lt_of_le VC.lt lob))
  have f7 := (f2.keep K3 (ninS ne6 nin0))
  refine g_caload X3 hx hby hZ rfl f7 (.int c1) ⟨by decide, by decide⟩ rfl d16_19 ?_
  have f9 := (f4.keep K3 (allS g_bb all0))
  have z10 := (Nat.le_trans z5 K3.1)
  refine g_static X3 hx hby hZ hown (rm_putc_3_1 l Z a0 hw [] bb kbb c1 (own_lob c0) (own_hib c0) (0 : Int32) (0 : Int32) (0 : Int32) (0 : Int32) T3.heap n0 z10 Uad Uhi Ulo f9 V3 g_bb) w83_ w84_ w39_ w85_ (by decide) rfl (by rw [hml]; rfl) [(.ref bb), (.int (1 : Int32)), (.int c1)] (lenOf own_pd7 rfl) rfl rfl (Nat.le_of_ble_eq_true rfl) (Nat.le_of_ble_eq_true rfl) (Nat.le_of_ble_eq_true rfl) (Nat.le_of_ble_eq_true rfl) d16_20 (fun v8 T8 L8 X8 hQ8 => ?_)
  obtain ⟨rfl, N8q, K8, V8⟩ := hQ8
  have N8 := Fr.app N3 N8q
  refine g_iinc X8 hx hby (2 : Int32) d16_23 rfl (by decide) (l' := #[.val (.ref ca), .val (.int (2 : Int32)), .val (.int (3 : Int32)), .val (.ref bb), .val (.int (1 : Int32))]) rfl ?_
  refine g_iinc X8 hx hby (2 : Int32) d16_26 rfl (by decide) (l' := #[.val (.ref ca), .val (.int (2 : Int32)), .val (.int (3 : Int32)), .val (.ref bb), .val (.int (2 : Int32))]) rfl ?_
  refine g_goto X8 hx hby 8 d16_29 (by decide) (by decide) ?_
  refine g_iload X8 hx hby d16_8 rfl ?_
  refine g_iloadN X8 hx hby d16_10 rfl ?_
  refine g_icN X8 hx hby d16_11 (tlt (by decide : (2 : Int32) < (3 : Int32))).2.1 ?_
  refine g_aloadN X8 hx hby d16_14 rfl rfl ?_
  refine g_iload X8 hx hby d16_15 rfl ?_
  refine g_aloadN X8 hx hby d16_17 rfl rfl ?_
  refine g_iloadN X8 hx hby d16_18 rfl ?_
  have f11 := (f7.keep K8 (ninS ne6 nin0))
  refine g_caload X8 hx hby hZ rfl f11 (.int c2) ⟨by decide, by decide⟩ rfl d16_19 ?_
  have f13 := (f9.keep K8 (allS g_bb all0))
  have z14 := (Nat.le_trans z10 K8.1)
  refine g_static X8 hx hby hZ hown (rm_putc_3_2 l Z a0 hw [] bb kbb c2 (own_lob c0) (own_hib c0) (own_lob c1) (own_hib c1) (0 : Int32) (0 : Int32) T8.heap n0 z14 Uad Uhi Ulo f13 V8 g_bb) w83_ w84_ w39_ w85_ (by decide) rfl (by rw [hml]; rfl) [(.ref bb), (.int (2 : Int32)), (.int c2)] (lenOf own_pd7 rfl) rfl rfl (Nat.le_of_ble_eq_true rfl) (Nat.le_of_ble_eq_true rfl) (Nat.le_of_ble_eq_true rfl) (Nat.le_of_ble_eq_true rfl) d16_20 (fun v12 T12 L12 X12 hQ12 => ?_)
  obtain ⟨rfl, N12q, K12, V12⟩ := hQ12
  have N12 := Fr.app N8 N12q
  refine g_iinc X12 hx hby (3 : Int32) d16_23 rfl (by decide) (l' := #[.val (.ref ca), .val (.int (3 : Int32)), .val (.int (3 : Int32)), .val (.ref bb), .val (.int (2 : Int32))]) rfl ?_
  refine g_iinc X12 hx hby (3 : Int32) d16_26 rfl (by decide) (l' := #[.val (.ref ca), .val (.int (3 : Int32)), .val (.int (3 : Int32)), .val (.ref bb), .val (.int (3 : Int32))]) rfl ?_
  refine g_goto X12 hx hby 8 d16_29 (by decide) (by decide) ?_
  refine g_iload X12 hx hby d16_8 rfl ?_
  refine g_iloadN X12 hx hby d16_10 rfl ?_
  refine g_icY X12 hx hby 32 d16_11 (flt (by decide : ¬ ((3 : Int32) < (3 : Int32)))).2.1 (by decide) (by decide) ?_
  refine g_aloadN X12 hx hby d16_32 rfl rfl ?_
  refine g_aret X12 hx hby (t := (.array .byte)) rfl rfl rfl Bd.returns Bd.notSynchronized d16_33 rfl (by decide) (by decide) ?_
  show (Q_tob_3 Z ca kc c0 c1 c2 h0 n0) (some (.ref bb)) _ _
  exact ⟨N12, (((((Keep.refl h0 []).trans K1 all0).trans K3 (allS (Or.inr (Nat.le_trans (Nat.le_refl _) lob)) all0)).trans K8 (allS (Or.inr (Nat.le_trans (Nat.le_refl _) lob)) all0)).trans K12 (allS (Or.inr (Nat.le_trans (Nat.le_refl _) lob)) all0)), bb, kbb, rfl, (Nat.le_trans (Nat.le_refl _) lob), V12⟩

def Q_getc_3_0 (Z : State) (b : Addr) (kb : ClassId) (v0 : Int32) (v1 : Int32) (v2 : Int32) (v3 : Int32) (v4 : Int32) (v5 : Int32) (h0 : Heap) (n0 : Nat) (v : Option Value) (h : Heap) (L : List Loc) : Prop := v = some (.int (nar .char (own_u16e v0 v1))) ∧ Fr n0 L ∧ h = h0
set_option maxRecDepth 65536 in
set_option maxHeartbeats 40000000 in
theorem rm_getc_3_0 (l : Launch) (Z : State) (a0 : Array Value) (hw : ∀ d ∈ tables_1, d.before a0 Z = true) (ws : List Jvm.Cond) (b : Addr) (kb : ClassId) (v0 : Int32) (v1 : Int32) (v2 : Int32) (v3 : Int32) (v4 : Int32) (v5 : Int32) (h0 : Heap) (n0 : Nat) (Z0 : n0 ≤ h0.size) (Uad : Sta Z Z.heap "java/lang/StringUTF16" "$assertionsDisabled" "Z" (.int (1 : Int32))) (Uhi : Sta Z Z.heap "java/lang/StringUTF16" "HI_BYTE_SHIFT" "I" (.int (0 : Int32))) (Ulo : Sta Z Z.heap "java/lang/StringUTF16" "LO_BYTE_SHIFT" "I" (.int (8 : Int32))) (OLD : Old Z n0 h0) (VB : Arv Z h0 b kb .byte (6 : Int32) [(.int v0), (.int v1), (.int v2), (.int v3), (.int v4), (.int v5)] (.int (0 : Int32))) :
    MetFree l (⟨"java/lang/StringUTF16", "getChar", "([BI)C"⟩ : MethodName) (head1 (Jvm.Cond.code (⟨"java/lang/StringUTF16", "getChar", "([BI)C"⟩ : MethodName) jdk_52_method_5_code 2 (some .char) :: ws) ({ frames := 0, cells := 0, slots := 0, locals := 0 } : Room)) (fun aa_ U => aa_ = #[(.ref b), (.int (0 : Int32))] ∧ Z.Warmed39 U.vm ∧ U.heap = h0) (fun _ _ _ _ _ => True) (fun _ U o_ U' => RetG U (Q_getc_3_0 Z b kb v0 v1 v2 v3 v4 v5 h0 n0) 0 0 U' o_) := by
  refine MetFree.of_bodySF (plainFor_of_name own_pn3) hisR ?_
  intro p e s m args below meth c_ s₁ Bd hml0 hP hK
  obtain ⟨rfl, hZ, hh⟩ := hP
  have hx := Bd.exec
  have hby := Bd.bytes
  have hml : c_.maxLocals = 2 := hml0
  have hown : s.vm.findClass "java/lang/StringUTF16" = some m.cls := findClass_of_methodNamed Bd.named
  have hnm := (name_of_methodNamed Bd.named Bd.method).1
  have X0 : Stand p l e ({ frames := 0, cells := 0, slots := 0, locals := 0 } : Room) s m #[(.ref b), (.int (0 : Int32))] below meth c_ s₁ [] 0 0 := Stand.of_body Bd
  have e0 : s₁.heap = h0 := by rw [← hh, Bd.state]; rfl
  have N0 := Fr.nil n0
  have w86_ := hw _ (List.mem_of_getElem? (i := 86) rfl)
  have w87_ := hw _ (List.mem_of_getElem? (i := 87) rfl)
  have w88_ := hw _ (List.mem_of_getElem? (i := 88) rfl)
  show Go p e below (RetG s (Q_getc_3_0 Z b kb v0 v1 v2 v3 v4 v5 h0 n0) 0 0) (s₁.setTop (entryFrame m #[(.ref b), (.int (0 : Int32))] 2))
  rw [show entryFrame m #[(.ref b), (.int (0 : Int32))] 2 = mkF m 0 #[.val (.ref b), .val (.int (0 : Int32))] [] from by first | (simp [entryFrame, mkF, argsToLocals, Value.category]; done) | rfl]
  refine g_getS X0 hx hby hZ hown (host := "") (Or.inl w86_) Via.refl e0 (Uad.ext OLD.2) d20_0 (fun T1 X1 e1 => ?_)
  refine g_ifY X1 hx hby 28 d20_3 (feq (by decide : ¬ ((1 : Int32) = (0 : Int32)))).2 (by decide) (by decide) ?_
  refine g_iloadN X1 hx hby d20_28 rfl ?_
  refine g_iconst X1 hx hby (1 : Int32) d20_29 rfl ?_
  refine g_ishl X1 hx hby d20_30 ?_
  refine g_topI (0 : Int32) (by decide) ?_
  refine g_istoreN X1 hx hby d20_31 (l' := #[.val (.ref b), .val (.int (0 : Int32))]) rfl ?_
  refine g_aloadN X1 hx hby d20_32 rfl rfl ?_
  refine g_iloadN X1 hx hby d20_33 rfl ?_
  refine g_iinc X1 hx hby (1 : Int32) d20_34 rfl (by decide) (l' := #[.val (.ref b), .val (.int (1 : Int32))]) rfl ?_
  refine g_baload X1 hx hby hZ e1 VB (.int v0) ⟨by decide, by decide⟩ rfl d20_37 ?_
  refine g_sipush X1 hx hby (255 : Int32) d20_38 rfl ?_
  refine g_iand X1 hx hby d20_41 ?_
  refine g_getS X1 hx hby hZ hown (host := "") (Or.inl w87_) Via.refl e1 (Uhi.ext OLD.2) d20_42 (fun T2 X2 e2 => ?_)
  refine g_ishl X2 hx hby d20_45 ?_
  refine g_aloadN X2 hx hby d20_46 rfl rfl ?_
  refine g_iloadN X2 hx hby d20_47 rfl ?_
  refine g_baload X2 hx hby hZ e2 VB (.int v1) ⟨by decide, by decide⟩ rfl d20_48 ?_
  refine g_sipush X2 hx hby (255 : Int32) d20_49 rfl ?_
  refine g_iand X2 hx hby d20_52 ?_
  refine g_getS X2 hx hby hZ hown (host := "") (Or.inl w88_) Via.refl e2 (Ulo.ext OLD.2) d20_53 (fun T3 X3 e3 => ?_)
  refine g_ishl X3 hx hby d20_56 ?_
  refine g_ior X3 hx hby d20_57 ?_
  refine g_i2c X3 hx hby d20_58 ?_
  refine g_nret X3 hx hby (t := .char) (by simp) Bd.returns Bd.notSynchronized d20_59 e3 (by decide) (by decide) ?_
  show (Q_getc_3_0 Z b kb v0 v1 v2 v3 v4 v5 h0 n0) (some (.int (nar .char ((((v0 &&& (255 : Int32)) <<< ((0 : Int32) &&& 31)) ||| ((v1 &&& (255 : Int32)) <<< ((8 : Int32) &&& 31))).toUInt32.toUInt16.toUInt32.toInt32)))) _ _
  exact ⟨rfl, N0, rfl⟩

def Q_cmpf_3_0 (Z : State) (ca : Addr) (kc : ClassId) (c0 : Int32) (c1 : Int32) (c2 : Int32) (h0 : Heap) (n0 : Nat) (v : Option Value) (h : Heap) (L : List Loc) : Prop := Fr n0 L ∧ Keep h0 h [] ∧ ∃ (b : Addr) (kb : ClassId), v = some (.ref b) ∧ h0.size ≤ b ∧ Arv Z h b kb .byte (6 : Int32) [(.int (own_lob c0)), (.int (own_hib c0)), (.int (own_lob c1)), (.int (own_hib c1)), (.int (own_lob c2)), (.int (own_hib c2))] (.int (0 : Int32))
set_option maxRecDepth 65536 in
set_option maxHeartbeats 40000000 in
theorem rm_cmpf_3_0 (l : Launch) (Z : State) (a0 : Array Value) (hw : ∀ d ∈ tables_1, d.before a0 Z = true) (ws : List Jvm.Cond) (ca : Addr) (kc : ClassId) (c0 : Int32) (c1 : Int32) (c2 : Int32) (h0 : Heap) (n0 : Nat) (Z0 : n0 ≤ h0.size) (Uad : Sta Z Z.heap "java/lang/StringUTF16" "$assertionsDisabled" "Z" (.int (1 : Int32))) (Uhi : Sta Z Z.heap "java/lang/StringUTF16" "HI_BYTE_SHIFT" "I" (.int (0 : Int32))) (Ulo : Sta Z Z.heap "java/lang/StringUTF16" "LO_BYTE_SHIFT" "I" (.int (8 : Int32))) (OLD : Old Z n0 h0) (VC : Arv Z h0 ca kc .char (3 : Int32) [(.int c0), (.int c1), (.int c2)] (.int (0 : Int32))) (hf : (255 : Int32) < c0) (hr0 : 0 ≤ c0.toInt ∧ c0.toInt < 65536) (hr1 : 0 ≤ c1.toInt ∧ c1.toInt < 65536) (hr2 : 0 ≤ c2.toInt ∧ c2.toInt < 65536) :
    MetFree l (⟨"java/lang/StringUTF16", "compress", "([CII)[B"⟩ : MethodName) (head1 (Jvm.Cond.code (⟨"java/lang/StringUTF16", "compress", "([CII)[B"⟩ : MethodName) jdk_52_method_16_code 6 (some (.array .byte)) :: ws) ({ frames := 3, cells := 2, slots := 9, locals := 40 } : Room)) (fun aa_ U => aa_ = #[(.ref ca), (.int (0 : Int32)), (.int (3 : Int32))] ∧ Z.Warmed39 U.vm ∧ U.heap = h0) (fun _ _ _ _ _ => True) (fun _ U o_ U' => RetG U (Q_cmpf_3_0 Z ca kc c0 c1 c2 h0 n0) 2 9 U' o_) := by
  refine MetFree.of_bodySF (plainFor_of_name own_pn3) hisR ?_
  intro p e s m args below meth c_ s₁ Bd hml0 hP hK
  obtain ⟨rfl, hZ, hh⟩ := hP
  have hx := Bd.exec
  have hby := Bd.bytes
  have hml : c_.maxLocals = 6 := hml0
  have hown : s.vm.findClass "java/lang/StringUTF16" = some m.cls := findClass_of_methodNamed Bd.named
  have hnm := (name_of_methodNamed Bd.named Bd.method).1
  have X0 : Stand p l e ({ frames := 3, cells := 2, slots := 9, locals := 40 } : Room) s m #[(.ref ca), (.int (0 : Int32)), (.int (3 : Int32))] below meth c_ s₁ [] 0 0 := Stand.of_body Bd
  have e0 : s₁.heap = h0 := by rw [← hh, Bd.state]; rfl
  have N0 := Fr.nil n0
  have w15_ := hw _ (List.mem_of_getElem? (i := 15) rfl)
  have w39_ := hw _ (List.mem_of_getElem? (i := 39) rfl)
  have w41_ := hw _ (List.mem_of_getElem? (i := 41) rfl)
  have w42_ := hw _ (List.mem_of_getElem? (i := 42) rfl)
  have w43_ := hw _ (List.mem_of_getElem? (i := 43) rfl)
  have w73_ := hw _ (List.mem_of_getElem? (i := 73) rfl)
  have w74_ := hw _ (List.mem_of_getElem? (i := 74) rfl)
  have w75_ := hw _ (List.mem_of_getElem? (i := 75) rfl)
  have w89_ := hw _ (List.mem_of_getElem? (i := 89) rfl)
  have w90_ := hw _ (List.mem_of_getElem? (i := 90) rfl)
  have w91_ := hw _ (List.mem_of_getElem? (i := 91) rfl)
  show Go p e below (RetG s (Q_cmpf_3_0 Z ca kc c0 c1 c2 h0 n0) 2 9) (s₁.setTop (entryFrame m #[(.ref ca), (.int (0 : Int32)), (.int (3 : Int32))] 6))
  rw [show entryFrame m #[(.ref ca), (.int (0 : Int32)), (.int (3 : Int32))] 6 = mkF m 0 #[.val (.ref ca), .val (.int (0 : Int32)), .val (.int (3 : Int32)), .unset, .unset, .unset] [] from by first | (simp [entryFrame, mkF, argsToLocals, Value.category]; done) | rfl]
  refine g_iloadN X0 hx hby d7_0 rfl ?_
  refine g_newarray X0 hx hby hZ .byte .byte (.int (0 : Int32)) [(.int (0 : Int32)), (.int (0 : Int32)), (.int (0 : Int32))] rfl rfl w15_ e0 (by decide) 3 rfl (by decide) (by decide) (by decide) (by decide) d7_1 (fun T1 h1 k1 b1 g1 X1 e1 E1 V1 => ?_)
  refine g_astoreN X1 hx hby d7_3 rfl (l' := #[.val (.ref ca), .val (.int (0 : Int32)), .val (.int (3 : Int32)), .val (.ref b1), .unset, .unset]) rfl ?_
  refine g_aloadN X1 hx hby d7_4 rfl rfl ?_
  refine g_iloadN X1 hx hby d7_5 rfl ?_
  refine g_aloadN X1 hx hby d7_6 rfl rfl ?_
  refine g_iconst X1 hx hby (0 : Int32) d7_7 rfl ?_
  refine g_iloadN X1 hx hby d7_8 rfl ?_
  have f3 := (VC.ext E1)
  have ne4 : ca ≠ b1 := (Nat.ne_of_lt (Nat.lt_of_lt_of_le VC.lt (Nat.le_of_eq g1)))
  have g_b1 : n0 ≤ b1 := Nat.le_trans Z0 (Nat.le_of_eq g1)
  have z5 := (Nat.le_trans Z0 E1.1)
  refine g_static X1 hx hby hZ hown (rm_cmp5f_3_0 l Z a0 hw [] ca b1 kc k1 c0 c1 c2 h1 n0 z5 f3 V1 ne4 g_b1 hf) w41_ w42_ w39_ w43_ (by decide) e1 (by rw [hml]; rfl) [(.ref ca), (.int (0 : Int32)), (.ref b1), (.int (0 : Int32)), (.int (3 : Int32))] (lenOf own_pd8 rfl) rfl rfl (Nat.le_of_ble_eq_true rfl) (Nat.le_of_ble_eq_true rfl) (Nat.le_of_ble_eq_true rfl) (Nat.le_of_ble_eq_true rfl) d7_9 (fun v2 T2 L2 X2 hQ2 => ?_)
  obtain ⟨rfl, N2q, K2⟩ := hQ2
  have N2 := Fr.app N0 N2q
  refine g_istore X2 hx hby d7_12 (l' := #[.val (.ref ca), .val (.int (0 : Int32)), .val (.int (3 : Int32)), .val (.ref b1), .val (.int (0 : Int32)), .unset]) rfl ?_
  refine g_iload X2 hx hby d7_14 rfl ?_
  refine g_iloadN X2 hx hby d7_16 rfl ?_
  refine g_icN X2 hx hby d7_17 (feq (by decide : ¬ ((0 : Int32) = (3 : Int32)))).1 ?_
  refine g_aloadN X2 hx hby d7_20 rfl rfl ?_
  refine g_iloadN X2 hx hby d7_21 rfl ?_
  refine g_iloadN X2 hx hby d7_22 rfl ?_
  have f7 := ((OLD.ext E1).keep K2 (allS g_b1 all0))
  have f8 := (f3.keep K2 (ninS ne4 nin0))
  have z9 := (Nat.le_trans z5 K2.1)
  refine g_static X2 hx hby hZ hown (rm_tob_3 l Z a0 hw [] ca kc c0 c1 c2 T2.heap n0 z9 Uad Uhi Ulo f7 f8) w73_ w74_ w39_ w75_ (by decide) rfl (by rw [hml]; rfl) [(.ref ca), (.int (0 : Int32)), (.int (3 : Int32))] (lenOf own_pd9 rfl) rfl rfl (Nat.le_of_ble_eq_true rfl) (Nat.le_of_ble_eq_true rfl) (Nat.le_of_ble_eq_true rfl) (Nat.le_of_ble_eq_true rfl) d7_23 (fun v6 T6 L6 X6 hQ6 => ?_)
  obtain ⟨N6q, K6, bb, kbb, rfl, lob, Vb⟩ := hQ6
  have N6 := Fr.app N2 N6q
  refine g_at 26 rfl rfl rfl ?_
  refine g_astore X6 hx hby d7_26 rfl (l' := #[.val (.ref ca), .val (.int (0 : Int32)), .val (.int (3 : Int32)), .val (.ref b1), .val (.int (0 : Int32)), .val (.ref bb)]) rfl ?_
  refine g_aload X6 hx hby d7_28 rfl rfl ?_
  refine g_iload X6 hx hby d7_30 rfl ?_
  have f11 := (f7.keep K6 all0)
  have z12 := (Nat.le_trans z9 K6.1)
  refine g_static X6 hx hby hZ hown (rm_getc_3_0 l Z a0 hw [] bb kbb (own_lob c0) (own_hib c0) (own_lob c1) (own_hib c1) (own_lob c2) (own_hib c2) T6.heap n0 z12 Uad Uhi Ulo f11 Vb) w89_ w90_ w39_ w91_ (by decide) rfl (by rw [hml]; rfl) [(.ref bb), (.int (0 : Int32))] (lenOf own_pd10 rfl) rfl rfl (Nat.le_of_ble_eq_true rfl) (Nat.le_of_ble_eq_true rfl) (Nat.le_of_ble_eq_true rfl) (Nat.le_of_ble_eq_true rfl) d7_32 (fun v10 T10 L10 X10 hQ10 => ?_)
  obtain ⟨rfl, N10q, eh10⟩ := hQ10
  have N10 := Fr.app N6 N10q
  refine g_topI (T := T10) c0 (own_u16 hr0) ?_
  refine g_sipush X10 hx hby (255 : Int32) d7_35 rfl ?_
  refine g_icY X10 hx hby 54 d7_38 (tlt (hf : (255 : Int32) < c0)).2.2.1 (by decide) (by decide) ?_
  refine g_aload X10 hx hby d7_54 rfl rfl ?_
  refine g_aret X10 hx hby (t := (.array .byte)) rfl rfl rfl Bd.returns Bd.notSynchronized d7_56 eh10 (by decide) (by decide) ?_
  show (Q_cmpf_3_0 Z ca kc c0 c1 c2 h0 n0) (some (.ref bb)) _ _
  exact ⟨N10, ((((Keep.refl h0 []).ext E1).trans K2 (allS (Or.inr (Nat.le_trans (Nat.le_refl _) (Nat.le_of_eq g1))) all0)).trans K6 all0), bb, kbb, rfl, (Nat.le_trans (Nat.le_trans E1.1 K2.1) lob), Vb⟩

def Q_cfal_3_6 (Z : State) (ba : Addr) (kb : ClassId) (bs : List Value) (h0 : Heap) (n0 : Nat) (v : Option Value) (h : Heap) (L : List Loc) : Prop := v = some (.int (1 : Int32)) ∧ Fr n0 L ∧ h = h0
set_option maxRecDepth 65536 in
set_option maxHeartbeats 40000000 in
theorem rm_cfal_3_6 (l : Launch) (Z : State) (a0 : Array Value) (hw : ∀ d ∈ tables_1, d.before a0 Z = true) (ws : List Jvm.Cond) (ba : Addr) (kb : ClassId) (bs : List Value) (h0 : Heap) (n0 : Nat) (Z0 : n0 ≤ h0.size) (VB : Arv Z h0 ba kb .byte (6 : Int32) bs (.int (0 : Int32))) :
    MetFree l (⟨"java/lang/StringUTF16", "coderFromArrayLen", "([BI)B"⟩ : MethodName) (head1 (Jvm.Cond.code (⟨"java/lang/StringUTF16", "coderFromArrayLen", "([BI)B"⟩ : MethodName) jdk_52_method_15_code 2 (some .byte) :: ws) ({ frames := 0, cells := 0, slots := 0, locals := 0 } : Room)) (fun aa_ U => aa_ = #[(.ref ba), (.int (3 : Int32))] ∧ Z.Warmed39 U.vm ∧ U.heap = h0) (fun _ _ _ _ _ => True) (fun _ U o_ U' => RetG U (Q_cfal_3_6 Z ba kb bs h0 n0) 0 0 U' o_) := by
  refine MetFree.of_bodySF (plainFor_of_name own_pn3) hisR ?_
  intro p e s m args below meth c_ s₁ Bd hml0 hP hK
  obtain ⟨rfl, hZ, hh⟩ := hP
  have hx := Bd.exec
  have hby := Bd.bytes
  have hml : c_.maxLocals = 2 := hml0
  have hown : s.vm.findClass "java/lang/StringUTF16" = some m.cls := findClass_of_methodNamed Bd.named
  have hnm := (name_of_methodNamed Bd.named Bd.method).1
  have X0 : Stand p l e ({ frames := 0, cells := 0, slots := 0, locals := 0 } : Room) s m #[(.ref ba), (.int (3 : Int32))] below meth c_ s₁ [] 0 0 := Stand.of_body Bd
  have e0 : s₁.heap = h0 := by rw [← hh, Bd.state]; rfl
  have N0 := Fr.nil n0
  show Go p e below (RetG s (Q_cfal_3_6 Z ba kb bs h0 n0) 0 0) (s₁.setTop (entryFrame m #[(.ref ba), (.int (3 : Int32))] 2))
  rw [show entryFrame m #[(.ref ba), (.int (3 : Int32))] 2 = mkF m 0 #[.val (.ref ba), .val (.int (3 : Int32))] [] from by first | (simp [entryFrame, mkF, argsToLocals, Value.category]; done) | rfl]
  refine g_iloadN X0 hx hby d9_0 rfl ?_
  refine g_aloadN X0 hx hby d9_1 rfl rfl ?_
  refine g_arraylength X0 hx hby hZ e0 VB d9_2 ?_
  refine g_isub X0 hx hby d9_3 ?_
  refine g_topI (-3 : Int32) (by decide) ?_
  refine g_bipush X0 hx hby (31 : Int32) d9_4 rfl ?_
  refine g_iushr X0 hx hby d9_6 ?_
  refine g_topI (1 : Int32) (by decide) ?_
  refine g_i2b X0 hx hby d9_7 ?_
  refine g_topI (1 : Int32) (by decide) ?_
  refine g_nret X0 hx hby (t := .byte) (by simp) Bd.returns Bd.notSynchronized d9_8 e0 (by decide) (by decide) ?_
  show (Q_cfal_3_6 Z ba kb bs h0 n0) (some (.int (1 : Int32))) _ _
  exact ⟨rfl, N0, rfl⟩

def Q_ini2f_3_0 (Z : State) (a : Addr) (ca : Addr) (kc : ClassId) (c0 : Int32) (c1 : Int32) (c2 : Int32) (cz : Int32) (h0 : Heap) (n0 : Nat) (v : Option Value) (h : Heap) (L : List Loc) : Prop := v = none ∧ Fr n0 L ∧ Keep h0 h [a] ∧ ∃ (b : Addr) (kb : ClassId), h0.size ≤ b ∧ Exa Z h a "java/lang/String" ∧ Fld Z h a "java/lang/String" "coder" "B" (.int (1 : Int32)) ∧ Fld Z h a "java/lang/String" "value" "[B" (.ref b) ∧ Arv Z h b kb .byte (6 : Int32) [(.int (own_lob c0)), (.int (own_hib c0)), (.int (own_lob c1)), (.int (own_hib c1)), (.int (own_lob c2)), (.int (own_hib c2))] (.int (0 : Int32))
set_option maxRecDepth 65536 in
set_option maxHeartbeats 40000000 in
theorem rm_ini2f_3_0 (l : Launch) (Z : State) (a0 : Array Value) (hw : ∀ d ∈ tables_1, d.before a0 Z = true) (ws : List Jvm.Cond) (a : Addr) (ca : Addr) (kc : ClassId) (c0 : Int32) (c1 : Int32) (c2 : Int32) (cz : Int32) (h0 : Heap) (n0 : Nat) (Z0 : n0 ≤ h0.size) (O2 : Sta Z Z.heap "java/lang/String" "COMPACT_STRINGS" "Z" (.int cz)) (P5 : ¬ cz = (0 : Int32)) (OLD : Old Z n0 h0) (Uad : Sta Z Z.heap "java/lang/StringUTF16" "$assertionsDisabled" "Z" (.int (1 : Int32))) (Uhi : Sta Z Z.heap "java/lang/StringUTF16" "HI_BYTE_SHIFT" "I" (.int (0 : Int32))) (Ulo : Sta Z Z.heap "java/lang/StringUTF16" "LO_BYTE_SHIFT" "I" (.int (8 : Int32))) (E : Exa Z h0 a "java/lang/String") (FC : Fld Z h0 a "java/lang/String" "coder" "B" (.int (0 : Int32))) (FV : Fld Z h0 a "java/lang/String" "value" "[B" .null) (VC : Arv Z h0 ca kc .char (3 : Int32) [(.int c0), (.int c1), (.int c2)] (.int (0 : Int32))) (ga : n0 ≤ a) (hf : (255 : Int32) < c0) (hr0 : 0 ≤ c0.toInt ∧ c0.toInt < 65536) (hr1 : 0 ≤ c1.toInt ∧ c1.toInt < 65536) (hr2 : 0 ≤ c2.toInt ∧ c2.toInt < 65536) :
    MetFree l (⟨"java/lang/String", "<init>", "([CIILjava/lang/Void;)V"⟩ : MethodName) (head1 (Jvm.Cond.code (⟨"java/lang/String", "<init>", "([CIILjava/lang/Void;)V"⟩ : MethodName) jdk_42_method_149_code 6 none :: ws) ({ frames := 4, cells := 2, slots := 9, locals := 57 } : Room)) (fun aa_ U => aa_ = #[(.ref a), (.ref ca), (.int (0 : Int32)), (.int (3 : Int32)), .null] ∧ Z.Warmed39 U.vm ∧ U.heap = h0) (fun _ _ _ _ _ => True) (fun _ U o_ U' => RetG U (Q_ini2f_3_0 Z a ca kc c0 c1 c2 cz h0 n0) 2 9 U' o_) := by
  refine MetFree.of_bodySF (plainFor_of_name own_pn1) hisR ?_
  intro p e s m args below meth c_ s₁ Bd hml0 hP hK
  obtain ⟨rfl, hZ, hh⟩ := hP
  have hx := Bd.exec
  have hby := Bd.bytes
  have hml : c_.maxLocals = 6 := hml0
  have hown : s.vm.findClass "java/lang/String" = some m.cls := findClass_of_methodNamed Bd.named
  have hnm := (name_of_methodNamed Bd.named Bd.method).1
  have X0 : Stand p l e ({ frames := 4, cells := 2, slots := 9, locals := 57 } : Room) s m #[(.ref a), (.ref ca), (.int (0 : Int32)), (.int (3 : Int32)), .null] below meth c_ s₁ [] 0 0 := Stand.of_body Bd
  have e0 : s₁.heap = h0 := by rw [← hh, Bd.state]; rfl
  have N0 := Fr.nil n0
  have w2_ := hw _ (List.mem_of_getElem? (i := 2) rfl)
  have w11_ := hw _ (List.mem_of_getElem? (i := 11) rfl)
  have w12_ := hw _ (List.mem_of_getElem? (i := 12) rfl)
  have w13_ := hw _ (List.mem_of_getElem? (i := 13) rfl)
  have w16_ := hw _ (List.mem_of_getElem? (i := 16) rfl)
  have w17_ := hw _ (List.mem_of_getElem? (i := 17) rfl)
  have w20_ := hw _ (List.mem_of_getElem? (i := 20) rfl)
  have w21_ := hw _ (List.mem_of_getElem? (i := 21) rfl)
  have w36_ := hw _ (List.mem_of_getElem? (i := 36) rfl)
  have w37_ := hw _ (List.mem_of_getElem? (i := 37) rfl)
  have w38_ := hw _ (List.mem_of_getElem? (i := 38) rfl)
  have w39_ := hw _ (List.mem_of_getElem? (i := 39) rfl)
  have w40_ := hw _ (List.mem_of_getElem? (i := 40) rfl)
  have w44_ := hw _ (List.mem_of_getElem? (i := 44) rfl)
  have w45_ := hw _ (List.mem_of_getElem? (i := 45) rfl)
  have w46_ := hw _ (List.mem_of_getElem? (i := 46) rfl)
  show Go p e below (RetG s (Q_ini2f_3_0 Z a ca kc c0 c1 c2 cz h0 n0) 2 9) (s₁.setTop (entryFrame m #[(.ref a), (.ref ca), (.int (0 : Int32)), (.int (3 : Int32)), .null] 6))
  rw [show entryFrame m #[(.ref a), (.ref ca), (.int (0 : Int32)), (.int (3 : Int32)), .null] 6 = mkF m 0 #[.val (.ref a), .val (.ref ca), .val (.int (0 : Int32)), .val (.int (3 : Int32)), .val .null, .unset] [] from by first | (simp [entryFrame, mkF, argsToLocals, Value.category]; done) | rfl]
  refine g_aloadN X0 hx hby d2_0 rfl rfl ?_
  refine g_initO X0 hx hby hZ hown w11_ w12_ w13_ e0 (by rw [hml]; rfl) (Nat.le_of_ble_eq_true rfl) (Nat.le_of_ble_eq_true rfl) d2_1 (fun T1 X1 e1 => ?_)
  refine g_iloadN X1 hx hby d2_4 rfl ?_
  refine g_ifY X1 hx hby 27 d2_5 (feq (by decide : ¬ ((3 : Int32) = (0 : Int32)))).2 (by decide) (by decide) ?_
  refine g_getS X1 hx hby hZ hown (host := "") (Or.inl w36_) Via.refl e1 (O2.ext OLD.2) d2_27 (fun T2 X2 e2 => ?_)
  refine g_ifN X2 hx hby d2_30 (feq (P5 : ¬ (cz = (0 : Int32)))).1 ?_
  refine g_aloadN X2 hx hby d2_33 rfl rfl ?_
  refine g_iloadN X2 hx hby d2_34 rfl ?_
  refine g_iloadN X2 hx hby d2_35 rfl ?_
  refine g_static X2 hx hby hZ hown (rm_cmpf_3_0 l Z a0 hw [] ca kc c0 c1 c2 h0 n0 Z0 Uad Uhi Ulo OLD VC hf hr0 hr1 hr2) w37_ w38_ w39_ w40_ (by decide) e2 (by rw [hml]; rfl) [(.ref ca), (.int (0 : Int32)), (.int (3 : Int32))] (lenOf own_pd9 rfl) rfl rfl (Nat.le_of_ble_eq_true rfl) (Nat.le_of_ble_eq_true rfl) (Nat.le_of_ble_eq_true rfl) (Nat.le_of_ble_eq_true rfl) d2_36 (fun v3 T3 L3 X3 hQ3 => ?_)
  obtain ⟨N3q, K3, bb, kbb, rfl, lob, Vb⟩ := hQ3
  have N3 := Fr.app N0 N3q
  refine g_astore X3 hx hby d2_39 rfl (l' := #[.val (.ref a), .val (.ref ca), .val (.int (0 : Int32)), .val (.int (3 : Int32)), .val .null, .val (.ref bb)]) rfl ?_
  refine g_aloadN X3 hx hby d2_41 rfl rfl ?_
  refine g_aload X3 hx hby d2_42 rfl rfl ?_
  refine g_iloadN X3 hx hby d2_44 rfl ?_
  have z5 := (Nat.le_trans Z0 K3.1)
  refine g_static X3 hx hby hZ hown (rm_cfal_3_6 l Z a0 hw [] bb kbb [(.int (own_lob c0)), (.int (own_hib c0)), (.int (own_lob c1)), (.int (own_hib c1)), (.int (own_lob c2)), (.int (own_hib c2))] T3.heap n0 z5 Vb) w44_ w45_ w39_ w46_ (by decide) rfl (by rw [hml]; rfl) [(.ref bb), (.int (3 : Int32))] (lenOf own_pd11 rfl) rfl rfl (Nat.le_of_ble_eq_true rfl) (Nat.le_of_ble_eq_true rfl) (Nat.le_of_ble_eq_true rfl) (Nat.le_of_ble_eq_true rfl) d2_45 (fun v4 T4 L4 X4 hQ4 => ?_)
  obtain ⟨rfl, N4q, eh4⟩ := hQ4
  have N4 := Fr.app N3 N4q
  have f6 := (E.keep K3)
  have f7 := (FC.keep K3 nin0)
  refine g_putFN X4 hx hby hZ hown w21_ Via.refl eh4 f7 f6 (Or.inr ⟨w17_, rfl, hnm⟩) w2_ .byte (by decide) (.int (1 : Int32)) rfl rfl N4 ga d2_48 (fun T8 h8 X8 e8 W8 F8 N8 => ?_)
  refine g_aloadN X8 hx hby d2_51 rfl rfl ?_
  refine g_aload X8 hx hby d2_52 rfl rfl ?_
  have f9 := (f6.wr W8)
  have f10 := ((FV.keep K3 nin0).other W8 (Or.inr (slot_ne (Or.inr w16_) (Or.inr w17_) (by decide) (t := (.array .byte)) (t' := .byte) (by decide) (by decide))))
  refine g_putF X8 hx hby hZ hown (host := "") (Or.inl w20_) Via.refl e8 f10 f9 (Or.inr ⟨w16_, rfl, hnm⟩) w2_ (.array .byte) (by decide) rfl rfl N8 ga d2_54 (fun T11 h11 X11 e11 W11 F11 N11 => ?_)
  have f12 := (f9.wr W11)
  have f13 := (F8.other W11 (Or.inr (slot_ne (Or.inr w17_) (Or.inr w16_) (by decide) (t := .byte) (t' := (.array .byte)) (by decide) (by decide))))
  have ne14 : bb ≠ a := (Ne.symm (Nat.ne_of_lt (Nat.lt_of_lt_of_le E.lt lob)))
  have f15 := ((Vb.other W8 ne14).other W11 ne14)
  refine g_ret X11 hx hby Bd.returns Bd.notSynchronized d2_57 e11 (by decide) (by decide) ?_
  show (Q_ini2f_3_0 Z a ca kc c0 c1 c2 cz h0 n0) none _ _
  exact ⟨rfl, N11, ((((Keep.refl h0 [a]).trans K3 all0).wr W8 (Or.inl (List.mem_of_getElem? (i := 0) rfl))).wr W11 (Or.inl (List.mem_of_getElem? (i := 0) rfl))), bb, kbb, (Nat.le_trans (Nat.le_refl _) lob), f12, f13, F11, f15⟩

def Q_ini1f_3_0 (Z : State) (a : Addr) (ca : Addr) (kc : ClassId) (c0 : Int32) (c1 : Int32) (c2 : Int32) (cz : Int32) (h0 : Heap) (n0 : Nat) (v : Option Value) (h : Heap) (L : List Loc) : Prop := v = none ∧ Fr n0 L ∧ Keep h0 h [a] ∧ ∃ (b : Addr) (kb : ClassId), h0.size ≤ b ∧ Exa Z h a "java/lang/String" ∧ Fld Z h a "java/lang/String" "coder" "B" (.int (1 : Int32)) ∧ Fld Z h a "java/lang/String" "value" "[B" (.ref b) ∧ Arv Z h b kb .byte (6 : Int32) [(.int (own_lob c0)), (.int (own_hib c0)), (.int (own_lob c1)), (.int (own_hib c1)), (.int (own_lob c2)), (.int (own_hib c2))] (.int (0 : Int32))
set_option maxRecDepth 65536 in
set_option maxHeartbeats 40000000 in
theorem rm_ini1f_3_0 (l : Launch) (Z : State) (a0 : Array Value) (hw : ∀ d ∈ tables_1, d.before a0 Z = true) (ws : List Jvm.Cond) (a : Addr) (ca : Addr) (kc : ClassId) (c0 : Int32) (c1 : Int32) (c2 : Int32) (cz : Int32) (h0 : Heap) (n0 : Nat) (Z0 : n0 ≤ h0.size) (O2 : Sta Z Z.heap "java/lang/String" "COMPACT_STRINGS" "Z" (.int cz)) (P5 : ¬ cz = (0 : Int32)) (OLD : Old Z n0 h0) (Uad : Sta Z Z.heap "java/lang/StringUTF16" "$assertionsDisabled" "Z" (.int (1 : Int32))) (Uhi : Sta Z Z.heap "java/lang/StringUTF16" "HI_BYTE_SHIFT" "I" (.int (0 : Int32))) (Ulo : Sta Z Z.heap "java/lang/StringUTF16" "LO_BYTE_SHIFT" "I" (.int (8 : Int32))) (E : Exa Z h0 a "java/lang/String") (FC : Fld Z h0 a "java/lang/String" "coder" "B" (.int (0 : Int32))) (FV : Fld Z h0 a "java/lang/String" "value" "[B" .null) (VC : Arv Z h0 ca kc .char (3 : Int32) [(.int c0), (.int c1), (.int c2)] (.int (0 : Int32))) (ga : n0 ≤ a) (hf : (255 : Int32) < c0) (hr0 : 0 ≤ c0.toInt ∧ c0.toInt < 65536) (hr1 : 0 ≤ c1.toInt ∧ c1.toInt < 65536) (hr2 : 0 ≤ c2.toInt ∧ c2.toInt < 65536) :
    MetFree l (⟨"java/lang/String", "<init>", "([C)V"⟩ : MethodName) (head1 (Jvm.Cond.code (⟨"java/lang/String", "<init>", "([C)V"⟩ : MethodName) jdk_42_method_3_code 2 none :: ws) ({ frames := 5, cells := 2, slots := 9, locals := 74 } : Room)) (fun aa_ U => aa_ = #[(.ref a), (.ref ca)] ∧ Z.Warmed39 U.vm ∧ U.heap = h0) (fun _ _ _ _ _ => True) (fun _ U o_ U' => RetG U (Q_ini1f_3_0 Z a ca kc c0 c1 c2 cz h0 n0) 2 9 U' o_) := by
  refine MetFree.of_bodySF (plainFor_of_name own_pn1) hisR ?_
  intro p e s m args below meth c_ s₁ Bd hml0 hP hK
  obtain ⟨rfl, hZ, hh⟩ := hP
  have hx := Bd.exec
  have hby := Bd.bytes
  have hml : c_.maxLocals = 2 := hml0
  have hown : s.vm.findClass "java/lang/String" = some m.cls := findClass_of_methodNamed Bd.named
  have hnm := (name_of_methodNamed Bd.named Bd.method).1
  have X0 : Stand p l e ({ frames := 5, cells := 2, slots := 9, locals := 74 } : Room) s m #[(.ref a), (.ref ca)] below meth c_ s₁ [] 0 0 := Stand.of_body Bd
  have e0 : s₁.heap = h0 := by rw [← hh, Bd.state]; rfl
  have N0 := Fr.nil n0
  have w3_ := hw _ (List.mem_of_getElem? (i := 3) rfl)
  have w7_ := hw _ (List.mem_of_getElem? (i := 7) rfl)
  have w8_ := hw _ (List.mem_of_getElem? (i := 8) rfl)
  have w10_ := hw _ (List.mem_of_getElem? (i := 10) rfl)
  show Go p e below (RetG s (Q_ini1f_3_0 Z a ca kc c0 c1 c2 cz h0 n0) 2 9) (s₁.setTop (entryFrame m #[(.ref a), (.ref ca)] 2))
  rw [show entryFrame m #[(.ref a), (.ref ca)] 2 = mkF m 0 #[.val (.ref a), .val (.ref ca)] [] from by first | (simp [entryFrame, mkF, argsToLocals, Value.category]; done) | rfl]
  refine g_aloadN X0 hx hby d1_0 rfl rfl ?_
  refine g_aloadN X0 hx hby d1_1 rfl rfl ?_
  refine g_iconst X0 hx hby (0 : Int32) d1_2 rfl ?_
  refine g_aloadN X0 hx hby d1_3 rfl rfl ?_
  refine g_arraylength X0 hx hby hZ e0 VC d1_4 ?_
  refine g_aconst_null X0 hx hby d1_5 ?_
  refine g_special X0 hx hby hZ hown (rm_ini2f_3_0 l Z a0 hw [] a ca kc c0 c1 c2 cz h0 n0 Z0 O2 P5 OLD Uad Uhi Ulo E FC FV VC ga hf hr0 hr1 hr2) rfl rfl w7_ w8_ w3_ w10_ (by decide) e0 (by rw [hml]; rfl) [(.ref ca), (.int (0 : Int32)), (.int (3 : Int32)), .null] (lenOf own_pd0 rfl) rfl rfl (Nat.le_of_ble_eq_true rfl) (Nat.le_of_ble_eq_true rfl) (Nat.le_of_ble_eq_true rfl) (Nat.le_of_ble_eq_true rfl) d1_6 (fun v1 T1 L1 X1 hQ1 => ?_)
  obtain ⟨rfl, N1q, R1⟩ := hQ1
  have N1 := Fr.app N0 N1q
  refine g_ret X1 hx hby Bd.returns Bd.notSynchronized d1_9 rfl (by decide) (by decide) ?_
  show (Q_ini1f_3_0 Z a ca kc c0 c1 c2 cz h0 n0) none _ _
  exact ⟨rfl, N1, R1⟩

def Q_slen16_3 (Z : State) (a : Addr) (b : Addr) (kb : ClassId) (c0 : Int32) (c1 : Int32) (c2 : Int32) (cz : Int32) (h0 : Heap) (n0 : Nat) (v : Option Value) (h : Heap) (L : List Loc) : Prop := v = some (.int (3 : Int32)) ∧ Fr n0 L ∧ h = h0
set_option maxRecDepth 65536 in
set_option maxHeartbeats 40000000 in
theorem rm_slen16_3 (l : Launch) (Z : State) (a0 : Array Value) (hw : ∀ d ∈ tables_1, d.before a0 Z = true) (ws : List Jvm.Cond) (a : Addr) (b : Addr) (kb : ClassId) (c0 : Int32) (c1 : Int32) (c2 : Int32) (cz : Int32) (h0 : Heap) (n0 : Nat) (Z0 : n0 ≤ h0.size) (O2 : Sta Z Z.heap "java/lang/String" "COMPACT_STRINGS" "Z" (.int cz)) (P5 : ¬ cz = (0 : Int32)) (OLD : Old Z n0 h0) (Uad : Sta Z Z.heap "java/lang/StringUTF16" "$assertionsDisabled" "Z" (.int (1 : Int32))) (Uhi : Sta Z Z.heap "java/lang/StringUTF16" "HI_BYTE_SHIFT" "I" (.int (0 : Int32))) (Ulo : Sta Z Z.heap "java/lang/StringUTF16" "LO_BYTE_SHIFT" "I" (.int (8 : Int32))) (E : Exa Z h0 a "java/lang/String") (C : Fld Z h0 a "java/lang/String" "coder" "B" (.int (1 : Int32))) (VF : Fld Z h0 a "java/lang/String" "value" "[B" (.ref b)) (VB : Arv Z h0 b kb .byte (6 : Int32) [(.int (own_lob c0)), (.int (own_hib c0)), (.int (own_lob c1)), (.int (own_hib c1)), (.int (own_lob c2)), (.int (own_hib c2))] (.int (0 : Int32))) :
    MetFree l (⟨"java/lang/String", "length", "()I"⟩ : MethodName) (head1 (Jvm.Cond.code (⟨"java/lang/String", "length", "()I"⟩ : MethodName) jdk_42_method_54_code 1 (some .int) :: ws) ({ frames := 1, cells := 0, slots := 0, locals := 13 } : Room)) (fun aa_ U => aa_ = #[(.ref a)] ∧ Z.Warmed39 U.vm ∧ U.heap = h0) (fun _ _ _ _ _ => True) (fun _ U o_ U' => RetG U (Q_slen16_3 Z a b kb c0 c1 c2 cz h0 n0) 0 0 U' o_) := by
  refine MetFree.of_bodySF (plainFor_of_name own_pn1) hisR ?_
  intro p e s m args below meth c_ s₁ Bd hml0 hP hK
  obtain ⟨rfl, hZ, hh⟩ := hP
  have hx := Bd.exec
  have hby := Bd.bytes
  have hml : c_.maxLocals = 1 := hml0
  have hown : s.vm.findClass "java/lang/String" = some m.cls := findClass_of_methodNamed Bd.named
  have hnm := (name_of_methodNamed Bd.named Bd.method).1
  have X0 : Stand p l e ({ frames := 1, cells := 0, slots := 0, locals := 13 } : Room) s m #[(.ref a)] below meth c_ s₁ [] 0 0 := Stand.of_body Bd
  have e0 : s₁.heap = h0 := by rw [← hh, Bd.state]; rfl
  have N0 := Fr.nil n0
  have w3_ := hw _ (List.mem_of_getElem? (i := 3) rfl)
  have w20_ := hw _ (List.mem_of_getElem? (i := 20) rfl)
  have w31_ := hw _ (List.mem_of_getElem? (i := 31) rfl)
  have w32_ := hw _ (List.mem_of_getElem? (i := 32) rfl)
  have w33_ := hw _ (List.mem_of_getElem? (i := 33) rfl)
  have w34_ := hw _ (List.mem_of_getElem? (i := 34) rfl)
  have w35_ := hw _ (List.mem_of_getElem? (i := 35) rfl)
  show Go p e below (RetG s (Q_slen16_3 Z a b kb c0 c1 c2 cz h0 n0) 0 0) (s₁.setTop (entryFrame m #[(.ref a)] 1))
  rw [show entryFrame m #[(.ref a)] 1 = mkF m 0 #[.val (.ref a)] [] from by first | (simp [entryFrame, mkF, argsToLocals, Value.category]; done) | rfl]
  refine g_aloadN X0 hx hby d5_0 rfl rfl ?_
  refine g_getF X0 hx hby hZ hown (host := "") (Or.inl w20_) Via.refl e0 VF d5_1 (fun T1 X1 e1 => ?_)
  refine g_arraylength X1 hx hby hZ e1 VB d5_4 ?_
  refine g_aloadN X1 hx hby d5_5 rfl rfl ?_
  refine g_virtual X1 hx hby hZ hown (rm_coder l Z a0 hw [] a (1 : Int32) cz h0 n0 Z0 O2 P5 OLD C) w31_ w32_ (notFace_of_selects (args := #[]) (mvT hZ w34_)) w34_ w33_ w3_ w35_ (by decide) e1 E (by rw [hml]; rfl) [] (lenOf own_pd2 rfl) rfl rfl (Nat.le_of_ble_eq_true rfl) (Nat.le_of_ble_eq_true rfl) (Nat.le_of_ble_eq_true rfl) (Nat.le_of_ble_eq_true rfl) d5_6 (fun v2 T2 L2 X2 hQ2 => ?_)
  obtain ⟨rfl, N2q, eh2⟩ := hQ2
  have N2 := Fr.app N0 N2q
  refine g_topI (T := T2) (1 : Int32) (by decide) ?_
  refine g_ishr X2 hx hby d5_9 ?_
  refine g_topI (3 : Int32) (by decide) ?_
  refine g_iret X2 hx hby Bd.returns Bd.notSynchronized d5_10 eh2 (by decide) (by decide) ?_
  show (Q_slen16_3 Z a b kb c0 c1 c2 cz h0 n0) (some (.int (3 : Int32))) _ _
  exact ⟨rfl, N2, rfl⟩

def Q_ulen_3 (Z : State) (b : Addr) (kb : ClassId) (c0 : Int32) (c1 : Int32) (c2 : Int32) (h0 : Heap) (n0 : Nat) (v : Option Value) (h : Heap) (L : List Loc) : Prop := v = some (.int (3 : Int32)) ∧ Fr n0 L ∧ h = h0
set_option maxRecDepth 65536 in
set_option maxHeartbeats 40000000 in
theorem rm_ulen_3 (l : Launch) (Z : State) (a0 : Array Value) (hw : ∀ d ∈ tables_1, d.before a0 Z = true) (ws : List Jvm.Cond) (b : Addr) (kb : ClassId) (c0 : Int32) (c1 : Int32) (c2 : Int32) (h0 : Heap) (n0 : Nat) (Z0 : n0 ≤ h0.size) (VB : Arv Z h0 b kb .byte (6 : Int32) [(.int (own_lob c0)), (.int (own_hib c0)), (.int (own_lob c1)), (.int (own_hib c1)), (.int (own_lob c2)), (.int (own_hib c2))] (.int (0 : Int32))) :
    MetFree l (⟨"java/lang/StringUTF16", "length", "([B)I"⟩ : MethodName) (head1 (Jvm.Cond.code (⟨"java/lang/StringUTF16", "length", "([B)I"⟩ : MethodName) jdk_52_method_6_code 1 (some .int) :: ws) ({ frames := 0, cells := 0, slots := 0, locals := 0 } : Room)) (fun aa_ U => aa_ = #[(.ref b)] ∧ Z.Warmed39 U.vm ∧ U.heap = h0) (fun _ _ _ _ _ => True) (fun _ U o_ U' => RetG U (Q_ulen_3 Z b kb c0 c1 c2 h0 n0) 0 0 U' o_) := by
  refine MetFree.of_bodySF (plainFor_of_name own_pn3) hisR ?_
  intro p e s m args below meth c_ s₁ Bd hml0 hP hK
  obtain ⟨rfl, hZ, hh⟩ := hP
  have hx := Bd.exec
  have hby := Bd.bytes
  have hml : c_.maxLocals = 1 := hml0
  have hown : s.vm.findClass "java/lang/StringUTF16" = some m.cls := findClass_of_methodNamed Bd.named
  have hnm := (name_of_methodNamed Bd.named Bd.method).1
  have X0 : Stand p l e ({ frames := 0, cells := 0, slots := 0, locals := 0 } : Room) s m #[(.ref b)] below meth c_ s₁ [] 0 0 := Stand.of_body Bd
  have e0 : s₁.heap = h0 := by rw [← hh, Bd.state]; rfl
  have N0 := Fr.nil n0
  show Go p e below (RetG s (Q_ulen_3 Z b kb c0 c1 c2 h0 n0) 0 0) (s₁.setTop (entryFrame m #[(.ref b)] 1))
  rw [show entryFrame m #[(.ref b)] 1 = mkF m 0 #[.val (.ref b)] [] from by first | (simp [entryFrame, mkF, argsToLocals, Value.category]; done) | rfl]
  refine g_aloadN X0 hx hby d23_0 rfl rfl ?_
  refine g_arraylength X0 hx hby hZ e0 VB d23_1 ?_
  refine g_iconst X0 hx hby (1 : Int32) d23_2 rfl ?_
  refine g_ishr X0 hx hby d23_3 ?_
  refine g_topI (3 : Int32) (by decide) ?_
  refine g_iret X0 hx hby Bd.returns Bd.notSynchronized d23_4 e0 (by decide) (by decide) ?_
  show (Q_ulen_3 Z b kb c0 c1 c2 h0 n0) (some (.int (3 : Int32))) _ _
  exact ⟨rfl, N0, rfl⟩

def Q_uchk_3_0 (Z : State) (b : Addr) (kb : ClassId) (c0 : Int32) (c1 : Int32) (c2 : Int32) (fz : Value) (h0 : Heap) (n0 : Nat) (v : Option Value) (h : Heap) (L : List Loc) : Prop := v = none ∧ Fr n0 L ∧ h = h0
set_option maxRecDepth 65536 in
set_option maxHeartbeats 40000000 in
theorem rm_uchk_3_0 (l : Launch) (Z : State) (a0 : Array Value) (hw : ∀ d ∈ tables_1, d.before a0 Z = true) (ws : List Jvm.Cond) (b : Addr) (kb : ClassId) (c0 : Int32) (c1 : Int32) (c2 : Int32) (fz : Value) (h0 : Heap) (n0 : Nat) (Z0 : n0 ≤ h0.size) (VB : Arv Z h0 b kb .byte (6 : Int32) [(.int (own_lob c0)), (.int (own_hib c0)), (.int (own_lob c1)), (.int (own_hib c1)), (.int (own_lob c2)), (.int (own_hib c2))] (.int (0 : Int32))) (OLD : Old Z n0 h0) (rfz : Rf fz) (O4 : Sta Z Z.heap "jdk/internal/util/Preconditions" "SIOOBE_FORMATTER" "Ljava/util/function/BiFunction;" fz) :
    MetFree l (⟨"java/lang/StringUTF16", "checkIndex", "(I[B)V"⟩ : MethodName) (head1 (Jvm.Cond.code (⟨"java/lang/StringUTF16", "checkIndex", "(I[B)V"⟩ : MethodName) jdk_52_method_91_code 2 none :: ws) ({ frames := 2, cells := 0, slots := 0, locals := 27 } : Room)) (fun aa_ U => aa_ = #[(.int (0 : Int32)), (.ref b)] ∧ Z.Warmed39 U.vm ∧ U.heap = h0) (fun _ _ _ _ _ => True) (fun _ U o_ U' => RetG U (Q_uchk_3_0 Z b kb c0 c1 c2 fz h0 n0) 0 0 U' o_) := by
  refine MetFree.of_bodySF (plainFor_of_name own_pn3) hisR ?_
  intro p e s m args below meth c_ s₁ Bd hml0 hP hK
  obtain ⟨rfl, hZ, hh⟩ := hP
  have hx := Bd.exec
  have hby := Bd.bytes
  have hml : c_.maxLocals = 2 := hml0
  have hown : s.vm.findClass "java/lang/StringUTF16" = some m.cls := findClass_of_methodNamed Bd.named
  have hnm := (name_of_methodNamed Bd.named Bd.method).1
  have X0 : Stand p l e ({ frames := 2, cells := 0, slots := 0, locals := 27 } : Room) s m #[(.int (0 : Int32)), (.ref b)] below meth c_ s₁ [] 0 0 := Stand.of_body Bd
  have e0 : s₁.heap = h0 := by rw [← hh, Bd.state]; rfl
  have N0 := Fr.nil n0
  have w3_ := hw _ (List.mem_of_getElem? (i := 3) rfl)
  have w39_ := hw _ (List.mem_of_getElem? (i := 39) rfl)
  have w66_ := hw _ (List.mem_of_getElem? (i := 66) rfl)
  have w67_ := hw _ (List.mem_of_getElem? (i := 67) rfl)
  have w98_ := hw _ (List.mem_of_getElem? (i := 98) rfl)
  have w99_ := hw _ (List.mem_of_getElem? (i := 99) rfl)
  have w100_ := hw _ (List.mem_of_getElem? (i := 100) rfl)
  have w101_ := hw _ (List.mem_of_getElem? (i := 101) rfl)
  show Go p e below (RetG s (Q_uchk_3_0 Z b kb c0 c1 c2 fz h0 n0) 0 0) (s₁.setTop (entryFrame m #[(.int (0 : Int32)), (.ref b)] 2))
  rw [show entryFrame m #[(.int (0 : Int32)), (.ref b)] 2 = mkF m 0 #[.val (.int (0 : Int32)), .val (.ref b)] [] from by first | (simp [entryFrame, mkF, argsToLocals, Value.category]; done) | rfl]
  refine g_iloadN X0 hx hby d22_0 rfl ?_
  refine g_aloadN X0 hx hby d22_1 rfl rfl ?_
  refine g_static X0 hx hby hZ hown (rm_ulen_3 l Z a0 hw [] b kb c0 c1 c2 h0 n0 Z0 VB) w98_ w99_ w39_ w100_ (by decide) e0 (by rw [hml]; rfl) [(.ref b)] (lenOf own_pd14 rfl) rfl rfl (Nat.le_of_ble_eq_true rfl) (Nat.le_of_ble_eq_true rfl) (Nat.le_of_ble_eq_true rfl) (Nat.le_of_ble_eq_true rfl) d22_2 (fun v1 T1 L1 X1 hQ1 => ?_)
  obtain ⟨rfl, N1q, eh1⟩ := hQ1
  have N1 := Fr.app N0 N1q
  refine g_static X1 hx hby hZ hown (rm_schk l Z a0 hw [] (0 : Int32) (3 : Int32) fz h0 n0 Z0 ⟨by decide, by decide⟩ rfz O4 OLD) w101_ w66_ w3_ w67_ (by decide) eh1 (by rw [hml]; rfl) [(.int (0 : Int32)), (.int (3 : Int32))] (lenOf own_pd15 rfl) rfl rfl (Nat.le_of_ble_eq_true rfl) (Nat.le_of_ble_eq_true rfl) (Nat.le_of_ble_eq_true rfl) (Nat.le_of_ble_eq_true rfl) d22_5 (fun v2 T2 L2 X2 hQ2 => ?_)
  obtain ⟨rfl, N2q, eh2⟩ := hQ2
  have N2 := Fr.app N1 N2q
  refine g_ret X2 hx hby Bd.returns Bd.notSynchronized d22_8 eh2 (by decide) (by decide) ?_
  show (Q_uchk_3_0 Z b kb c0 c1 c2 fz h0 n0) none _ _
  exact ⟨rfl, N2, rfl⟩

def Q_uchar_3_0 (Z : State) (b : Addr) (kb : ClassId) (c0 : Int32) (c1 : Int32) (c2 : Int32) (fz : Value) (h0 : Heap) (n0 : Nat) (v : Option Value) (h : Heap) (L : List Loc) : Prop := v = some (.int c0) ∧ Fr n0 L ∧ h = h0
set_option maxRecDepth 65536 in
set_option maxHeartbeats 40000000 in
theorem rm_uchar_3_0 (l : Launch) (Z : State) (a0 : Array Value) (hw : ∀ d ∈ tables_1, d.before a0 Z = true) (ws : List Jvm.Cond) (b : Addr) (kb : ClassId) (c0 : Int32) (c1 : Int32) (c2 : Int32) (fz : Value) (h0 : Heap) (n0 : Nat) (Z0 : n0 ≤ h0.size) (Uad : Sta Z Z.heap "java/lang/StringUTF16" "$assertionsDisabled" "Z" (.int (1 : Int32))) (Uhi : Sta Z Z.heap "java/lang/StringUTF16" "HI_BYTE_SHIFT" "I" (.int (0 : Int32))) (Ulo : Sta Z Z.heap "java/lang/StringUTF16" "LO_BYTE_SHIFT" "I" (.int (8 : Int32))) (VB : Arv Z h0 b kb .byte (6 : Int32) [(.int (own_lob c0)), (.int (own_hib c0)), (.int (own_lob c1)), (.int (own_hib c1)), (.int (own_lob c2)), (.int (own_hib c2))] (.int (0 : Int32))) (OLD : Old Z n0 h0) (rfz : Rf fz) (O4 : Sta Z Z.heap "jdk/internal/util/Preconditions" "SIOOBE_FORMATTER" "Ljava/util/function/BiFunction;" fz) (hr : 0 ≤ c0.toInt ∧ c0.toInt < 65536) :
    MetFree l (⟨"java/lang/StringUTF16", "charAt", "([BI)C"⟩ : MethodName) (head1 (Jvm.Cond.code (⟨"java/lang/StringUTF16", "charAt", "([BI)C"⟩ : MethodName) jdk_52_method_83_code 2 (some .char) :: ws) ({ frames := 3, cells := 0, slots := 0, locals := 40 } : Room)) (fun aa_ U => aa_ = #[(.ref b), (.int (0 : Int32))] ∧ Z.Warmed39 U.vm ∧ U.heap = h0) (fun _ _ _ _ _ => True) (fun _ U o_ U' => RetG U (Q_uchar_3_0 Z b kb c0 c1 c2 fz h0 n0) 0 0 U' o_) := by
  refine MetFree.of_bodySF (plainFor_of_name own_pn3) hisR ?_
  intro p e s m args below meth c_ s₁ Bd hml0 hP hK
  obtain ⟨rfl, hZ, hh⟩ := hP
  have hx := Bd.exec
  have hby := Bd.bytes
  have hml : c_.maxLocals = 2 := hml0
  have hown : s.vm.findClass "java/lang/StringUTF16" = some m.cls := findClass_of_methodNamed Bd.named
  have hnm := (name_of_methodNamed Bd.named Bd.method).1
  have X0 : Stand p l e ({ frames := 3, cells := 0, slots := 0, locals := 40 } : Room) s m #[(.ref b), (.int (0 : Int32))] below meth c_ s₁ [] 0 0 := Stand.of_body Bd
  have e0 : s₁.heap = h0 := by rw [← hh, Bd.state]; rfl
  have N0 := Fr.nil n0
  have w39_ := hw _ (List.mem_of_getElem? (i := 39) rfl)
  have w89_ := hw _ (List.mem_of_getElem? (i := 89) rfl)
  have w90_ := hw _ (List.mem_of_getElem? (i := 90) rfl)
  have w91_ := hw _ (List.mem_of_getElem? (i := 91) rfl)
  have w95_ := hw _ (List.mem_of_getElem? (i := 95) rfl)
  have w96_ := hw _ (List.mem_of_getElem? (i := 96) rfl)
  have w97_ := hw _ (List.mem_of_getElem? (i := 97) rfl)
  show Go p e below (RetG s (Q_uchar_3_0 Z b kb c0 c1 c2 fz h0 n0) 0 0) (s₁.setTop (entryFrame m #[(.ref b), (.int (0 : Int32))] 2))
  rw [show entryFrame m #[(.ref b), (.int (0 : Int32))] 2 = mkF m 0 #[.val (.ref b), .val (.int (0 : Int32))] [] from by first | (simp [entryFrame, mkF, argsToLocals, Value.category]; done) | rfl]
  refine g_iloadN X0 hx hby d21_0 rfl ?_
  refine g_aloadN X0 hx hby d21_1 rfl rfl ?_
  refine g_static X0 hx hby hZ hown (rm_uchk_3_0 l Z a0 hw [] b kb c0 c1 c2 fz h0 n0 Z0 VB OLD rfz O4) w95_ w96_ w39_ w97_ (by decide) e0 (by rw [hml]; rfl) [(.int (0 : Int32)), (.ref b)] (lenOf own_pd16 rfl) rfl rfl (Nat.le_of_ble_eq_true rfl) (Nat.le_of_ble_eq_true rfl) (Nat.le_of_ble_eq_true rfl) (Nat.le_of_ble_eq_true rfl) d21_2 (fun v1 T1 L1 X1 hQ1 => ?_)
  obtain ⟨rfl, N1q, eh1⟩ := hQ1
  have N1 := Fr.app N0 N1q
  refine g_aloadN X1 hx hby d21_5 rfl rfl ?_
  refine g_iloadN X1 hx hby d21_6 rfl ?_
  refine g_static X1 hx hby hZ hown (rm_getc_3_0 l Z a0 hw [] b kb (own_lob c0) (own_hib c0) (own_lob c1) (own_hib c1) (own_lob c2) (own_hib c2) h0 n0 Z0 Uad Uhi Ulo OLD VB) w89_ w90_ w39_ w91_ (by decide) eh1 (by rw [hml]; rfl) [(.ref b), (.int (0 : Int32))] (lenOf own_pd10 rfl) rfl rfl (Nat.le_of_ble_eq_true rfl) (Nat.le_of_ble_eq_true rfl) (Nat.le_of_ble_eq_true rfl) (Nat.le_of_ble_eq_true rfl) d21_7 (fun v2 T2 L2 X2 hQ2 => ?_)
  obtain ⟨rfl, N2q, eh2⟩ := hQ2
  have N2 := Fr.app N1 N2q
  refine g_topI (T := T2) c0 (own_u16 hr) ?_
  refine g_nret X2 hx hby (t := .char) (by simp) Bd.returns Bd.notSynchronized d21_10 eh2 (by decide) (by decide) ?_
  show (Q_uchar_3_0 Z b kb c0 c1 c2 fz h0 n0) (some (.int (nar .char c0))) _ _
  exact ⟨by rw [own_nc16 hr], N2, rfl⟩

def Q_schar16_3_0 (Z : State) (a : Addr) (b : Addr) (kb : ClassId) (c0 : Int32) (c1 : Int32) (c2 : Int32) (fz : Value) (cz : Int32) (h0 : Heap) (n0 : Nat) (v : Option Value) (h : Heap) (L : List Loc) : Prop := v = some (.int c0) ∧ Fr n0 L ∧ h = h0
set_option maxRecDepth 65536 in
set_option maxHeartbeats 40000000 in
theorem rm_schar16_3_0 (l : Launch) (Z : State) (a0 : Array Value) (hw : ∀ d ∈ tables_1, d.before a0 Z = true) (ws : List Jvm.Cond) (a : Addr) (b : Addr) (kb : ClassId) (c0 : Int32) (c1 : Int32) (c2 : Int32) (fz : Value) (cz : Int32) (h0 : Heap) (n0 : Nat) (Z0 : n0 ≤ h0.size) (O2 : Sta Z Z.heap "java/lang/String" "COMPACT_STRINGS" "Z" (.int cz)) (P5 : ¬ cz = (0 : Int32)) (OLD : Old Z n0 h0) (Uad : Sta Z Z.heap "java/lang/StringUTF16" "$assertionsDisabled" "Z" (.int (1 : Int32))) (Uhi : Sta Z Z.heap "java/lang/StringUTF16" "HI_BYTE_SHIFT" "I" (.int (0 : Int32))) (Ulo : Sta Z Z.heap "java/lang/StringUTF16" "LO_BYTE_SHIFT" "I" (.int (8 : Int32))) (E : Exa Z h0 a "java/lang/String") (C : Fld Z h0 a "java/lang/String" "coder" "B" (.int (1 : Int32))) (VF : Fld Z h0 a "java/lang/String" "value" "[B" (.ref b)) (VB : Arv Z h0 b kb .byte (6 : Int32) [(.int (own_lob c0)), (.int (own_hib c0)), (.int (own_lob c1)), (.int (own_hib c1)), (.int (own_lob c2)), (.int (own_hib c2))] (.int (0 : Int32))) (rfz : Rf fz) (O4 : Sta Z Z.heap "jdk/internal/util/Preconditions" "SIOOBE_FORMATTER" "Ljava/util/function/BiFunction;" fz) (hr : 0 ≤ c0.toInt ∧ c0.toInt < 65536) :
    MetFree l (⟨"java/lang/String", "charAt", "(I)C"⟩ : MethodName) (head1 (Jvm.Cond.code (⟨"java/lang/String", "charAt", "(I)C"⟩ : MethodName) jdk_42_method_56_code 2 (some .char) :: ws) ({ frames := 4, cells := 0, slots := 0, locals := 53 } : Room)) (fun aa_ U => aa_ = #[(.ref a), (.int (0 : Int32))] ∧ Z.Warmed39 U.vm ∧ U.heap = h0) (fun _ _ _ _ _ => True) (fun _ U o_ U' => RetG U (Q_schar16_3_0 Z a b kb c0 c1 c2 fz cz h0 n0) 0 0 U' o_) := by
  refine MetFree.of_bodySF (plainFor_of_name own_pn1) hisR ?_
  intro p e s m args below meth c_ s₁ Bd hml0 hP hK
  obtain ⟨rfl, hZ, hh⟩ := hP
  have hx := Bd.exec
  have hby := Bd.bytes
  have hml : c_.maxLocals = 2 := hml0
  have hown : s.vm.findClass "java/lang/String" = some m.cls := findClass_of_methodNamed Bd.named
  have hnm := (name_of_methodNamed Bd.named Bd.method).1
  have X0 : Stand p l e ({ frames := 4, cells := 0, slots := 0, locals := 53 } : Room) s m #[(.ref a), (.int (0 : Int32))] below meth c_ s₁ [] 0 0 := Stand.of_body Bd
  have e0 : s₁.heap = h0 := by rw [← hh, Bd.state]; rfl
  have N0 := Fr.nil n0
  have w3_ := hw _ (List.mem_of_getElem? (i := 3) rfl)
  have w20_ := hw _ (List.mem_of_getElem? (i := 20) rfl)
  have w39_ := hw _ (List.mem_of_getElem? (i := 39) rfl)
  have w56_ := hw _ (List.mem_of_getElem? (i := 56) rfl)
  have w57_ := hw _ (List.mem_of_getElem? (i := 57) rfl)
  have w58_ := hw _ (List.mem_of_getElem? (i := 58) rfl)
  have w59_ := hw _ (List.mem_of_getElem? (i := 59) rfl)
  have w60_ := hw _ (List.mem_of_getElem? (i := 60) rfl)
  have w92_ := hw _ (List.mem_of_getElem? (i := 92) rfl)
  have w93_ := hw _ (List.mem_of_getElem? (i := 93) rfl)
  have w94_ := hw _ (List.mem_of_getElem? (i := 94) rfl)
  show Go p e below (RetG s (Q_schar16_3_0 Z a b kb c0 c1 c2 fz cz h0 n0) 0 0) (s₁.setTop (entryFrame m #[(.ref a), (.int (0 : Int32))] 2))
  rw [show entryFrame m #[(.ref a), (.int (0 : Int32))] 2 = mkF m 0 #[.val (.ref a), .val (.int (0 : Int32))] [] from by first | (simp [entryFrame, mkF, argsToLocals, Value.category]; done) | rfl]
  refine g_aloadN X0 hx hby d11_0 rfl rfl ?_
  refine g_virtual X0 hx hby hZ hown (rm_islat16 l Z a0 hw [] a cz h0 n0 Z0 O2 P5 OLD C) w56_ w57_ (notFace_of_selects (args := #[]) (mvT hZ w59_)) w59_ w58_ w3_ w60_ (by decide) e0 E (by rw [hml]; rfl) [] (lenOf own_pd17 rfl) rfl rfl (Nat.le_of_ble_eq_true rfl) (Nat.le_of_ble_eq_true rfl) (Nat.le_of_ble_eq_true rfl) (Nat.le_of_ble_eq_true rfl) d11_1 (fun v1 T1 L1 X1 hQ1 => ?_)
  obtain ⟨rfl, N1q, eh1⟩ := hQ1
  have N1 := Fr.app N0 N1q
  refine g_ifY X1 hx hby 16 d11_4 (teq (by decide : (0 : Int32) = (0 : Int32))).1 (by decide) (by decide) ?_
  refine g_aloadN X1 hx hby d11_16 rfl rfl ?_
  refine g_getF X1 hx hby hZ hown (host := "") (Or.inl w20_) Via.refl eh1 VF d11_17 (fun T2 X2 e2 => ?_)
  refine g_iloadN X2 hx hby d11_20 rfl ?_
  refine g_static X2 hx hby hZ hown (rm_uchar_3_0 l Z a0 hw [] b kb c0 c1 c2 fz h0 n0 Z0 Uad Uhi Ulo VB OLD rfz O4 hr) w92_ w93_ w39_ w94_ (by decide) e2 (by rw [hml]; rfl) [(.ref b), (.int (0 : Int32))] (lenOf own_pd10 rfl) rfl rfl (Nat.le_of_ble_eq_true rfl) (Nat.le_of_ble_eq_true rfl) (Nat.le_of_ble_eq_true rfl) (Nat.le_of_ble_eq_true rfl) d11_21 (fun v3 T3 L3 X3 hQ3 => ?_)
  obtain ⟨rfl, N3q, eh3⟩ := hQ3
  have N3 := Fr.app N1 N3q
  refine g_nret X3 hx hby (t := .char) (by simp) Bd.returns Bd.notSynchronized d11_24 eh3 (by decide) (by decide) ?_
  show (Q_schar16_3_0 Z a b kb c0 c1 c2 fz cz h0 n0) (some (.int (nar .char c0))) _ _
  exact ⟨by rw [own_nc16 hr], N3, rfl⟩

def Q_getc_3_1 (Z : State) (b : Addr) (kb : ClassId) (v0 : Int32) (v1 : Int32) (v2 : Int32) (v3 : Int32) (v4 : Int32) (v5 : Int32) (h0 : Heap) (n0 : Nat) (v : Option Value) (h : Heap) (L : List Loc) : Prop := v = some (.int (nar .char (own_u16e v2 v3))) ∧ Fr n0 L ∧ h = h0
set_option maxRecDepth 65536 in
set_option maxHeartbeats 40000000 in
theorem rm_getc_3_1 (l : Launch) (Z : State) (a0 : Array Value) (hw : ∀ d ∈ tables_1, d.before a0 Z = true) (ws : List Jvm.Cond) (b : Addr) (kb : ClassId) (v0 : Int32) (v1 : Int32) (v2 : Int32) (v3 : Int32) (v4 : Int32) (v5 : Int32) (h0 : Heap) (n0 : Nat) (Z0 : n0 ≤ h0.size) (Uad : Sta Z Z.heap "java/lang/StringUTF16" "$assertionsDisabled" "Z" (.int (1 : Int32))) (Uhi : Sta Z Z.heap "java/lang/StringUTF16" "HI_BYTE_SHIFT" "I" (.int (0 : Int32))) (Ulo : Sta Z Z.heap "java/lang/StringUTF16" "LO_BYTE_SHIFT" "I" (.int (8 : Int32))) (OLD : Old Z n0 h0) (VB : Arv Z h0 b kb .byte (6 : Int32) [(.int v0), (.int v1), (.int v2), (.int v3), (.int v4), (.int v5)] (.int (0 : Int32))) :
    MetFree l (⟨"java/lang/StringUTF16", "getChar", "([BI)C"⟩ : MethodName) (head1 (Jvm.Cond.code (⟨"java/lang/StringUTF16", "getChar", "([BI)C"⟩ : MethodName) jdk_52_method_5_code 2 (some .char) :: ws) ({ frames := 0, cells := 0, slots := 0, locals := 0 } : Room)) (fun aa_ U => aa_ = #[(.ref b), (.int (1 : Int32))] ∧ Z.Warmed39 U.vm ∧ U.heap = h0) (fun _ _ _ _ _ => True) (fun _ U o_ U' => RetG U (Q_getc_3_1 Z b kb v0 v1 v2 v3 v4 v5 h0 n0) 0 0 U' o_) := by
  refine MetFree.of_bodySF (plainFor_of_name own_pn3) hisR ?_
  intro p e s m args below meth c_ s₁ Bd hml0 hP hK
  obtain ⟨rfl, hZ, hh⟩ := hP
  have hx := Bd.exec
  have hby := Bd.bytes
  have hml : c_.maxLocals = 2 := hml0
  have hown : s.vm.findClass "java/lang/StringUTF16" = some m.cls := findClass_of_methodNamed Bd.named
  have hnm := (name_of_methodNamed Bd.named Bd.method).1
  have X0 : Stand p l e ({ frames := 0, cells := 0, slots := 0, locals := 0 } : Room) s m #[(.ref b), (.int (1 : Int32))] below meth c_ s₁ [] 0 0 := Stand.of_body Bd
  have e0 : s₁.heap = h0 := by rw [← hh, Bd.state]; rfl
  have N0 := Fr.nil n0
  have w86_ := hw _ (List.mem_of_getElem? (i := 86) rfl)
  have w87_ := hw _ (List.mem_of_getElem? (i := 87) rfl)
  have w88_ := hw _ (List.mem_of_getElem? (i := 88) rfl)
  show Go p e below (RetG s (Q_getc_3_1 Z b kb v0 v1 v2 v3 v4 v5 h0 n0) 0 0) (s₁.setTop (entryFrame m #[(.ref b), (.int (1 : Int32))] 2))
  rw [show entryFrame m #[(.ref b), (.int (1 : Int32))] 2 = mkF m 0 #[.val (.ref b), .val (.int (1 : Int32))] [] from by first | (simp [entryFrame, mkF, argsToLocals, Value.category]; done) | rfl]
  refine g_getS X0 hx hby hZ hown (host := "") (Or.inl w86_) Via.refl e0 (Uad.ext OLD.2) d20_0 (fun T1 X1 e1 => ?_)
  refine g_ifY X1 hx hby 28 d20_3 (feq (by decide : ¬ ((1 : Int32) = (0 : Int32)))).2 (by decide) (by decide) ?_
  refine g_iloadN X1 hx hby d20_28 rfl ?_
  refine g_iconst X1 hx hby (1 : Int32) d20_29 rfl ?_
  refine g_ishl X1 hx hby d20_30 ?_
  refine g_topI (2 : Int32) (by decide) ?_
  refine g_istoreN X1 hx hby d20_31 (l' := #[.val (.ref b), .val (.int (2 : Int32))]) rfl ?_
  refine g_aloadN X1 hx hby d20_32 rfl rfl ?_
  refine g_iloadN X1 hx hby d20_33 rfl ?_
  refine g_iinc X1 hx hby (3 : Int32) d20_34 rfl (by decide) (l' := #[.val (.ref b), .val (.int (3 : Int32))]) rfl ?_
  refine g_baload X1 hx hby hZ e1 VB (.int v2) ⟨by decide, by decide⟩ rfl d20_37 ?_
  refine g_sipush X1 hx hby (255 : Int32) d20_38 rfl ?_
  refine g_iand X1 hx hby d20_41 ?_
  refine g_getS X1 hx hby hZ hown (host := "") (Or.inl w87_) Via.refl e1 (Uhi.ext OLD.2) d20_42 (fun T2 X2 e2 => ?_)
  refine g_ishl X2 hx hby d20_45 ?_
  refine g_aloadN X2 hx hby d20_46 rfl rfl ?_
  refine g_iloadN X2 hx hby d20_47 rfl ?_
  refine g_baload X2 hx hby hZ e2 VB (.int v3) ⟨by decide, by decide⟩ rfl d20_48 ?_
  refine g_sipush X2 hx hby (255 : Int32) d20_49 rfl ?_
  refine g_iand X2 hx hby d20_52 ?_
  refine g_getS X2 hx hby hZ hown (host := "") (Or.inl w88_) Via.refl e2 (Ulo.ext OLD.2) d20_53 (fun T3 X3 e3 => ?_)
  refine g_ishl X3 hx hby d20_56 ?_
  refine g_ior X3 hx hby d20_57 ?_
  refine g_i2c X3 hx hby d20_58 ?_
  refine g_nret X3 hx hby (t := .char) (by simp) Bd.returns Bd.notSynchronized d20_59 e3 (by decide) (by decide) ?_
  show (Q_getc_3_1 Z b kb v0 v1 v2 v3 v4 v5 h0 n0) (some (.int (nar .char ((((v2 &&& (255 : Int32)) <<< ((0 : Int32) &&& 31)) ||| ((v3 &&& (255 : Int32)) <<< ((8 : Int32) &&& 31))).toUInt32.toUInt16.toUInt32.toInt32)))) _ _
  exact ⟨rfl, N0, rfl⟩

def Q_uchk_3_1 (Z : State) (b : Addr) (kb : ClassId) (c0 : Int32) (c1 : Int32) (c2 : Int32) (fz : Value) (h0 : Heap) (n0 : Nat) (v : Option Value) (h : Heap) (L : List Loc) : Prop := v = none ∧ Fr n0 L ∧ h = h0
set_option maxRecDepth 65536 in
set_option maxHeartbeats 40000000 in
theorem rm_uchk_3_1 (l : Launch) (Z : State) (a0 : Array Value) (hw : ∀ d ∈ tables_1, d.before a0 Z = true) (ws : List Jvm.Cond) (b : Addr) (kb : ClassId) (c0 : Int32) (c1 : Int32) (c2 : Int32) (fz : Value) (h0 : Heap) (n0 : Nat) (Z0 : n0 ≤ h0.size) (VB : Arv Z h0 b kb .byte (6 : Int32) [(.int (own_lob c0)), (.int (own_hib c0)), (.int (own_lob c1)), (.int (own_hib c1)), (.int (own_lob c2)), (.int (own_hib c2))] (.int (0 : Int32))) (OLD : Old Z n0 h0) (rfz : Rf fz) (O4 : Sta Z Z.heap "jdk/internal/util/Preconditions" "SIOOBE_FORMATTER" "Ljava/util/function/BiFunction;" fz) :
    MetFree l (⟨"java/lang/StringUTF16", "checkIndex", "(I[B)V"⟩ : MethodName) (head1 (Jvm.Cond.code (⟨"java/lang/StringUTF16", "checkIndex", "(I[B)V"⟩ : MethodName) jdk_52_method_91_code 2 none :: ws) ({ frames := 2, cells := 0, slots := 0, locals := 27 } : Room)) (fun aa_ U => aa_ = #[(.int (1 : Int32)), (.ref b)] ∧ Z.Warmed39 U.vm ∧ U.heap = h0) (fun _ _ _ _ _ => True) (fun _ U o_ U' => RetG U (Q_uchk_3_1 Z b kb c0 c1 c2 fz h0 n0) 0 0 U' o_) := by
  refine MetFree.of_bodySF (plainFor_of_name own_pn3) hisR ?_
  intro p e s m args below meth c_ s₁ Bd hml0 hP hK
  obtain ⟨rfl, hZ, hh⟩ := hP
  have hx := Bd.exec
  have hby := Bd.bytes
  have hml : c_.maxLocals = 2 := hml0
  have hown : s.vm.findClass "java/lang/StringUTF16" = some m.cls := findClass_of_methodNamed Bd.named
  have hnm := (name_of_methodNamed Bd.named Bd.method).1
  have X0 : Stand p l e ({ frames := 2, cells := 0, slots := 0, locals := 27 } : Room) s m #[(.int (1 : Int32)), (.ref b)] below meth c_ s₁ [] 0 0 := Stand.of_body Bd
  have e0 : s₁.heap = h0 := by rw [← hh, Bd.state]; rfl
  have N0 := Fr.nil n0
  have w3_ := hw _ (List.mem_of_getElem? (i := 3) rfl)
  have w39_ := hw _ (List.mem_of_getElem? (i := 39) rfl)
  have w66_ := hw _ (List.mem_of_getElem? (i := 66) rfl)
  have w67_ := hw _ (List.mem_of_getElem? (i := 67) rfl)
  have w98_ := hw _ (List.mem_of_getElem? (i := 98) rfl)
  have w99_ := hw _ (List.mem_of_getElem? (i := 99) rfl)
  have w100_ := hw _ (List.mem_of_getElem? (i := 100) rfl)
  have w101_ := hw _ (List.mem_of_getElem? (i := 101) rfl)
  show Go p e below (RetG s (Q_uchk_3_1 Z b kb c0 c1 c2 fz h0 n0) 0 0) (s₁.setTop (entryFrame m #[(.int (1 : Int32)), (.ref b)] 2))
  rw [show entryFrame m #[(.int (1 : Int32)), (.ref b)] 2 = mkF m 0 #[.val (.int (1 : Int32)), .val (.ref b)] [] from by first | (simp [entryFrame, mkF, argsToLocals, Value.category]; done) | rfl]
  refine g_iloadN X0 hx hby d22_0 rfl ?_
  refine g_aloadN X0 hx hby d22_1 rfl rfl ?_
  refine g_static X0 hx hby hZ hown (rm_ulen_3 l Z a0 hw [] b kb c0 c1 c2 h0 n0 Z0 VB) w98_ w99_ w39_ w100_ (by decide) e0 (by rw [hml]; rfl) [(.ref b)] (lenOf own_pd14 rfl) rfl rfl (Nat.le_of_ble_eq_true rfl) (Nat.le_of_ble_eq_true rfl) (Nat.le_of_ble_eq_true rfl) (Nat.le_of_ble_eq_true rfl) d22_2 (fun v1 T1 L1 X1 hQ1 => ?_)
  obtain ⟨rfl, N1q, eh1⟩ := hQ1
  have N1 := Fr.app N0 N1q
  refine g_static X1 hx hby hZ hown (rm_schk l Z a0 hw [] (1 : Int32) (3 : Int32) fz h0 n0 Z0 ⟨by decide, by decide⟩ rfz O4 OLD) w101_ w66_ w3_ w67_ (by decide) eh1 (by rw [hml]; rfl) [(.int (1 : Int32)), (.int (3 : Int32))] (lenOf own_pd15 rfl) rfl rfl (Nat.le_of_ble_eq_true rfl) (Nat.le_of_ble_eq_true rfl) (Nat.le_of_ble_eq_true rfl) (Nat.le_of_ble_eq_true rfl) d22_5 (fun v2 T2 L2 X2 hQ2 => ?_)
  obtain ⟨rfl, N2q, eh2⟩ := hQ2
  have N2 := Fr.app N1 N2q
  refine g_ret X2 hx hby Bd.returns Bd.notSynchronized d22_8 eh2 (by decide) (by decide) ?_
  show (Q_uchk_3_1 Z b kb c0 c1 c2 fz h0 n0) none _ _
  exact ⟨rfl, N2, rfl⟩

def Q_uchar_3_1 (Z : State) (b : Addr) (kb : ClassId) (c0 : Int32) (c1 : Int32) (c2 : Int32) (fz : Value) (h0 : Heap) (n0 : Nat) (v : Option Value) (h : Heap) (L : List Loc) : Prop := v = some (.int c1) ∧ Fr n0 L ∧ h = h0
set_option maxRecDepth 65536 in
set_option maxHeartbeats 40000000 in
theorem rm_uchar_3_1 (l : Launch) (Z : State) (a0 : Array Value) (hw : ∀ d ∈ tables_1, d.before a0 Z = true) (ws : List Jvm.Cond) (b : Addr) (kb : ClassId) (c0 : Int32) (c1 : Int32) (c2 : Int32) (fz : Value) (h0 : Heap) (n0 : Nat) (Z0 : n0 ≤ h0.size) (Uad : Sta Z Z.heap "java/lang/StringUTF16" "$assertionsDisabled" "Z" (.int (1 : Int32))) (Uhi : Sta Z Z.heap "java/lang/StringUTF16" "HI_BYTE_SHIFT" "I" (.int (0 : Int32))) (Ulo : Sta Z Z.heap "java/lang/StringUTF16" "LO_BYTE_SHIFT" "I" (.int (8 : Int32))) (VB : Arv Z h0 b kb .byte (6 : Int32) [(.int (own_lob c0)), (.int (own_hib c0)), (.int (own_lob c1)), (.int (own_hib c1)), (.int (own_lob c2)), (.int (own_hib c2))] (.int (0 : Int32))) (OLD : Old Z n0 h0) (rfz : Rf fz) (O4 : Sta Z Z.heap "jdk/internal/util/Preconditions" "SIOOBE_FORMATTER" "Ljava/util/function/BiFunction;" fz) (hr : 0 ≤ c1.toInt ∧ c1.toInt < 65536) :
    MetFree l (⟨"java/lang/StringUTF16", "charAt", "([BI)C"⟩ : MethodName) (head1 (Jvm.Cond.code (⟨"java/lang/StringUTF16", "charAt", "([BI)C"⟩ : MethodName) jdk_52_method_83_code 2 (some .char) :: ws) ({ frames := 3, cells := 0, slots := 0, locals := 40 } : Room)) (fun aa_ U => aa_ = #[(.ref b), (.int (1 : Int32))] ∧ Z.Warmed39 U.vm ∧ U.heap = h0) (fun _ _ _ _ _ => True) (fun _ U o_ U' => RetG U (Q_uchar_3_1 Z b kb c0 c1 c2 fz h0 n0) 0 0 U' o_) := by
  refine MetFree.of_bodySF (plainFor_of_name own_pn3) hisR ?_
  intro p e s m args below meth c_ s₁ Bd hml0 hP hK
  obtain ⟨rfl, hZ, hh⟩ := hP
  have hx := Bd.exec
  have hby := Bd.bytes
  have hml : c_.maxLocals = 2 := hml0
  have hown : s.vm.findClass "java/lang/StringUTF16" = some m.cls := findClass_of_methodNamed Bd.named
  have hnm := (name_of_methodNamed Bd.named Bd.method).1
  have X0 : Stand p l e ({ frames := 3, cells := 0, slots := 0, locals := 40 } : Room) s m #[(.ref b), (.int (1 : Int32))] below meth c_ s₁ [] 0 0 := Stand.of_body Bd
  have e0 : s₁.heap = h0 := by rw [← hh, Bd.state]; rfl
  have N0 := Fr.nil n0
  have w39_ := hw _ (List.mem_of_getElem? (i := 39) rfl)
  have w89_ := hw _ (List.mem_of_getElem? (i := 89) rfl)
  have w90_ := hw _ (List.mem_of_getElem? (i := 90) rfl)
  have w91_ := hw _ (List.mem_of_getElem? (i := 91) rfl)
  have w95_ := hw _ (List.mem_of_getElem? (i := 95) rfl)
  have w96_ := hw _ (List.mem_of_getElem? (i := 96) rfl)
  have w97_ := hw _ (List.mem_of_getElem? (i := 97) rfl)
  show Go p e below (RetG s (Q_uchar_3_1 Z b kb c0 c1 c2 fz h0 n0) 0 0) (s₁.setTop (entryFrame m #[(.ref b), (.int (1 : Int32))] 2))
  rw [show entryFrame m #[(.ref b), (.int (1 : Int32))] 2 = mkF m 0 #[.val (.ref b), .val (.int (1 : Int32))] [] from by first | (simp [entryFrame, mkF, argsToLocals, Value.category]; done) | rfl]
  refine g_iloadN X0 hx hby d21_0 rfl ?_
  refine g_aloadN X0 hx hby d21_1 rfl rfl ?_
  refine g_static X0 hx hby hZ hown (rm_uchk_3_1 l Z a0 hw [] b kb c0 c1 c2 fz h0 n0 Z0 VB OLD rfz O4) w95_ w96_ w39_ w97_ (by decide) e0 (by rw [hml]; rfl) [(.int (1 : Int32)), (.ref b)] (lenOf own_pd16 rfl) rfl rfl (Nat.le_of_ble_eq_true rfl) (Nat.le_of_ble_eq_true rfl) (Nat.le_of_ble_eq_true rfl) (Nat.le_of_ble_eq_true rfl) d21_2 (fun v1 T1 L1 X1 hQ1 => ?_)
  obtain ⟨rfl, N1q, eh1⟩ := hQ1
  have N1 := Fr.app N0 N1q
  refine g_aloadN X1 hx hby d21_5 rfl rfl ?_
  refine g_iloadN X1 hx hby d21_6 rfl ?_
  refine g_static X1 hx hby hZ hown (rm_getc_3_1 l Z a0 hw [] b kb (own_lob c0) (own_hib c0) (own_lob c1) (own_hib c1) (own_lob c2) (own_hib c2) h0 n0 Z0 Uad Uhi Ulo OLD VB) w89_ w90_ w39_ w91_ (by decide) eh1 (by rw [hml]; rfl) [(.ref b), (.int (1 : Int32))] (lenOf own_pd10 rfl) rfl rfl (Nat.le_of_ble_eq_true rfl) (Nat.le_of_ble_eq_true rfl) (Nat.le_of_ble_eq_true rfl) (Nat.le_of_ble_eq_true rfl) d21_7 (fun v2 T2 L2 X2 hQ2 => ?_)
  obtain ⟨rfl, N2q, eh2⟩ := hQ2
  have N2 := Fr.app N1 N2q
  refine g_topI (T := T2) c1 (own_u16 hr) ?_
  refine g_nret X2 hx hby (t := .char) (by simp) Bd.returns Bd.notSynchronized d21_10 eh2 (by decide) (by decide) ?_
  show (Q_uchar_3_1 Z b kb c0 c1 c2 fz h0 n0) (some (.int (nar .char c1))) _ _
  exact ⟨by rw [own_nc16 hr], N2, rfl⟩

def Q_schar16_3_1 (Z : State) (a : Addr) (b : Addr) (kb : ClassId) (c0 : Int32) (c1 : Int32) (c2 : Int32) (fz : Value) (cz : Int32) (h0 : Heap) (n0 : Nat) (v : Option Value) (h : Heap) (L : List Loc) : Prop := v = some (.int c1) ∧ Fr n0 L ∧ h = h0
set_option maxRecDepth 65536 in
set_option maxHeartbeats 40000000 in
theorem rm_schar16_3_1 (l : Launch) (Z : State) (a0 : Array Value) (hw : ∀ d ∈ tables_1, d.before a0 Z = true) (ws : List Jvm.Cond) (a : Addr) (b : Addr) (kb : ClassId) (c0 : Int32) (c1 : Int32) (c2 : Int32) (fz : Value) (cz : Int32) (h0 : Heap) (n0 : Nat) (Z0 : n0 ≤ h0.size) (O2 : Sta Z Z.heap "java/lang/String" "COMPACT_STRINGS" "Z" (.int cz)) (P5 : ¬ cz = (0 : Int32)) (OLD : Old Z n0 h0) (Uad : Sta Z Z.heap "java/lang/StringUTF16" "$assertionsDisabled" "Z" (.int (1 : Int32))) (Uhi : Sta Z Z.heap "java/lang/StringUTF16" "HI_BYTE_SHIFT" "I" (.int (0 : Int32))) (Ulo : Sta Z Z.heap "java/lang/StringUTF16" "LO_BYTE_SHIFT" "I" (.int (8 : Int32))) (E : Exa Z h0 a "java/lang/String") (C : Fld Z h0 a "java/lang/String" "coder" "B" (.int (1 : Int32))) (VF : Fld Z h0 a "java/lang/String" "value" "[B" (.ref b)) (VB : Arv Z h0 b kb .byte (6 : Int32) [(.int (own_lob c0)), (.int (own_hib c0)), (.int (own_lob c1)), (.int (own_hib c1)), (.int (own_lob c2)), (.int (own_hib c2))] (.int (0 : Int32))) (rfz : Rf fz) (O4 : Sta Z Z.heap "jdk/internal/util/Preconditions" "SIOOBE_FORMATTER" "Ljava/util/function/BiFunction;" fz) (hr : 0 ≤ c1.toInt ∧ c1.toInt < 65536) :
    MetFree l (⟨"java/lang/String", "charAt", "(I)C"⟩ : MethodName) (head1 (Jvm.Cond.code (⟨"java/lang/String", "charAt", "(I)C"⟩ : MethodName) jdk_42_method_56_code 2 (some .char) :: ws) ({ frames := 4, cells := 0, slots := 0, locals := 53 } : Room)) (fun aa_ U => aa_ = #[(.ref a), (.int (1 : Int32))] ∧ Z.Warmed39 U.vm ∧ U.heap = h0) (fun _ _ _ _ _ => True) (fun _ U o_ U' => RetG U (Q_schar16_3_1 Z a b kb c0 c1 c2 fz cz h0 n0) 0 0 U' o_) := by
  refine MetFree.of_bodySF (plainFor_of_name own_pn1) hisR ?_
  intro p e s m args below meth c_ s₁ Bd hml0 hP hK
  obtain ⟨rfl, hZ, hh⟩ := hP
  have hx := Bd.exec
  have hby := Bd.bytes
  have hml : c_.maxLocals = 2 := hml0
  have hown : s.vm.findClass "java/lang/String" = some m.cls := findClass_of_methodNamed Bd.named
  have hnm := (name_of_methodNamed Bd.named Bd.method).1
  have X0 : Stand p l e ({ frames := 4, cells := 0, slots := 0, locals := 53 } : Room) s m #[(.ref a), (.int (1 : Int32))] below meth c_ s₁ [] 0 0 := Stand.of_body Bd
  have e0 : s₁.heap = h0 := by rw [← hh, Bd.state]; rfl
  have N0 := Fr.nil n0
  have w3_ := hw _ (List.mem_of_getElem? (i := 3) rfl)
  have w20_ := hw _ (List.mem_of_getElem? (i := 20) rfl)
  have w39_ := hw _ (List.mem_of_getElem? (i := 39) rfl)
  have w56_ := hw _ (List.mem_of_getElem? (i := 56) rfl)
  have w57_ := hw _ (List.mem_of_getElem? (i := 57) rfl)
  have w58_ := hw _ (List.mem_of_getElem? (i := 58) rfl)
  have w59_ := hw _ (List.mem_of_getElem? (i := 59) rfl)
  have w60_ := hw _ (List.mem_of_getElem? (i := 60) rfl)
  have w92_ := hw _ (List.mem_of_getElem? (i := 92) rfl)
  have w93_ := hw _ (List.mem_of_getElem? (i := 93) rfl)
  have w94_ := hw _ (List.mem_of_getElem? (i := 94) rfl)
  show Go p e below (RetG s (Q_schar16_3_1 Z a b kb c0 c1 c2 fz cz h0 n0) 0 0) (s₁.setTop (entryFrame m #[(.ref a), (.int (1 : Int32))] 2))
  rw [show entryFrame m #[(.ref a), (.int (1 : Int32))] 2 = mkF m 0 #[.val (.ref a), .val (.int (1 : Int32))] [] from by first | (simp [entryFrame, mkF, argsToLocals, Value.category]; done) | rfl]
  refine g_aloadN X0 hx hby d11_0 rfl rfl ?_
  refine g_virtual X0 hx hby hZ hown (rm_islat16 l Z a0 hw [] a cz h0 n0 Z0 O2 P5 OLD C) w56_ w57_ (notFace_of_selects (args := #[]) (mvT hZ w59_)) w59_ w58_ w3_ w60_ (by decide) e0 E (by rw [hml]; rfl) [] (lenOf own_pd17 rfl) rfl rfl (Nat.le_of_ble_eq_true rfl) (Nat.le_of_ble_eq_true rfl) (Nat.le_of_ble_eq_true rfl) (Nat.le_of_ble_eq_true rfl) d11_1 (fun v1 T1 L1 X1 hQ1 => ?_)
  obtain ⟨rfl, N1q, eh1⟩ := hQ1
  have N1 := Fr.app N0 N1q
  refine g_ifY X1 hx hby 16 d11_4 (teq (by decide : (0 : Int32) = (0 : Int32))).1 (by decide) (by decide) ?_
  refine g_aloadN X1 hx hby d11_16 rfl rfl ?_
  refine g_getF X1 hx hby hZ hown (host := "") (Or.inl w20_) Via.refl eh1 VF d11_17 (fun T2 X2 e2 => ?_)
  refine g_iloadN X2 hx hby d11_20 rfl ?_
  refine g_static X2 hx hby hZ hown (rm_uchar_3_1 l Z a0 hw [] b kb c0 c1 c2 fz h0 n0 Z0 Uad Uhi Ulo VB OLD rfz O4 hr) w92_ w93_ w39_ w94_ (by decide) e2 (by rw [hml]; rfl) [(.ref b), (.int (1 : Int32))] (lenOf own_pd10 rfl) rfl rfl (Nat.le_of_ble_eq_true rfl) (Nat.le_of_ble_eq_true rfl) (Nat.le_of_ble_eq_true rfl) (Nat.le_of_ble_eq_true rfl) d11_21 (fun v3 T3 L3 X3 hQ3 => ?_)
  obtain ⟨rfl, N3q, eh3⟩ := hQ3
  have N3 := Fr.app N1 N3q
  refine g_nret X3 hx hby (t := .char) (by simp) Bd.returns Bd.notSynchronized d11_24 eh3 (by decide) (by decide) ?_
  show (Q_schar16_3_1 Z a b kb c0 c1 c2 fz cz h0 n0) (some (.int (nar .char c1))) _ _
  exact ⟨by rw [own_nc16 hr], N3, rfl⟩

def Q_getc_3_2 (Z : State) (b : Addr) (kb : ClassId) (v0 : Int32) (v1 : Int32) (v2 : Int32) (v3 : Int32) (v4 : Int32) (v5 : Int32) (h0 : Heap) (n0 : Nat) (v : Option Value) (h : Heap) (L : List Loc) : Prop := v = some (.int (nar .char (own_u16e v4 v5))) ∧ Fr n0 L ∧ h = h0
set_option maxRecDepth 65536 in
set_option maxHeartbeats 40000000 in
theorem rm_getc_3_2 (l : Launch) (Z : State) (a0 : Array Value) (hw : ∀ d ∈ tables_1, d.before a0 Z = true) (ws : List Jvm.Cond) (b : Addr) (kb : ClassId) (v0 : Int32) (v1 : Int32) (v2 : Int32) (v3 : Int32) (v4 : Int32) (v5 : Int32) (h0 : Heap) (n0 : Nat) (Z0 : n0 ≤ h0.size) (Uad : Sta Z Z.heap "java/lang/StringUTF16" "$assertionsDisabled" "Z" (.int (1 : Int32))) (Uhi : Sta Z Z.heap "java/lang/StringUTF16" "HI_BYTE_SHIFT" "I" (.int (0 : Int32))) (Ulo : Sta Z Z.heap "java/lang/StringUTF16" "LO_BYTE_SHIFT" "I" (.int (8 : Int32))) (OLD : Old Z n0 h0) (VB : Arv Z h0 b kb .byte (6 : Int32) [(.int v0), (.int v1), (.int v2), (.int v3), (.int v4), (.int v5)] (.int (0 : Int32))) :
    MetFree l (⟨"java/lang/StringUTF16", "getChar", "([BI)C"⟩ : MethodName) (head1 (Jvm.Cond.code (⟨"java/lang/StringUTF16", "getChar", "([BI)C"⟩ : MethodName) jdk_52_method_5_code 2 (some .char) :: ws) ({ frames := 0, cells := 0, slots := 0, locals := 0 } : Room)) (fun aa_ U => aa_ = #[(.ref b), (.int (2 : Int32))] ∧ Z.Warmed39 U.vm ∧ U.heap = h0) (fun _ _ _ _ _ => True) (fun _ U o_ U' => RetG U (Q_getc_3_2 Z b kb v0 v1 v2 v3 v4 v5 h0 n0) 0 0 U' o_) := by
  refine MetFree.of_bodySF (plainFor_of_name own_pn3) hisR ?_
  intro p e s m args below meth c_ s₁ Bd hml0 hP hK
  obtain ⟨rfl, hZ, hh⟩ := hP
  have hx := Bd.exec
  have hby := Bd.bytes
  have hml : c_.maxLocals = 2 := hml0
  have hown : s.vm.findClass "java/lang/StringUTF16" = some m.cls := findClass_of_methodNamed Bd.named
  have hnm := (name_of_methodNamed Bd.named Bd.method).1
  have X0 : Stand p l e ({ frames := 0, cells := 0, slots := 0, locals := 0 } : Room) s m #[(.ref b), (.int (2 : Int32))] below meth c_ s₁ [] 0 0 := Stand.of_body Bd
  have e0 : s₁.heap = h0 := by rw [← hh, Bd.state]; rfl
  have N0 := Fr.nil n0
  have w86_ := hw _ (List.mem_of_getElem? (i := 86) rfl)
  have w87_ := hw _ (List.mem_of_getElem? (i := 87) rfl)
  have w88_ := hw _ (List.mem_of_getElem? (i := 88) rfl)
  show Go p e below (RetG s (Q_getc_3_2 Z b kb v0 v1 v2 v3 v4 v5 h0 n0) 0 0) (s₁.setTop (entryFrame m #[(.ref b), (.int (2 : Int32))] 2))
  rw [show entryFrame m #[(.ref b), (.int (2 : Int32))] 2 = mkF m 0 #[.val (.ref b), .val (.int (2 : Int32))] [] from by first | (simp [entryFrame, mkF, argsToLocals, Value.category]; done) | rfl]
  refine g_getS X0 hx hby hZ hown (host := "") (Or.inl w86_) Via.refl e0 (Uad.ext OLD.2) d20_0 (fun T1 X1 e1 => ?_)
  refine g_ifY X1 hx hby 28 d20_3 (feq (by decide : ¬ ((1 : Int32) = (0 : Int32)))).2 (by decide) (by decide) ?_
  refine g_iloadN X1 hx hby d20_28 rfl ?_
  refine g_iconst X1 hx hby (1 : Int32) d20_29 rfl ?_
  refine g_ishl X1 hx hby d20_30 ?_
  refine g_topI (4 : Int32) (by decide) ?_
  refine g_istoreN X1 hx hby d20_31 (l' := #[.val (.ref b), .val (.int (4 : Int32))]) rfl ?_
  refine g_aloadN X1 hx hby d20_32 rfl rfl ?_
  refine g_iloadN X1 hx hby d20_33 rfl ?_
  refine g_iinc X1 hx hby (5 : Int32) d20_34 rfl (by decide) (l' := #[.val (.ref b), .val (.int (5 : Int32))]) rfl ?_
  refine g_baload X1 hx hby hZ e1 VB (.int v4) ⟨by decide, by decide⟩ rfl d20_37 ?_
  refine g_sipush X1 hx hby (255 : Int32) d20_38 rfl ?_
  refine g_iand X1 hx hby d20_41 ?_
  refine g_getS X1 hx hby hZ hown (host := "") (Or.inl w87_) Via.refl e1 (Uhi.ext OLD.2) d20_42 (fun T2 X2 e2 => ?_)
  refine g_ishl X2 hx hby d20_45 ?_
  refine g_aloadN X2 hx hby d20_46 rfl rfl ?_
  refine g_iloadN X2 hx hby d20_47 rfl ?_
  refine g_baload X2 hx hby hZ e2 VB (.int v5) ⟨by decide, by decide⟩ rfl d20_48 ?_
  refine g_sipush X2 hx hby (255 : Int32) d20_49 rfl ?_
  refine g_iand X2 hx hby d20_52 ?_
  refine g_getS X2 hx hby hZ hown (host := "") (Or.inl w88_) Via.refl e2 (Ulo.ext OLD.2) d20_53 (fun T3 X3 e3 => ?_)
  refine g_ishl X3 hx hby d20_56 ?_
  refine g_ior X3 hx hby d20_57 ?_
  refine g_i2c X3 hx hby d20_58 ?_
  refine g_nret X3 hx hby (t := .char) (by simp) Bd.returns Bd.notSynchronized d20_59 e3 (by decide) (by decide) ?_
  show (Q_getc_3_2 Z b kb v0 v1 v2 v3 v4 v5 h0 n0) (some (.int (nar .char ((((v4 &&& (255 : Int32)) <<< ((0 : Int32) &&& 31)) ||| ((v5 &&& (255 : Int32)) <<< ((8 : Int32) &&& 31))).toUInt32.toUInt16.toUInt32.toInt32)))) _ _
  exact ⟨rfl, N0, rfl⟩

def Q_uchk_3_2 (Z : State) (b : Addr) (kb : ClassId) (c0 : Int32) (c1 : Int32) (c2 : Int32) (fz : Value) (h0 : Heap) (n0 : Nat) (v : Option Value) (h : Heap) (L : List Loc) : Prop := v = none ∧ Fr n0 L ∧ h = h0
set_option maxRecDepth 65536 in
set_option maxHeartbeats 40000000 in
theorem rm_uchk_3_2 (l : Launch) (Z : State) (a0 : Array Value) (hw : ∀ d ∈ tables_1, d.before a0 Z = true) (ws : List Jvm.Cond) (b : Addr) (kb : ClassId) (c0 : Int32) (c1 : Int32) (c2 : Int32) (fz : Value) (h0 : Heap) (n0 : Nat) (Z0 : n0 ≤ h0.size) (VB : Arv Z h0 b kb .byte (6 : Int32) [(.int (own_lob c0)), (.int (own_hib c0)), (.int (own_lob c1)), (.int (own_hib c1)), (.int (own_lob c2)), (.int (own_hib c2))] (.int (0 : Int32))) (OLD : Old Z n0 h0) (rfz : Rf fz) (O4 : Sta Z Z.heap "jdk/internal/util/Preconditions" "SIOOBE_FORMATTER" "Ljava/util/function/BiFunction;" fz) :
    MetFree l (⟨"java/lang/StringUTF16", "checkIndex", "(I[B)V"⟩ : MethodName) (head1 (Jvm.Cond.code (⟨"java/lang/StringUTF16", "checkIndex", "(I[B)V"⟩ : MethodName) jdk_52_method_91_code 2 none :: ws) ({ frames := 2, cells := 0, slots := 0, locals := 27 } : Room)) (fun aa_ U => aa_ = #[(.int (2 : Int32)), (.ref b)] ∧ Z.Warmed39 U.vm ∧ U.heap = h0) (fun _ _ _ _ _ => True) (fun _ U o_ U' => RetG U (Q_uchk_3_2 Z b kb c0 c1 c2 fz h0 n0) 0 0 U' o_) := by
  refine MetFree.of_bodySF (plainFor_of_name own_pn3) hisR ?_
  intro p e s m args below meth c_ s₁ Bd hml0 hP hK
  obtain ⟨rfl, hZ, hh⟩ := hP
  have hx := Bd.exec
  have hby := Bd.bytes
  have hml : c_.maxLocals = 2 := hml0
  have hown : s.vm.findClass "java/lang/StringUTF16" = some m.cls := findClass_of_methodNamed Bd.named
  have hnm := (name_of_methodNamed Bd.named Bd.method).1
  have X0 : Stand p l e ({ frames := 2, cells := 0, slots := 0, locals := 27 } : Room) s m #[(.int (2 : Int32)), (.ref b)] below meth c_ s₁ [] 0 0 := Stand.of_body Bd
  have e0 : s₁.heap = h0 := by rw [← hh, Bd.state]; rfl
  have N0 := Fr.nil n0
  have w3_ := hw _ (List.mem_of_getElem? (i := 3) rfl)
  have w39_ := hw _ (List.mem_of_getElem? (i := 39) rfl)
  have w66_ := hw _ (List.mem_of_getElem? (i := 66) rfl)
  have w67_ := hw _ (List.mem_of_getElem? (i := 67) rfl)
  have w98_ := hw _ (List.mem_of_getElem? (i := 98) rfl)
  have w99_ := hw _ (List.mem_of_getElem? (i := 99) rfl)
  have w100_ := hw _ (List.mem_of_getElem? (i := 100) rfl)
  have w101_ := hw _ (List.mem_of_getElem? (i := 101) rfl)
  show Go p e below (RetG s (Q_uchk_3_2 Z b kb c0 c1 c2 fz h0 n0) 0 0) (s₁.setTop (entryFrame m #[(.int (2 : Int32)), (.ref b)] 2))
  rw [show entryFrame m #[(.int (2 : Int32)), (.ref b)] 2 = mkF m 0 #[.val (.int (2 : Int32)), .val (.ref b)] [] from by first | (simp [entryFrame, mkF, argsToLocals, Value.category]; done) | rfl]
  refine g_iloadN X0 hx hby d22_0 rfl ?_
  refine g_aloadN X0 hx hby d22_1 rfl rfl ?_
  refine g_static X0 hx hby hZ hown (rm_ulen_3 l Z a0 hw [] b kb c0 c1 c2 h0 n0 Z0 VB) w98_ w99_ w39_ w100_ (by decide) e0 (by rw [hml]; rfl) [(.ref b)] (lenOf own_pd14 rfl) rfl rfl (Nat.le_of_ble_eq_true rfl) (Nat.le_of_ble_eq_true rfl) (Nat.le_of_ble_eq_true rfl) (Nat.le_of_ble_eq_true rfl) d22_2 (fun v1 T1 L1 X1 hQ1 => ?_)
  obtain ⟨rfl, N1q, eh1⟩ := hQ1
  have N1 := Fr.app N0 N1q
  refine g_static X1 hx hby hZ hown (rm_schk l Z a0 hw [] (2 : Int32) (3 : Int32) fz h0 n0 Z0 ⟨by decide, by decide⟩ rfz O4 OLD) w101_ w66_ w3_ w67_ (by decide) eh1 (by rw [hml]; rfl) [(.int (2 : Int32)), (.int (3 : Int32))] (lenOf own_pd15 rfl) rfl rfl (Nat.le_of_ble_eq_true rfl) (Nat.le_of_ble_eq_true rfl) (Nat.le_of_ble_eq_true rfl) (Nat.le_of_ble_eq_true rfl) d22_5 (fun v2 T2 L2 X2 hQ2 => ?_)
  obtain ⟨rfl, N2q, eh2⟩ := hQ2
  have N2 := Fr.app N1 N2q
  refine g_ret X2 hx hby Bd.returns Bd.notSynchronized d22_8 eh2 (by decide) (by decide) ?_
  show (Q_uchk_3_2 Z b kb c0 c1 c2 fz h0 n0) none _ _
  exact ⟨rfl, N2, rfl⟩

def Q_uchar_3_2 (Z : State) (b : Addr) (kb : ClassId) (c0 : Int32) (c1 : Int32) (c2 : Int32) (fz : Value) (h0 : Heap) (n0 : Nat) (v : Option Value) (h : Heap) (L : List Loc) : Prop := v = some (.int c2) ∧ Fr n0 L ∧ h = h0
set_option maxRecDepth 65536 in
set_option maxHeartbeats 40000000 in
theorem rm_uchar_3_2 (l : Launch) (Z : State) (a0 : Array Value) (hw : ∀ d ∈ tables_1, d.before a0 Z = true) (ws : List Jvm.Cond) (b : Addr) (kb : ClassId) (c0 : Int32) (c1 : Int32) (c2 : Int32) (fz : Value) (h0 : Heap) (n0 : Nat) (Z0 : n0 ≤ h0.size) (Uad : Sta Z Z.heap "java/lang/StringUTF16" "$assertionsDisabled" "Z" (.int (1 : Int32))) (Uhi : Sta Z Z.heap "java/lang/StringUTF16" "HI_BYTE_SHIFT" "I" (.int (0 : Int32))) (Ulo : Sta Z Z.heap "java/lang/StringUTF16" "LO_BYTE_SHIFT" "I" (.int (8 : Int32))) (VB : Arv Z h0 b kb .byte (6 : Int32) [(.int (own_lob c0)), (.int (own_hib c0)), (.int (own_lob c1)), (.int (own_hib c1)), (.int (own_lob c2)), (.int (own_hib c2))] (.int (0 : Int32))) (OLD : Old Z n0 h0) (rfz : Rf fz) (O4 : Sta Z Z.heap "jdk/internal/util/Preconditions" "SIOOBE_FORMATTER" "Ljava/util/function/BiFunction;" fz) (hr : 0 ≤ c2.toInt ∧ c2.toInt < 65536) :
    MetFree l (⟨"java/lang/StringUTF16", "charAt", "([BI)C"⟩ : MethodName) (head1 (Jvm.Cond.code (⟨"java/lang/StringUTF16", "charAt", "([BI)C"⟩ : MethodName) jdk_52_method_83_code 2 (some .char) :: ws) ({ frames := 3, cells := 0, slots := 0, locals := 40 } : Room)) (fun aa_ U => aa_ = #[(.ref b), (.int (2 : Int32))] ∧ Z.Warmed39 U.vm ∧ U.heap = h0) (fun _ _ _ _ _ => True) (fun _ U o_ U' => RetG U (Q_uchar_3_2 Z b kb c0 c1 c2 fz h0 n0) 0 0 U' o_) := by
  refine MetFree.of_bodySF (plainFor_of_name own_pn3) hisR ?_
  intro p e s m args below meth c_ s₁ Bd hml0 hP hK
  obtain ⟨rfl, hZ, hh⟩ := hP
  have hx := Bd.exec
  have hby := Bd.bytes
  have hml : c_.maxLocals = 2 := hml0
  have hown : s.vm.findClass "java/lang/StringUTF16" = some m.cls := findClass_of_methodNamed Bd.named
  have hnm := (name_of_methodNamed Bd.named Bd.method).1
  have X0 : Stand p l e ({ frames := 3, cells := 0, slots := 0, locals := 40 } : Room) s m #[(.ref b), (.int (2 : Int32))] below meth c_ s₁ [] 0 0 := Stand.of_body Bd
  have e0 : s₁.heap = h0 := by rw [← hh, Bd.state]; rfl
  have N0 := Fr.nil n0
  have w39_ := hw _ (List.mem_of_getElem? (i := 39) rfl)
  have w89_ := hw _ (List.mem_of_getElem? (i := 89) rfl)
  have w90_ := hw _ (List.mem_of_getElem? (i := 90) rfl)
  have w91_ := hw _ (List.mem_of_getElem? (i := 91) rfl)
  have w95_ := hw _ (List.mem_of_getElem? (i := 95) rfl)
  have w96_ := hw _ (List.mem_of_getElem? (i := 96) rfl)
  have w97_ := hw _ (List.mem_of_getElem? (i := 97) rfl)
  show Go p e below (RetG s (Q_uchar_3_2 Z b kb c0 c1 c2 fz h0 n0) 0 0) (s₁.setTop (entryFrame m #[(.ref b), (.int (2 : Int32))] 2))
  rw [show entryFrame m #[(.ref b), (.int (2 : Int32))] 2 = mkF m 0 #[.val (.ref b), .val (.int (2 : Int32))] [] from by first | (simp [entryFrame, mkF, argsToLocals, Value.category]; done) | rfl]
  refine g_iloadN X0 hx hby d21_0 rfl ?_
  refine g_aloadN X0 hx hby d21_1 rfl rfl ?_
  refine g_static X0 hx hby hZ hown (rm_uchk_3_2 l Z a0 hw [] b kb c0 c1 c2 fz h0 n0 Z0 VB OLD rfz O4) w95_ w96_ w39_ w97_ (by decide) e0 (by rw [hml]; rfl) [(.int (2 : Int32)), (.ref b)] (lenOf own_pd16 rfl) rfl rfl (Nat.le_of_ble_eq_true rfl) (Nat.le_of_ble_eq_true rfl) (Nat.le_of_ble_eq_true rfl) (Nat.le_of_ble_eq_true rfl) d21_2 (fun v1 T1 L1 X1 hQ1 => ?_)
  obtain ⟨rfl, N1q, eh1⟩ := hQ1
  have N1 := Fr.app N0 N1q
  refine g_aloadN X1 hx hby d21_5 rfl rfl ?_
  refine g_iloadN X1 hx hby d21_6 rfl ?_
  refine g_static X1 hx hby hZ hown (rm_getc_3_2 l Z a0 hw [] b kb (own_lob c0) (own_hib c0) (own_lob c1) (own_hib c1) (own_lob c2) (own_hib c2) h0 n0 Z0 Uad Uhi Ulo OLD VB) w89_ w90_ w39_ w91_ (by decide) eh1 (by rw [hml]; rfl) [(.ref b), (.int (2 : Int32))] (lenOf own_pd10 rfl) rfl rfl (Nat.le_of_ble_eq_true rfl) (Nat.le_of_ble_eq_true rfl) (Nat.le_of_ble_eq_true rfl) (Nat.le_of_ble_eq_true rfl) d21_7 (fun v2 T2 L2 X2 hQ2 => ?_)
  obtain ⟨rfl, N2q, eh2⟩ := hQ2
  have N2 := Fr.app N1 N2q
  refine g_topI (T := T2) c2 (own_u16 hr) ?_
  refine g_nret X2 hx hby (t := .char) (by simp) Bd.returns Bd.notSynchronized d21_10 eh2 (by decide) (by decide) ?_
  show (Q_uchar_3_2 Z b kb c0 c1 c2 fz h0 n0) (some (.int (nar .char c2))) _ _
  exact ⟨by rw [own_nc16 hr], N2, rfl⟩

def Q_schar16_3_2 (Z : State) (a : Addr) (b : Addr) (kb : ClassId) (c0 : Int32) (c1 : Int32) (c2 : Int32) (fz : Value) (cz : Int32) (h0 : Heap) (n0 : Nat) (v : Option Value) (h : Heap) (L : List Loc) : Prop := v = some (.int c2) ∧ Fr n0 L ∧ h = h0
set_option maxRecDepth 65536 in
set_option maxHeartbeats 40000000 in
theorem rm_schar16_3_2 (l : Launch) (Z : State) (a0 : Array Value) (hw : ∀ d ∈ tables_1, d.before a0 Z = true) (ws : List Jvm.Cond) (a : Addr) (b : Addr) (kb : ClassId) (c0 : Int32) (c1 : Int32) (c2 : Int32) (fz : Value) (cz : Int32) (h0 : Heap) (n0 : Nat) (Z0 : n0 ≤ h0.size) (O2 : Sta Z Z.heap "java/lang/String" "COMPACT_STRINGS" "Z" (.int cz)) (P5 : ¬ cz = (0 : Int32)) (OLD : Old Z n0 h0) (Uad : Sta Z Z.heap "java/lang/StringUTF16" "$assertionsDisabled" "Z" (.int (1 : Int32))) (Uhi : Sta Z Z.heap "java/lang/StringUTF16" "HI_BYTE_SHIFT" "I" (.int (0 : Int32))) (Ulo : Sta Z Z.heap "java/lang/StringUTF16" "LO_BYTE_SHIFT" "I" (.int (8 : Int32))) (E : Exa Z h0 a "java/lang/String") (C : Fld Z h0 a "java/lang/String" "coder" "B" (.int (1 : Int32))) (VF : Fld Z h0 a "java/lang/String" "value" "[B" (.ref b)) (VB : Arv Z h0 b kb .byte (6 : Int32) [(.int (own_lob c0)), (.int (own_hib c0)), (.int (own_lob c1)), (.int (own_hib c1)), (.int (own_lob c2)), (.int (own_hib c2))] (.int (0 : Int32))) (rfz : Rf fz) (O4 : Sta Z Z.heap "jdk/internal/util/Preconditions" "SIOOBE_FORMATTER" "Ljava/util/function/BiFunction;" fz) (hr : 0 ≤ c2.toInt ∧ c2.toInt < 65536) :
    MetFree l (⟨"java/lang/String", "charAt", "(I)C"⟩ : MethodName) (head1 (Jvm.Cond.code (⟨"java/lang/String", "charAt", "(I)C"⟩ : MethodName) jdk_42_method_56_code 2 (some .char) :: ws) ({ frames := 4, cells := 0, slots := 0, locals := 53 } : Room)) (fun aa_ U => aa_ = #[(.ref a), (.int (2 : Int32))] ∧ Z.Warmed39 U.vm ∧ U.heap = h0) (fun _ _ _ _ _ => True) (fun _ U o_ U' => RetG U (Q_schar16_3_2 Z a b kb c0 c1 c2 fz cz h0 n0) 0 0 U' o_) := by
  refine MetFree.of_bodySF (plainFor_of_name own_pn1) hisR ?_
  intro p e s m args below meth c_ s₁ Bd hml0 hP hK
  obtain ⟨rfl, hZ, hh⟩ := hP
  have hx := Bd.exec
  have hby := Bd.bytes
  have hml : c_.maxLocals = 2 := hml0
  have hown : s.vm.findClass "java/lang/String" = some m.cls := findClass_of_methodNamed Bd.named
  have hnm := (name_of_methodNamed Bd.named Bd.method).1
  have X0 : Stand p l e ({ frames := 4, cells := 0, slots := 0, locals := 53 } : Room) s m #[(.ref a), (.int (2 : Int32))] below meth c_ s₁ [] 0 0 := Stand.of_body Bd
  have e0 : s₁.heap = h0 := by rw [← hh, Bd.state]; rfl
  have N0 := Fr.nil n0
  have w3_ := hw _ (List.mem_of_getElem? (i := 3) rfl)
  have w20_ := hw _ (List.mem_of_getElem? (i := 20) rfl)
  have w39_ := hw _ (List.mem_of_getElem? (i := 39) rfl)
  have w56_ := hw _ (List.mem_of_getElem? (i := 56) rfl)
  have w57_ := hw _ (List.mem_of_getElem? (i := 57) rfl)
  have w58_ := hw _ (List.mem_of_getElem? (i := 58) rfl)
  have w59_ := hw _ (List.mem_of_getElem? (i := 59) rfl)
  have w60_ := hw _ (List.mem_of_getElem? (i := 60) rfl)
  have w92_ := hw _ (List.mem_of_getElem? (i := 92) rfl)
  have w93_ := hw _ (List.mem_of_getElem? (i := 93) rfl)
  have w94_ := hw _ (List.mem_of_getElem? (i := 94) rfl)
  show Go p e below (RetG s (Q_schar16_3_2 Z a b kb c0 c1 c2 fz cz h0 n0) 0 0) (s₁.setTop (entryFrame m #[(.ref a), (.int (2 : Int32))] 2))
  rw [show entryFrame m #[(.ref a), (.int (2 : Int32))] 2 = mkF m 0 #[.val (.ref a), .val (.int (2 : Int32))] [] from by first | (simp [entryFrame, mkF, argsToLocals, Value.category]; done) | rfl]
  refine g_aloadN X0 hx hby d11_0 rfl rfl ?_
  refine g_virtual X0 hx hby hZ hown (rm_islat16 l Z a0 hw [] a cz h0 n0 Z0 O2 P5 OLD C) w56_ w57_ (notFace_of_selects (args := #[]) (mvT hZ w59_)) w59_ w58_ w3_ w60_ (by decide) e0 E (by rw [hml]; rfl) [] (lenOf own_pd17 rfl) rfl rfl (Nat.le_of_ble_eq_true rfl) (Nat.le_of_ble_eq_true rfl) (Nat.le_of_ble_eq_true rfl) (Nat.le_of_ble_eq_true rfl) d11_1 (fun v1 T1 L1 X1 hQ1 => ?_)
  obtain ⟨rfl, N1q, eh1⟩ := hQ1
  have N1 := Fr.app N0 N1q
  refine g_ifY X1 hx hby 16 d11_4 (teq (by decide : (0 : Int32) = (0 : Int32))).1 (by decide) (by decide) ?_
  refine g_aloadN X1 hx hby d11_16 rfl rfl ?_
  refine g_getF X1 hx hby hZ hown (host := "") (Or.inl w20_) Via.refl eh1 VF d11_17 (fun T2 X2 e2 => ?_)
  refine g_iloadN X2 hx hby d11_20 rfl ?_
  refine g_static X2 hx hby hZ hown (rm_uchar_3_2 l Z a0 hw [] b kb c0 c1 c2 fz h0 n0 Z0 Uad Uhi Ulo VB OLD rfz O4 hr) w92_ w93_ w39_ w94_ (by decide) e2 (by rw [hml]; rfl) [(.ref b), (.int (2 : Int32))] (lenOf own_pd10 rfl) rfl rfl (Nat.le_of_ble_eq_true rfl) (Nat.le_of_ble_eq_true rfl) (Nat.le_of_ble_eq_true rfl) (Nat.le_of_ble_eq_true rfl) d11_21 (fun v3 T3 L3 X3 hQ3 => ?_)
  obtain ⟨rfl, N3q, eh3⟩ := hQ3
  have N3 := Fr.app N1 N3q
  refine g_nret X3 hx hby (t := .char) (by simp) Bd.returns Bd.notSynchronized d11_24 eh3 (by decide) (by decide) ?_
  show (Q_schar16_3_2 Z a b kb c0 c1 c2 fz cz h0 n0) (some (.int (nar .char c2))) _ _
  exact ⟨by rw [own_nc16 hr], N3, rfl⟩

def Q_fv_3u (Z : State) (a : Addr) (b : Addr) (kb : ClassId) (c0 : Int32) (c1 : Int32) (c2 : Int32) (cz : Int32) (fz : Value) (h0 : Heap) (n0 : Nat) (v : Option Value) (h : Heap) (L : List Loc) : Prop := v = some (.int (own_fvs [c0, c1, c2])) ∧ Fr n0 L ∧ h = h0
set_option maxRecDepth 65536 in
set_option maxHeartbeats 40000000 in
theorem rm_fv_3u (l : Launch) (Z : State) (a0 : Array Value) (hw : ∀ d ∈ tables_1, d.before a0 Z = true) (ws : List Jvm.Cond) (a : Addr) (b : Addr) (kb : ClassId) (c0 : Int32) (c1 : Int32) (c2 : Int32) (cz : Int32) (fz : Value) (h0 : Heap) (n0 : Nat) (Z0 : n0 ≤ h0.size) (O2 : Sta Z Z.heap "java/lang/String" "COMPACT_STRINGS" "Z" (.int cz)) (P5 : ¬ cz = (0 : Int32)) (OLD : Old Z n0 h0) (Uad : Sta Z Z.heap "java/lang/StringUTF16" "$assertionsDisabled" "Z" (.int (1 : Int32))) (Uhi : Sta Z Z.heap "java/lang/StringUTF16" "HI_BYTE_SHIFT" "I" (.int (0 : Int32))) (Ulo : Sta Z Z.heap "java/lang/StringUTF16" "LO_BYTE_SHIFT" "I" (.int (8 : Int32))) (E : Exa Z h0 a "java/lang/String") (C : Fld Z h0 a "java/lang/String" "coder" "B" (.int (1 : Int32))) (VF : Fld Z h0 a "java/lang/String" "value" "[B" (.ref b)) (VB : Arv Z h0 b kb .byte (6 : Int32) [(.int (own_lob c0)), (.int (own_hib c0)), (.int (own_lob c1)), (.int (own_hib c1)), (.int (own_lob c2)), (.int (own_hib c2))] (.int (0 : Int32))) (rfz : Rf fz) (O4 : Sta Z Z.heap "jdk/internal/util/Preconditions" "SIOOBE_FORMATTER" "Ljava/util/function/BiFunction;" fz) (hr0 : 0 ≤ c0.toInt ∧ c0.toInt < 65536) (hr1 : 0 ≤ c1.toInt ∧ c1.toInt < 65536) (hr2 : 0 ≤ c2.toInt ∧ c2.toInt < 65536) :
    MetFree l (⟨"com/example/usher/usher/gateway/http/Http1Input", "isFieldValue", "(Ljava/lang/String;)Z"⟩ : MethodName) (head1 (Jvm.Cond.code (⟨"com/example/usher/usher/gateway/http/Http1Input", "isFieldValue", "(Ljava/lang/String;)Z"⟩ : MethodName) prog_2_method_17_code 3 (some .boolean) :: ws) ({ frames := 5, cells := 0, slots := 0, locals := 66 } : Room)) (fun aa_ U => aa_ = #[(.ref a)] ∧ Z.Warmed39 U.vm ∧ U.heap = h0) (fun _ _ _ _ _ => True) (fun _ U o_ U' => RetG U (Q_fv_3u Z a b kb c0 c1 c2 cz fz h0 n0) 0 0 U' o_) := by
  refine MetFree.of_bodySF (plainFor_of_name own_pn2) hisR ?_
  intro p e s m args below meth c_ s₁ Bd hml0 hP hK
  obtain ⟨rfl, hZ, hh⟩ := hP
  have hx := Bd.exec
  have hby := Bd.bytes
  have hml : c_.maxLocals = 3 := hml0
  have hown : s.vm.findClass "com/example/usher/usher/gateway/http/Http1Input" = some m.cls := findClass_of_methodNamed Bd.named
  have hnm := (name_of_methodNamed Bd.named Bd.method).1
  have X0 : Stand p l e ({ frames := 5, cells := 0, slots := 0, locals := 66 } : Room) s m #[(.ref a)] below meth c_ s₁ [] 0 0 := Stand.of_body Bd
  have e0 : s₁.heap = h0 := by rw [← hh, Bd.state]; rfl
  have N0 := Fr.nil n0
  have w3_ := hw _ (List.mem_of_getElem? (i := 3) rfl)
  have w26_ := hw _ (List.mem_of_getElem? (i := 26) rfl)
  have w27_ := hw _ (List.mem_of_getElem? (i := 27) rfl)
  have w28_ := hw _ (List.mem_of_getElem? (i := 28) rfl)
  have w29_ := hw _ (List.mem_of_getElem? (i := 29) rfl)
  have w30_ := hw _ (List.mem_of_getElem? (i := 30) rfl)
  have w51_ := hw _ (List.mem_of_getElem? (i := 51) rfl)
  have w52_ := hw _ (List.mem_of_getElem? (i := 52) rfl)
  have w53_ := hw _ (List.mem_of_getElem? (i := 53) rfl)
  have w54_ := hw _ (List.mem_of_getElem? (i := 54) rfl)
  have w55_ := hw _ (List.mem_of_getElem? (i := 55) rfl)
  show Go p e below (RetG s (Q_fv_3u Z a b kb c0 c1 c2 cz fz h0 n0) 0 0) (s₁.setTop (entryFrame m #[(.ref a)] 3))
  rw [show entryFrame m #[(.ref a)] 3 = mkF m 0 #[.val (.ref a), .unset, .unset] [] from by first | (simp [entryFrame, mkF, argsToLocals, Value.category]; done) | rfl]
  refine g_iconst X0 hx hby (0 : Int32) d4_0 rfl ?_
  refine g_istoreN X0 hx hby d4_1 (l' := #[.val (.ref a), .val (.int (0 : Int32)), .unset]) rfl ?_
  refine g_iloadN X0 hx hby d4_2 rfl ?_
  refine g_aloadN X0 hx hby d4_3 rfl rfl ?_
  refine g_virtual X0 hx hby hZ hown (rm_slen16_3 l Z a0 hw [] a b kb c0 c1 c2 cz h0 n0 Z0 O2 P5 OLD Uad Uhi Ulo E C VF VB) w26_ w27_ (notFace_of_selects (args := #[]) (mvT hZ w29_)) w29_ w28_ w3_ w30_ (by decide) e0 E (by rw [hml]; rfl) [] (lenOf own_pd3 rfl) rfl rfl (Nat.le_of_ble_eq_true rfl) (Nat.le_of_ble_eq_true rfl) (Nat.le_of_ble_eq_true rfl) (Nat.le_of_ble_eq_true rfl) d4_4 (fun v1 T1 L1 X1 hQ1 => ?_)
  obtain ⟨rfl, N1q, eh1⟩ := hQ1
  have N1 := Fr.app N0 N1q
  refine g_icN X1 hx hby d4_7 (tlt (by decide : (0 : Int32) < (3 : Int32))).2.1 ?_
  refine g_aloadN X1 hx hby d4_10 rfl rfl ?_
  refine g_iloadN X1 hx hby d4_11 rfl ?_
  refine g_virtual X1 hx hby hZ hown (rm_schar16_3_0 l Z a0 hw [] a b kb c0 c1 c2 fz cz h0 n0 Z0 O2 P5 OLD Uad Uhi Ulo E C VF VB rfz O4 hr0) w51_ w52_ (notFace_of_selects (args := #[]) (mvT hZ w54_)) w54_ w53_ w3_ w55_ (by decide) eh1 E (by rw [hml]; rfl) [(.int (0 : Int32))] (lenOf own_pd18 rfl) rfl rfl (Nat.le_of_ble_eq_true rfl) (Nat.le_of_ble_eq_true rfl) (Nat.le_of_ble_eq_true rfl) (Nat.le_of_ble_eq_true rfl) d4_12 (fun v2 T2 L2 X2 hQ2 => ?_)
  obtain ⟨rfl, N2q, eh2⟩ := hQ2
  have N2 := Fr.app N1 N2q
  refine g_istoreN X2 hx hby d4_15 (l' := #[.val (.ref a), .val (.int (0 : Int32)), .val (.int c0)]) rfl ?_
  have J3 : ∀ (T3 : State) (L3 : List Loc), Stand p l e ({ frames := 5, cells := 0, slots := 0, locals := 66 } : Room) s m #[(.ref a)] below meth c_ T3 L3 0 0 → T3.heap = h0 → Fr n0 L3 → (own_fv c0 = (1 : Int32)) → Go p e below (RetG s (Q_fv_3u Z a b kb c0 c1 c2 cz fz h0 n0) 0 0) (T3.setTop (mkF m 43 #[.val (.ref a), .val (.int (0 : Int32)), .val (.int c0)] [])) := by
    intro T3 L3 X3 e3 N3 hp_c0
    refine g_iinc X3 hx hby (1 : Int32) d4_43 rfl (by decide) (l' := #[.val (.ref a), .val (.int (1 : Int32)), .val (.int c0)]) rfl ?_
    refine g_goto X3 hx hby 2 d4_46 (by decide) (by decide) ?_
    refine g_iloadN X3 hx hby d4_2 rfl ?_
    refine g_aloadN X3 hx hby d4_3 rfl rfl ?_
    refine g_virtual X3 hx hby hZ hown (rm_slen16_3 l Z a0 hw [] a b kb c0 c1 c2 cz h0 n0 Z0 O2 P5 OLD Uad Uhi Ulo E C VF VB) w26_ w27_ (notFace_of_selects (args := #[]) (mvT hZ w29_)) w29_ w28_ w3_ w30_ (by decide) e3 E (by rw [hml]; rfl) [] (lenOf own_pd3 rfl) rfl rfl (Nat.le_of_ble_eq_true rfl) (Nat.le_of_ble_eq_true rfl) (Nat.le_of_ble_eq_true rfl) (Nat.le_of_ble_eq_true rfl) d4_4 (fun v4 T4 L4 X4 hQ4 => ?_)
    obtain ⟨rfl, N4q, eh4⟩ := hQ4
    have N4 := Fr.app N3 N4q
    refine g_icN X4 hx hby d4_7 (tlt (by decide : (1 : Int32) < (3 : Int32))).2.1 ?_
    refine g_aloadN X4 hx hby d4_10 rfl rfl ?_
    refine g_iloadN X4 hx hby d4_11 rfl ?_
    refine g_virtual X4 hx hby hZ hown (rm_schar16_3_1 l Z a0 hw [] a b kb c0 c1 c2 fz cz h0 n0 Z0 O2 P5 OLD Uad Uhi Ulo E C VF VB rfz O4 hr1) w51_ w52_ (notFace_of_selects (args := #[]) (mvT hZ w54_)) w54_ w53_ w3_ w55_ (by decide) eh4 E (by rw [hml]; rfl) [(.int (1 : Int32))] (lenOf own_pd18 rfl) rfl rfl (Nat.le_of_ble_eq_true rfl) (Nat.le_of_ble_eq_true rfl) (Nat.le_of_ble_eq_true rfl) (Nat.le_of_ble_eq_true rfl) d4_12 (fun v5 T5 L5 X5 hQ5 => ?_)
    obtain ⟨rfl, N5q, eh5⟩ := hQ5
    have N5 := Fr.app N4 N5q
    refine g_istoreN X5 hx hby d4_15 (l' := #[.val (.ref a), .val (.int (1 : Int32)), .val (.int c1)]) rfl ?_
    have J6 : ∀ (T6 : State) (L6 : List Loc), Stand p l e ({ frames := 5, cells := 0, slots := 0, locals := 66 } : Room) s m #[(.ref a)] below meth c_ T6 L6 0 0 → T6.heap = h0 → Fr n0 L6 → (own_fv c1 = (1 : Int32)) → Go p e below (RetG s (Q_fv_3u Z a b kb c0 c1 c2 cz fz h0 n0) 0 0) (T6.setTop (mkF m 43 #[.val (.ref a), .val (.int (1 : Int32)), .val (.int c1)] [])) := by
      intro T6 L6 X6 e6 N6 hp_c1
      refine g_iinc X6 hx hby (2 : Int32) d4_43 rfl (by decide) (l' := #[.val (.ref a), .val (.int (2 : Int32)), .val (.int c1)]) rfl ?_
      refine g_goto X6 hx hby 2 d4_46 (by decide) (by decide) ?_
      refine g_iloadN X6 hx hby d4_2 rfl ?_
      refine g_aloadN X6 hx hby d4_3 rfl rfl ?_
      refine g_virtual X6 hx hby hZ hown (rm_slen16_3 l Z a0 hw [] a b kb c0 c1 c2 cz h0 n0 Z0 O2 P5 OLD Uad Uhi Ulo E C VF VB) w26_ w27_ (notFace_of_selects (args := #[]) (mvT hZ w29_)) w29_ w28_ w3_ w30_ (by decide) e6 E (by rw [hml]; rfl) [] (lenOf own_pd3 rfl) rfl rfl (Nat.le_of_ble_eq_true rfl) (Nat.le_of_ble_eq_true rfl) (Nat.le_of_ble_eq_true rfl) (Nat.le_of_ble_eq_true rfl) d4_4 (fun v7 T7 L7 X7 hQ7 => ?_)
      obtain ⟨rfl, N7q, eh7⟩ := hQ7
      have N7 := Fr.app N6 N7q
      refine g_icN X7 hx hby d4_7 (tlt (by decide : (2 : Int32) < (3 : Int32))).2.1 ?_
      refine g_aloadN X7 hx hby d4_10 rfl rfl ?_
      refine g_iloadN X7 hx hby d4_11 rfl ?_
      refine g_virtual X7 hx hby hZ hown (rm_schar16_3_2 l Z a0 hw [] a b kb c0 c1 c2 fz cz h0 n0 Z0 O2 P5 OLD Uad Uhi Ulo E C VF VB rfz O4 hr2) w51_ w52_ (notFace_of_selects (args := #[]) (mvT hZ w54_)) w54_ w53_ w3_ w55_ (by decide) eh7 E (by rw [hml]; rfl) [(.int (2 : Int32))] (lenOf own_pd18 rfl) rfl rfl (Nat.le_of_ble_eq_true rfl) (Nat.le_of_ble_eq_true rfl) (Nat.le_of_ble_eq_true rfl) (Nat.le_of_ble_eq_true rfl) d4_12 (fun v8 T8 L8 X8 hQ8 => ?_)
      obtain ⟨rfl, N8q, eh8⟩ := hQ8
      have N8 := Fr.app N7 N8q
      refine g_istoreN X8 hx hby d4_15 (l' := #[.val (.ref a), .val (.int (2 : Int32)), .val (.int c2)]) rfl ?_
      have J9 : ∀ (T9 : State) (L9 : List Loc), Stand p l e ({ frames := 5, cells := 0, slots := 0, locals := 66 } : Room) s m #[(.ref a)] below meth c_ T9 L9 0 0 → T9.heap = h0 → Fr n0 L9 → (own_fv c2 = (1 : Int32)) → Go p e below (RetG s (Q_fv_3u Z a b kb c0 c1 c2 cz fz h0 n0) 0 0) (T9.setTop (mkF m 43 #[.val (.ref a), .val (.int (2 : Int32)), .val (.int c2)] [])) := by
        intro T9 L9 X9 e9 N9 hp_c2
        refine g_iinc X9 hx hby (3 : Int32) d4_43 rfl (by decide) (l' := #[.val (.ref a), .val (.int (3 : Int32)), .val (.int c2)]) rfl ?_
        refine g_goto X9 hx hby 2 d4_46 (by decide) (by decide) ?_
        refine g_iloadN X9 hx hby d4_2 rfl ?_
        refine g_aloadN X9 hx hby d4_3 rfl rfl ?_
        refine g_virtual X9 hx hby hZ hown (rm_slen16_3 l Z a0 hw [] a b kb c0 c1 c2 cz h0 n0 Z0 O2 P5 OLD Uad Uhi Ulo E C VF VB) w26_ w27_ (notFace_of_selects (args := #[]) (mvT hZ w29_)) w29_ w28_ w3_ w30_ (by decide) e9 E (by rw [hml]; rfl) [] (lenOf own_pd3 rfl) rfl rfl (Nat.le_of_ble_eq_true rfl) (Nat.le_of_ble_eq_true rfl) (Nat.le_of_ble_eq_true rfl) (Nat.le_of_ble_eq_true rfl) d4_4 (fun v10 T10 L10 X10 hQ10 => ?_)
        obtain ⟨rfl, N10q, eh10⟩ := hQ10
        have N10 := Fr.app N9 N10q
        refine g_icY X10 hx hby 49 d4_7 (flt (by decide : ¬ ((3 : Int32) < (3 : Int32)))).2.1 (by decide) (by decide) ?_
        refine g_iconst X10 hx hby (1 : Int32) d4_49 rfl ?_
        refine g_nret X10 hx hby (t := .boolean) (by simp) Bd.returns Bd.notSynchronized d4_50 eh10 (by decide) (by decide) ?_
        show (Q_fv_3u Z a b kb c0 c1 c2 cz fz h0 n0) (some (.int (1 : Int32))) _ _
        exact ⟨by simp [own_fvs, hp_c0, hp_c1, hp_c2], N10, rfl⟩
      refine g_iloadN X8 hx hby d4_16 rfl ?_
      refine g_bipush X8 hx hby (32 : Int32) d4_17 rfl ?_
      by_cases hc19_11 : c2 < (32 : Int32)
      · skip
        refine g_icN X8 hx hby d4_19 (tlt hc19_11).2.1 ?_
        refine g_iloadN X8 hx hby d4_22 rfl ?_
        refine g_bipush X8 hx hby (9 : Int32) d4_23 rfl ?_
        by_cases hc25_12 : c2 = (9 : Int32)
        · skip
          refine g_icN X8 hx hby d4_25 (teq hc25_12).2 ?_
          refine g_iloadN X8 hx hby d4_28 rfl ?_
          refine g_at 29 rfl rfl rfl ?_
          refine g_bipush X8 hx hby (127 : Int32) d4_29 rfl ?_
          by_cases hc31_13 : c2 = (127 : Int32)
          · skip
            refine g_icY X8 hx hby 41 d4_31 (teq hc31_13).1 (by decide) (by decide) ?_
            refine g_iconst X8 hx hby (0 : Int32) d4_41 rfl ?_
            refine g_nret X8 hx hby (t := .boolean) (by simp) Bd.returns Bd.notSynchronized d4_42 eh8 (by decide) (by decide) ?_
            show (Q_fv_3u Z a b kb c0 c1 c2 cz fz h0 n0) (some (.int (0 : Int32))) _ _
            have hz : own_fv c2 = (0 : Int32) := by first | (simp [own_fv, hc19_11, hc25_12, hc31_13]; done) | (exact absurd hc19_11 (by rw [hc25_12]; decide)) | (exact absurd hc31_13 (by rw [hc25_12]; decide))
            exact ⟨by simp [own_fvs, hz, hp_c0, hp_c1], N8, rfl⟩
          · skip
            refine g_icN X8 hx hby d4_31 (feq hc31_13).1 ?_
            refine g_iloadN X8 hx hby d4_34 rfl ?_
            refine g_sipush X8 hx hby (255 : Int32) d4_35 rfl ?_
            by_cases hc38_14 : (255 : Int32) < c2
            · skip
              refine g_icN X8 hx hby d4_38 (tlt hc38_14).2.2.2 ?_
              refine g_iconst X8 hx hby (0 : Int32) d4_41 rfl ?_
              refine g_nret X8 hx hby (t := .boolean) (by simp) Bd.returns Bd.notSynchronized d4_42 eh8 (by decide) (by decide) ?_
              show (Q_fv_3u Z a b kb c0 c1 c2 cz fz h0 n0) (some (.int (0 : Int32))) _ _
              have hz : own_fv c2 = (0 : Int32) := by first | (simp [own_fv, hc19_11, hc25_12, hc31_13, hc38_14]; done) | (exact absurd hc19_11 (by rw [hc25_12]; decide)) | (exact absurd hc38_14 (by rw [hc25_12]; decide))
              exact ⟨by simp [own_fvs, hz, hp_c0, hp_c1], N8, rfl⟩
            · skip
              refine g_icY X8 hx hby 43 d4_38 (flt hc38_14).2.2.2 (by decide) (by decide) ?_
              exact J9 _ _ X8 eh8 N8 (by simp [own_fv, hc19_11, hc25_12, hc31_13, hc38_14])
        · skip
          refine g_icY X8 hx hby 41 d4_25 (feq hc25_12).2 (by decide) (by decide) ?_
          refine g_iconst X8 hx hby (0 : Int32) d4_41 rfl ?_
          refine g_nret X8 hx hby (t := .boolean) (by simp) Bd.returns Bd.notSynchronized d4_42 eh8 (by decide) (by decide) ?_
          show (Q_fv_3u Z a b kb c0 c1 c2 cz fz h0 n0) (some (.int (0 : Int32))) _ _
          have hz : own_fv c2 = (0 : Int32) := by first | (simp [own_fv, hc19_11, hc25_12]; done)
          exact ⟨by simp [own_fvs, hz, hp_c0, hp_c1], N8, rfl⟩
      · skip
        refine g_icY X8 hx hby 28 d4_19 (flt hc19_11).2.1 (by decide) (by decide) ?_
        refine g_iloadN X8 hx hby d4_28 rfl ?_
        refine g_bipush X8 hx hby (127 : Int32) d4_29 rfl ?_
        by_cases hc31_15 : c2 = (127 : Int32)
        · skip
          refine g_icY X8 hx hby 41 d4_31 (teq hc31_15).1 (by decide) (by decide) ?_
          refine g_iconst X8 hx hby (0 : Int32) d4_41 rfl ?_
          refine g_nret X8 hx hby (t := .boolean) (by simp) Bd.returns Bd.notSynchronized d4_42 eh8 (by decide) (by decide) ?_
          show (Q_fv_3u Z a b kb c0 c1 c2 cz fz h0 n0) (some (.int (0 : Int32))) _ _
          have hz : own_fv c2 = (0 : Int32) := by first | (simp [own_fv, hc19_11, hc31_15]; done)
          exact ⟨by simp [own_fvs, hz, hp_c0, hp_c1], N8, rfl⟩
        · skip
          refine g_icN X8 hx hby d4_31 (feq hc31_15).1 ?_
          refine g_iloadN X8 hx hby d4_34 rfl ?_
          refine g_sipush X8 hx hby (255 : Int32) d4_35 rfl ?_
          by_cases hc38_16 : (255 : Int32) < c2
          · skip
            refine g_icN X8 hx hby d4_38 (tlt hc38_16).2.2.2 ?_
            refine g_iconst X8 hx hby (0 : Int32) d4_41 rfl ?_
            refine g_nret X8 hx hby (t := .boolean) (by simp) Bd.returns Bd.notSynchronized d4_42 eh8 (by decide) (by decide) ?_
            show (Q_fv_3u Z a b kb c0 c1 c2 cz fz h0 n0) (some (.int (0 : Int32))) _ _
            have hz : own_fv c2 = (0 : Int32) := by first | (simp [own_fv, hc19_11, hc31_15, hc38_16]; done)
            exact ⟨by simp [own_fvs, hz, hp_c0, hp_c1], N8, rfl⟩
          · skip
            refine g_icY X8 hx hby 43 d4_38 (flt hc38_16).2.2.2 (by decide) (by decide) ?_
            exact J9 _ _ X8 eh8 N8 (by simp [own_fv, hc19_11, hc31_15, hc38_16])
    refine g_iloadN X5 hx hby d4_16 rfl ?_
    refine g_bipush X5 hx hby (32 : Int32) d4_17 rfl ?_
    by_cases hc19_17 : c1 < (32 : Int32)
    · skip
      refine g_icN X5 hx hby d4_19 (tlt hc19_17).2.1 ?_
      refine g_iloadN X5 hx hby d4_22 rfl ?_
      refine g_bipush X5 hx hby (9 : Int32) d4_23 rfl ?_
      by_cases hc25_18 : c1 = (9 : Int32)
      · skip
        refine g_icN X5 hx hby d4_25 (teq hc25_18).2 ?_
        refine g_iloadN X5 hx hby d4_28 rfl ?_
        refine g_at 29 rfl rfl rfl ?_
        refine g_bipush X5 hx hby (127 : Int32) d4_29 rfl ?_
        by_cases hc31_19 : c1 = (127 : Int32)
        · skip
          refine g_icY X5 hx hby 41 d4_31 (teq hc31_19).1 (by decide) (by decide) ?_
          refine g_iconst X5 hx hby (0 : Int32) d4_41 rfl ?_
          refine g_nret X5 hx hby (t := .boolean) (by simp) Bd.returns Bd.notSynchronized d4_42 eh5 (by decide) (by decide) ?_
          show (Q_fv_3u Z a b kb c0 c1 c2 cz fz h0 n0) (some (.int (0 : Int32))) _ _
          have hz : own_fv c1 = (0 : Int32) := by first | (simp [own_fv, hc19_17, hc25_18, hc31_19]; done) | (exact absurd hc19_17 (by rw [hc25_18]; decide)) | (exact absurd hc31_19 (by rw [hc25_18]; decide))
          exact ⟨by simp [own_fvs, hz, hp_c0], N5, rfl⟩
        · skip
          refine g_icN X5 hx hby d4_31 (feq hc31_19).1 ?_
          refine g_iloadN X5 hx hby d4_34 rfl ?_
          refine g_sipush X5 hx hby (255 : Int32) d4_35 rfl ?_
          by_cases hc38_20 : (255 : Int32) < c1
          · skip
            refine g_icN X5 hx hby d4_38 (tlt hc38_20).2.2.2 ?_
            refine g_iconst X5 hx hby (0 : Int32) d4_41 rfl ?_
            refine g_nret X5 hx hby (t := .boolean) (by simp) Bd.returns Bd.notSynchronized d4_42 eh5 (by decide) (by decide) ?_
            show (Q_fv_3u Z a b kb c0 c1 c2 cz fz h0 n0) (some (.int (0 : Int32))) _ _
            have hz : own_fv c1 = (0 : Int32) := by first | (simp [own_fv, hc19_17, hc25_18, hc31_19, hc38_20]; done) | (exact absurd hc19_17 (by rw [hc25_18]; decide)) | (exact absurd hc38_20 (by rw [hc25_18]; decide))
            exact ⟨by simp [own_fvs, hz, hp_c0], N5, rfl⟩
          · skip
            refine g_icY X5 hx hby 43 d4_38 (flt hc38_20).2.2.2 (by decide) (by decide) ?_
            exact J6 _ _ X5 eh5 N5 (by simp [own_fv, hc19_17, hc25_18, hc31_19, hc38_20])
      · skip
        refine g_icY X5 hx hby 41 d4_25 (feq hc25_18).2 (by decide) (by decide) ?_
        refine g_iconst X5 hx hby (0 : Int32) d4_41 rfl ?_
        refine g_nret X5 hx hby (t := .boolean) (by simp) Bd.returns Bd.notSynchronized d4_42 eh5 (by decide) (by decide) ?_
        show (Q_fv_3u Z a b kb c0 c1 c2 cz fz h0 n0) (some (.int (0 : Int32))) _ _
        have hz : own_fv c1 = (0 : Int32) := by first | (simp [own_fv, hc19_17, hc25_18]; done)
        exact ⟨by simp [own_fvs, hz, hp_c0], N5, rfl⟩
    · skip
      refine g_icY X5 hx hby 28 d4_19 (flt hc19_17).2.1 (by decide) (by decide) ?_
      refine g_iloadN X5 hx hby d4_28 rfl ?_
      refine g_bipush X5 hx hby (127 : Int32) d4_29 rfl ?_
      by_cases hc31_21 : c1 = (127 : Int32)
      · skip
        refine g_icY X5 hx hby 41 d4_31 (teq hc31_21).1 (by decide) (by decide) ?_
        refine g_iconst X5 hx hby (0 : Int32) d4_41 rfl ?_
        refine g_nret X5 hx hby (t := .boolean) (by simp) Bd.returns Bd.notSynchronized d4_42 eh5 (by decide) (by decide) ?_
        show (Q_fv_3u Z a b kb c0 c1 c2 cz fz h0 n0) (some (.int (0 : Int32))) _ _
        have hz : own_fv c1 = (0 : Int32) := by first | (simp [own_fv, hc19_17, hc31_21]; done)
        exact ⟨by simp [own_fvs, hz, hp_c0], N5, rfl⟩
      · skip
        refine g_icN X5 hx hby d4_31 (feq hc31_21).1 ?_
        refine g_iloadN X5 hx hby d4_34 rfl ?_
        refine g_sipush X5 hx hby (255 : Int32) d4_35 rfl ?_
        by_cases hc38_22 : (255 : Int32) < c1
        · skip
          refine g_icN X5 hx hby d4_38 (tlt hc38_22).2.2.2 ?_
          refine g_iconst X5 hx hby (0 : Int32) d4_41 rfl ?_
          refine g_nret X5 hx hby (t := .boolean) (by simp) Bd.returns Bd.notSynchronized d4_42 eh5 (by decide) (by decide) ?_
          show (Q_fv_3u Z a b kb c0 c1 c2 cz fz h0 n0) (some (.int (0 : Int32))) _ _
          have hz : own_fv c1 = (0 : Int32) := by first | (simp [own_fv, hc19_17, hc31_21, hc38_22]; done)
          exact ⟨by simp [own_fvs, hz, hp_c0], N5, rfl⟩
        · skip
          refine g_icY X5 hx hby 43 d4_38 (flt hc38_22).2.2.2 (by decide) (by decide) ?_
          exact J6 _ _ X5 eh5 N5 (by simp [own_fv, hc19_17, hc31_21, hc38_22])
  refine g_iloadN X2 hx hby d4_16 rfl ?_
  refine g_bipush X2 hx hby (32 : Int32) d4_17 rfl ?_
  by_cases hc19_23 : c0 < (32 : Int32)
  · skip
    refine g_icN X2 hx hby d4_19 (tlt hc19_23).2.1 ?_
    refine g_iloadN X2 hx hby d4_22 rfl ?_
    refine g_bipush X2 hx hby (9 : Int32) d4_23 rfl ?_
    refine g_at 25 rfl rfl rfl ?_
    by_cases hc25_24 : c0 = (9 : Int32)
    · skip
      refine g_icN X2 hx hby d4_25 (teq hc25_24).2 ?_
      refine g_iloadN X2 hx hby d4_28 rfl ?_
      refine g_bipush X2 hx hby (127 : Int32) d4_29 rfl ?_
      by_cases hc31_25 : c0 = (127 : Int32)
      · skip
        refine g_icY X2 hx hby 41 d4_31 (teq hc31_25).1 (by decide) (by decide) ?_
        refine g_iconst X2 hx hby (0 : Int32) d4_41 rfl ?_
        refine g_nret X2 hx hby (t := .boolean) (by simp) Bd.returns Bd.notSynchronized d4_42 eh2 (by decide) (by decide) ?_
        show (Q_fv_3u Z a b kb c0 c1 c2 cz fz h0 n0) (some (.int (0 : Int32))) _ _
        have hz : own_fv c0 = (0 : Int32) := by first | (simp [own_fv, hc19_23, hc25_24, hc31_25]; done) | (exact absurd hc19_23 (by rw [hc25_24]; decide)) | (exact absurd hc31_25 (by rw [hc25_24]; decide))
        exact ⟨by simp [own_fvs, hz], N2, rfl⟩
      · skip
        refine g_icN X2 hx hby d4_31 (feq hc31_25).1 ?_
        refine g_iloadN X2 hx hby d4_34 rfl ?_
        refine g_sipush X2 hx hby (255 : Int32) d4_35 rfl ?_
        by_cases hc38_26 : (255 : Int32) < c0
        · skip
          refine g_icN X2 hx hby d4_38 (tlt hc38_26).2.2.2 ?_
          refine g_iconst X2 hx hby (0 : Int32) d4_41 rfl ?_
          refine g_nret X2 hx hby (t := .boolean) (by simp) Bd.returns Bd.notSynchronized d4_42 eh2 (by decide) (by decide) ?_
          show (Q_fv_3u Z a b kb c0 c1 c2 cz fz h0 n0) (some (.int (0 : Int32))) _ _
          have hz : own_fv c0 = (0 : Int32) := by first | (simp [own_fv, hc19_23, hc25_24, hc31_25, hc38_26]; done) | (exact absurd hc19_23 (by rw [hc25_24]; decide)) | (exact absurd hc38_26 (by rw [hc25_24]; decide))
          exact ⟨by simp [own_fvs, hz], N2, rfl⟩
        · skip
          refine g_icY X2 hx hby 43 d4_38 (flt hc38_26).2.2.2 (by decide) (by decide) ?_
          exact J3 _ _ X2 eh2 N2 (by simp [own_fv, hc19_23, hc25_24, hc31_25, hc38_26])
    · skip
      refine g_icY X2 hx hby 41 d4_25 (feq hc25_24).2 (by decide) (by decide) ?_
      refine g_iconst X2 hx hby (0 : Int32) d4_41 rfl ?_
      refine g_nret X2 hx hby (t := .boolean) (by simp) Bd.returns Bd.notSynchronized d4_42 eh2 (by decide) (by decide) ?_
      show (Q_fv_3u Z a b kb c0 c1 c2 cz fz h0 n0) (some (.int (0 : Int32))) _ _
      have hz : own_fv c0 = (0 : Int32) := by first | (simp [own_fv, hc19_23, hc25_24]; done)
      exact ⟨by simp [own_fvs, hz], N2, rfl⟩
  · skip
    refine g_icY X2 hx hby 28 d4_19 (flt hc19_23).2.1 (by decide) (by decide) ?_
    refine g_iloadN X2 hx hby d4_28 rfl ?_
    refine g_bipush X2 hx hby (127 : Int32) d4_29 rfl ?_
    by_cases hc31_27 : c0 = (127 : Int32)
    · skip
      refine g_icY X2 hx hby 41 d4_31 (teq hc31_27).1 (by decide) (by decide) ?_
      refine g_iconst X2 hx hby (0 : Int32) d4_41 rfl ?_
      refine g_nret X2 hx hby (t := .boolean) (by simp) Bd.returns Bd.notSynchronized d4_42 eh2 (by decide) (by decide) ?_
      show (Q_fv_3u Z a b kb c0 c1 c2 cz fz h0 n0) (some (.int (0 : Int32))) _ _
      have hz : own_fv c0 = (0 : Int32) := by first | (simp [own_fv, hc19_23, hc31_27]; done)
      exact ⟨by simp [own_fvs, hz], N2, rfl⟩
    · skip
      refine g_icN X2 hx hby d4_31 (feq hc31_27).1 ?_
      refine g_iloadN X2 hx hby d4_34 rfl ?_
      refine g_sipush X2 hx hby (255 : Int32) d4_35 rfl ?_
      by_cases hc38_28 : (255 : Int32) < c0
      · skip
        refine g_icN X2 hx hby d4_38 (tlt hc38_28).2.2.2 ?_
        refine g_iconst X2 hx hby (0 : Int32) d4_41 rfl ?_
        refine g_nret X2 hx hby (t := .boolean) (by simp) Bd.returns Bd.notSynchronized d4_42 eh2 (by decide) (by decide) ?_
        show (Q_fv_3u Z a b kb c0 c1 c2 cz fz h0 n0) (some (.int (0 : Int32))) _ _
        have hz : own_fv c0 = (0 : Int32) := by first | (simp [own_fv, hc19_23, hc31_27, hc38_28]; done)
        exact ⟨by simp [own_fvs, hz], N2, rfl⟩
      · skip
        refine g_icY X2 hx hby 43 d4_38 (flt hc38_28).2.2.2 (by decide) (by decide) ?_
        exact J3 _ _ X2 eh2 N2 (by simp [own_fv, hc19_23, hc31_27, hc38_28])

def Q_cmp5f_3_1 (Z : State) (ca : Addr) (ba : Addr) (kc : ClassId) (kb : ClassId) (c0 : Int32) (c1 : Int32) (c2 : Int32) (h0 : Heap) (n0 : Nat) (v : Option Value) (h : Heap) (L : List Loc) : Prop := v = some (.int (1 : Int32)) ∧ Fr n0 L ∧ Keep h0 h [ba]
set_option maxRecDepth 65536 in
set_option maxHeartbeats 40000000 in
theorem rm_cmp5f_3_1 (l : Launch) (Z : State) (a0 : Array Value) (hw : ∀ d ∈ tables_1, d.before a0 Z = true) (ws : List Jvm.Cond) (ca : Addr) (ba : Addr) (kc : ClassId) (kb : ClassId) (c0 : Int32) (c1 : Int32) (c2 : Int32) (h0 : Heap) (n0 : Nat) (Z0 : n0 ≤ h0.size) (VC : Arv Z h0 ca kc .char (3 : Int32) [(.int c0), (.int c1), (.int c2)] (.int (0 : Int32))) (VB : Arv Z h0 ba kb .byte (3 : Int32) [(.int (0 : Int32)), (.int (0 : Int32)), (.int (0 : Int32))] (.int (0 : Int32))) (nab : ca ≠ ba) (gb : n0 ≤ ba) (hc0 : ¬ (255 : Int32) < c0) (hf : (255 : Int32) < c1) :
    MetFree l (⟨"java/lang/StringUTF16", "compress", "([CI[BII)I"⟩ : MethodName) (head1 (Jvm.Cond.code (⟨"java/lang/StringUTF16", "compress", "([CI[BII)I"⟩ : MethodName) jdk_52_method_21_code 7 (some .int) :: ws) ({ frames := 0, cells := 0, slots := 0, locals := 0 } : Room)) (fun aa_ U => aa_ = #[(.ref ca), (.int (0 : Int32)), (.ref ba), (.int (0 : Int32)), (.int (3 : Int32))] ∧ Z.Warmed39 U.vm ∧ U.heap = h0) (fun _ _ _ _ _ => True) (fun _ U o_ U' => RetG U (Q_cmp5f_3_1 Z ca ba kc kb c0 c1 c2 h0 n0) 0 0 U' o_) := by
  refine MetFree.of_bodySF (plainFor_of_name own_pn3) hisR ?_
  intro p e s m args below meth c_ s₁ Bd hml0 hP hK
  obtain ⟨rfl, hZ, hh⟩ := hP
  have hx := Bd.exec
  have hby := Bd.bytes
  have hml : c_.maxLocals = 7 := hml0
  have hown : s.vm.findClass "java/lang/StringUTF16" = some m.cls := findClass_of_methodNamed Bd.named
  have hnm := (name_of_methodNamed Bd.named Bd.method).1
  have X0 : Stand p l e ({ frames := 0, cells := 0, slots := 0, locals := 0 } : Room) s m #[(.ref ca), (.int (0 : Int32)), (.ref ba), (.int (0 : Int32)), (.int (3 : Int32))] below meth c_ s₁ [] 0 0 := Stand.of_body Bd
  have e0 : s₁.heap = h0 := by rw [← hh, Bd.state]; rfl
  have N0 := Fr.nil n0
  show Go p e below (RetG s (Q_cmp5f_3_1 Z ca ba kc kb c0 c1 c2 h0 n0) 0 0) (s₁.setTop (entryFrame m #[(.ref ca), (.int (0 : Int32)), (.ref ba), (.int (0 : Int32)), (.int (3 : Int32))] 7))
  rw [show entryFrame m #[(.ref ca), (.int (0 : Int32)), (.ref ba), (.int (0 : Int32)), (.int (3 : Int32))] 7 = mkF m 0 #[.val (.ref ca), .val (.int (0 : Int32)), .val (.ref ba), .val (.int (0 : Int32)), .val (.int (3 : Int32)), .unset, .unset] [] from by first | (simp [entryFrame, mkF, argsToLocals, Value.category]; done) | rfl]
  refine g_iconst X0 hx hby (0 : Int32) d8_0 rfl ?_
  refine g_istore X0 hx hby d8_1 (l' := #[.val (.ref ca), .val (.int (0 : Int32)), .val (.ref ba), .val (.int (0 : Int32)), .val (.int (3 : Int32)), .val (.int (0 : Int32)), .unset]) rfl ?_
  refine g_iload X0 hx hby d8_3 rfl ?_
  refine g_iload X0 hx hby d8_5 rfl ?_
  refine g_icN X0 hx hby d8_7 (tlt (by decide : (0 : Int32) < (3 : Int32))).2.1 ?_
  refine g_aloadN X0 hx hby d8_10 rfl rfl ?_
  refine g_iloadN X0 hx hby d8_11 rfl ?_
  refine g_caload X0 hx hby hZ e0 VC (.int c0) ⟨by decide, by decide⟩ rfl d8_12 ?_
  refine g_istore X0 hx hby d8_13 (l' := #[.val (.ref ca), .val (.int (0 : Int32)), .val (.ref ba), .val (.int (0 : Int32)), .val (.int (3 : Int32)), .val (.int (0 : Int32)), .val (.int c0)]) rfl ?_
  refine g_iload X0 hx hby d8_15 rfl ?_
  refine g_sipush X0 hx hby (255 : Int32) d8_17 rfl ?_
  refine g_icY X0 hx hby 26 d8_20 (flt (hc0 : ¬ ((255 : Int32) < c0))).2.2.2 (by decide) (by decide) ?_
  refine g_aloadN X0 hx hby d8_26 rfl rfl ?_
  refine g_iloadN X0 hx hby d8_27 rfl ?_
  refine g_iload X0 hx hby d8_28 rfl ?_
  refine g_i2b X0 hx hby d8_30 ?_
  refine g_bastore X0 hx hby hZ e0 VB 0 [(.int (nar .byte (c0.toInt8.toInt32))), (.int (0 : Int32)), (.int (0 : Int32))] rfl ⟨by decide, by decide⟩ rfl (Nat.le_of_ble_eq_true rfl) N0 gb d8_31 (fun T1 h1 X1 e1 W1 V1 N1 => ?_)
  refine g_iinc X1 hx hby (1 : Int32) d8_32 rfl (by decide) (l' := #[.val (.ref ca), .val (.int (1 : Int32)), .val (.ref ba), .val (.int (0 : Int32)), .val (.int (3 : Int32)), .val (.int (0 : Int32)), .val (.int c0)]) rfl ?_
  refine g_iinc X1 hx hby (1 : Int32) d8_35 rfl (by decide) (l' := #[.val (.ref ca), .val (.int (1 : Int32)), .val (.ref ba), .val (.int (1 : Int32)), .val (.int (3 : Int32)), .val (.int (0 : Int32)), .val (.int c0)]) rfl ?_
  refine g_iinc X1 hx hby (1 : Int32) d8_38 rfl (by decide) (l' := #[.val (.ref ca), .val (.int (1 : Int32)), .val (.ref ba), .val (.int (1 : Int32)), .val (.int (3 : Int32)), .val (.int (1 : Int32)), .val (.int c0)]) rfl ?_
  refine g_goto X1 hx hby 3 d8_41 (by decide) (by decide) ?_
  refine g_iload X1 hx hby d8_3 rfl ?_
  refine g_iload X1 hx hby d8_5 rfl ?_
  refine g_icN X1 hx hby d8_7 (tlt (by decide : (1 : Int32) < (3 : Int32))).2.1 ?_
  refine g_aloadN X1 hx hby d8_10 rfl rfl ?_
  refine g_iloadN X1 hx hby d8_11 rfl ?_
  have f2 := (VC.other W1 nab)
  refine g_caload X1 hx hby hZ e1 f2 (.int c1) ⟨by decide, by decide⟩ rfl d8_12 ?_
  refine g_istore X1 hx hby d8_13 (l' := #[.val (.ref ca), .val (.int (1 : Int32)), .val (.ref ba), .val (.int (1 : Int32)), .val (.int (3 : Int32)), .val (.int (1 : Int32)), .val (.int c1)]) rfl ?_
  refine g_iload X1 hx hby d8_15 rfl ?_
  refine g_sipush X1 hx hby (255 : Int32) d8_17 rfl ?_
  refine g_icN X1 hx hby d8_20 (tlt (hf : (255 : Int32) < c1)).2.2.2 ?_
  refine g_iload X1 hx hby d8_23 rfl ?_
  refine g_iret X1 hx hby Bd.returns Bd.notSynchronized d8_25 e1 (by decide) (by decide) ?_
  show (Q_cmp5f_3_1 Z ca ba kc kb c0 c1 c2 h0 n0) (some (.int (1 : Int32))) _ _
  exact ⟨rfl, N1, ((Keep.refl h0 [ba]).wr W1 (Or.inl (List.mem_of_getElem? (i := 0) rfl)))⟩

def Q_cmpf_3_1 (Z : State) (ca : Addr) (kc : ClassId) (c0 : Int32) (c1 : Int32) (c2 : Int32) (h0 : Heap) (n0 : Nat) (v : Option Value) (h : Heap) (L : List Loc) : Prop := Fr n0 L ∧ Keep h0 h [] ∧ ∃ (b : Addr) (kb : ClassId), v = some (.ref b) ∧ h0.size ≤ b ∧ Arv Z h b kb .byte (6 : Int32) [(.int (own_lob c0)), (.int (own_hib c0)), (.int (own_lob c1)), (.int (own_hib c1)), (.int (own_lob c2)), (.int (own_hib c2))] (.int (0 : Int32))
set_option maxRecDepth 65536 in
set_option maxHeartbeats 40000000 in
theorem rm_cmpf_3_1 (l : Launch) (Z : State) (a0 : Array Value) (hw : ∀ d ∈ tables_1, d.before a0 Z = true) (ws : List Jvm.Cond) (ca : Addr) (kc : ClassId) (c0 : Int32) (c1 : Int32) (c2 : Int32) (h0 : Heap) (n0 : Nat) (Z0 : n0 ≤ h0.size) (Uad : Sta Z Z.heap "java/lang/StringUTF16" "$assertionsDisabled" "Z" (.int (1 : Int32))) (Uhi : Sta Z Z.heap "java/lang/StringUTF16" "HI_BYTE_SHIFT" "I" (.int (0 : Int32))) (Ulo : Sta Z Z.heap "java/lang/StringUTF16" "LO_BYTE_SHIFT" "I" (.int (8 : Int32))) (OLD : Old Z n0 h0) (VC : Arv Z h0 ca kc .char (3 : Int32) [(.int c0), (.int c1), (.int c2)] (.int (0 : Int32))) (hc0 : ¬ (255 : Int32) < c0) (hf : (255 : Int32) < c1) (hr0 : 0 ≤ c0.toInt ∧ c0.toInt < 65536) (hr1 : 0 ≤ c1.toInt ∧ c1.toInt < 65536) (hr2 : 0 ≤ c2.toInt ∧ c2.toInt < 65536) :
    MetFree l (⟨"java/lang/StringUTF16", "compress", "([CII)[B"⟩ : MethodName) (head1 (Jvm.Cond.code (⟨"java/lang/StringUTF16", "compress", "([CII)[B"⟩ : MethodName) jdk_52_method_16_code 6 (some (.array .byte)) :: ws) ({ frames := 3, cells := 2, slots := 9, locals := 40 } : Room)) (fun aa_ U => aa_ = #[(.ref ca), (.int (0 : Int32)), (.int (3 : Int32))] ∧ Z.Warmed39 U.vm ∧ U.heap = h0) (fun _ _ _ _ _ => True) (fun _ U o_ U' => RetG U (Q_cmpf_3_1 Z ca kc c0 c1 c2 h0 n0) 2 9 U' o_) := by
  refine MetFree.of_bodySF (plainFor_of_name own_pn3) hisR ?_
  intro p e s m args below meth c_ s₁ Bd hml0 hP hK
  obtain ⟨rfl, hZ, hh⟩ := hP
  have hx := Bd.exec
  have hby := Bd.bytes
  have hml : c_.maxLocals = 6 := hml0
  have hown : s.vm.findClass "java/lang/StringUTF16" = some m.cls := findClass_of_methodNamed Bd.named
  have hnm := (name_of_methodNamed Bd.named Bd.method).1
  have X0 : Stand p l e ({ frames := 3, cells := 2, slots := 9, locals := 40 } : Room) s m #[(.ref ca), (.int (0 : Int32)), (.int (3 : Int32))] below meth c_ s₁ [] 0 0 := Stand.of_body Bd
  have e0 : s₁.heap = h0 := by rw [← hh, Bd.state]; rfl
  have N0 := Fr.nil n0
  have w15_ := hw _ (List.mem_of_getElem? (i := 15) rfl)
  have w39_ := hw _ (List.mem_of_getElem? (i := 39) rfl)
  have w41_ := hw _ (List.mem_of_getElem? (i := 41) rfl)
  have w42_ := hw _ (List.mem_of_getElem? (i := 42) rfl)
  have w43_ := hw _ (List.mem_of_getElem? (i := 43) rfl)
  have w73_ := hw _ (List.mem_of_getElem? (i := 73) rfl)
  have w74_ := hw _ (List.mem_of_getElem? (i := 74) rfl)
  have w75_ := hw _ (List.mem_of_getElem? (i := 75) rfl)
  have w89_ := hw _ (List.mem_of_getElem? (i := 89) rfl)
  have w90_ := hw _ (List.mem_of_getElem? (i := 90) rfl)
  have w91_ := hw _ (List.mem_of_getElem? (i := 91) rfl)
  show Go p e below (RetG s (Q_cmpf_3_1 Z ca kc c0 c1 c2 h0 n0) 2 9) (s₁.setTop (entryFrame m #[(.ref ca), (.int (0 : Int32)), (.int (3 : Int32))] 6))
  rw [show entryFrame m #[(.ref ca), (.int (0 : Int32)), (.int (3 : Int32))] 6 = mkF m 0 #[.val (.ref ca), .val (.int (0 : Int32)), .val (.int (3 : Int32)), .unset, .unset, .unset] [] from by first | (simp [entryFrame, mkF, argsToLocals, Value.category]; done) | rfl]
  refine g_iloadN X0 hx hby d7_0 rfl ?_
  refine g_newarray X0 hx hby hZ .byte .byte (.int (0 : Int32)) [(.int (0 : Int32)), (.int (0 : Int32)), (.int (0 : Int32))] rfl rfl w15_ e0 (by decide) 3 rfl (by decide) (by decide) (by decide) (by decide) d7_1 (fun T1 h1 k1 b1 g1 X1 e1 E1 V1 => ?_)
  refine g_astoreN X1 hx hby d7_3 rfl (l' := #[.val (.ref ca), .val (.int (0 : Int32)), .val (.int (3 : Int32)), .val (.ref b1), .unset, .unset]) rfl ?_
  refine g_aloadN X1 hx hby d7_4 rfl rfl ?_
  refine g_iloadN X1 hx hby d7_5 rfl ?_
  refine g_aloadN X1 hx hby d7_6 rfl rfl ?_
  refine g_iconst X1 hx hby (0 : Int32) d7_7 rfl ?_
  refine g_iloadN X1 hx hby d7_8 rfl ?_
  have f3 := (VC.ext E1)
  have ne4 : ca ≠ b1 := (Nat.ne_of_lt (Nat.lt_of_lt_of_le VC.lt (Nat.le_of_eq g1)))
  have g_b1 : n0 ≤ b1 := Nat.le_trans Z0 (Nat.le_of_eq g1)
  have z5 := (Nat.le_trans Z0 E1.1)
  refine g_static X1 hx hby hZ hown (rm_cmp5f_3_1 l Z a0 hw [] ca b1 kc k1 c0 c1 c2 h1 n0 z5 f3 V1 ne4 g_b1 hc0 hf) w41_ w42_ w39_ w43_ (by decide) e1 (by rw [hml]; rfl) [(.ref ca), (.int (0 : Int32)), (.ref b1), (.int (0 : Int32)), (.int (3 : Int32))] (lenOf own_pd8 rfl) rfl rfl (Nat.le_of_ble_eq_true rfl) (Nat.le_of_ble_eq_true rfl) (Nat.le_of_ble_eq_true rfl) (Nat.le_of_ble_eq_true rfl) d7_9 (fun v2 T2 L2 X2 hQ2 => ?_)
  obtain ⟨rfl, N2q, K2⟩ := hQ2
  have N2 := Fr.app N0 N2q
  refine g_istore X2 hx hby d7_12 (l' := #[.val (.ref ca), .val (.int (0 : Int32)), .val (.int (3 : Int32)), .val (.ref b1), .val (.int (1 : Int32)), .unset]) rfl ?_
  refine g_iload X2 hx hby d7_14 rfl ?_
  refine g_iloadN X2 hx hby d7_16 rfl ?_
  refine g_icN X2 hx hby d7_17 (feq (by decide : ¬ ((1 : Int32) = (3 : Int32)))).1 ?_
  refine g_aloadN X2 hx hby d7_20 rfl rfl ?_
  refine g_iloadN X2 hx hby d7_21 rfl ?_
  refine g_iloadN X2 hx hby d7_22 rfl ?_
  have f7 := ((OLD.ext E1).keep K2 (allS g_b1 all0))
  have f8 := (f3.keep K2 (ninS ne4 nin0))
  have z9 := (Nat.le_trans z5 K2.1)
  refine g_static X2 hx hby hZ hown (rm_tob_3 l Z a0 hw [] ca kc c0 c1 c2 T2.heap n0 z9 Uad Uhi Ulo f7 f8) w73_ w74_ w39_ w75_ (by decide) rfl (by rw [hml]; rfl) [(.ref ca), (.int (0 : Int32)), (.int (3 : Int32))] (lenOf own_pd9 rfl) rfl rfl (Nat.le_of_ble_eq_true rfl) (Nat.le_of_ble_eq_true rfl) (Nat.le_of_ble_eq_true rfl) (Nat.le_of_ble_eq_true rfl) d7_23 (fun v6 T6 L6 X6 hQ6 => ?_)
  obtain ⟨N6q, K6, bb, kbb, rfl, lob, Vb⟩ := hQ6
  have N6 := Fr.app N2 N6q
  refine g_at 26 rfl rfl rfl ?_
  refine g_astore X6 hx hby d7_26 rfl (l' := #[.val (.ref ca), .val (.int (0 : Int32)), .val (.int (3 : Int32)), .val (.ref b1), .val (.int (1 : Int32)), .val (.ref bb)]) rfl ?_
  refine g_aload X6 hx hby d7_28 rfl rfl ?_
  refine g_iload X6 hx hby d7_30 rfl ?_
  have f11 := (f7.keep K6 all0)
  have z12 := (Nat.le_trans z9 K6.1)
  refine g_static X6 hx hby hZ hown (rm_getc_3_1 l Z a0 hw [] bb kbb (own_lob c0) (own_hib c0) (own_lob c1) (own_hib c1) (own_lob c2) (own_hib c2) T6.heap n0 z12 Uad Uhi Ulo f11 Vb) w89_ w90_ w39_ w91_ (by decide) rfl (by rw [hml]; rfl) [(.ref bb), (.int (1 : Int32))] (lenOf own_pd10 rfl) rfl rfl (Nat.le_of_ble_eq_true rfl) (Nat.le_of_ble_eq_true rfl) (Nat.le_of_ble_eq_true rfl) (Nat.le_of_ble_eq_true rfl) d7_32 (fun v10 T10 L10 X10 hQ10 => ?_)
  obtain ⟨rfl, N10q, eh10⟩ := hQ10
  have N10 := Fr.app N6 N10q
  refine g_topI (T := T10) c1 (own_u16 hr1) ?_
  refine g_sipush X10 hx hby (255 : Int32) d7_35 rfl ?_
  refine g_icY X10 hx hby 54 d7_38 (tlt (hf : (255 : Int32) < c1)).2.2.1 (by decide) (by decide) ?_
  refine g_aload X10 hx hby d7_54 rfl rfl ?_
  refine g_aret X10 hx hby (t := (.array .byte)) rfl rfl rfl Bd.returns Bd.notSynchronized d7_56 eh10 (by decide) (by decide) ?_
  show (Q_cmpf_3_1 Z ca kc c0 c1 c2 h0 n0) (some (.ref bb)) _ _
  exact ⟨N10, ((((Keep.refl h0 []).ext E1).trans K2 (allS (Or.inr (Nat.le_trans (Nat.le_refl _) (Nat.le_of_eq g1))) all0)).trans K6 all0), bb, kbb, rfl, (Nat.le_trans (Nat.le_trans E1.1 K2.1) lob), Vb⟩

def Q_ini2f_3_1 (Z : State) (a : Addr) (ca : Addr) (kc : ClassId) (c0 : Int32) (c1 : Int32) (c2 : Int32) (cz : Int32) (h0 : Heap) (n0 : Nat) (v : Option Value) (h : Heap) (L : List Loc) : Prop := v = none ∧ Fr n0 L ∧ Keep h0 h [a] ∧ ∃ (b : Addr) (kb : ClassId), h0.size ≤ b ∧ Exa Z h a "java/lang/String" ∧ Fld Z h a "java/lang/String" "coder" "B" (.int (1 : Int32)) ∧ Fld Z h a "java/lang/String" "value" "[B" (.ref b) ∧ Arv Z h b kb .byte (6 : Int32) [(.int (own_lob c0)), (.int (own_hib c0)), (.int (own_lob c1)), (.int (own_hib c1)), (.int (own_lob c2)), (.int (own_hib c2))] (.int (0 : Int32))
set_option maxRecDepth 65536 in
set_option maxHeartbeats 40000000 in
theorem rm_ini2f_3_1 (l : Launch) (Z : State) (a0 : Array Value) (hw : ∀ d ∈ tables_1, d.before a0 Z = true) (ws : List Jvm.Cond) (a : Addr) (ca : Addr) (kc : ClassId) (c0 : Int32) (c1 : Int32) (c2 : Int32) (cz : Int32) (h0 : Heap) (n0 : Nat) (Z0 : n0 ≤ h0.size) (O2 : Sta Z Z.heap "java/lang/String" "COMPACT_STRINGS" "Z" (.int cz)) (P5 : ¬ cz = (0 : Int32)) (OLD : Old Z n0 h0) (Uad : Sta Z Z.heap "java/lang/StringUTF16" "$assertionsDisabled" "Z" (.int (1 : Int32))) (Uhi : Sta Z Z.heap "java/lang/StringUTF16" "HI_BYTE_SHIFT" "I" (.int (0 : Int32))) (Ulo : Sta Z Z.heap "java/lang/StringUTF16" "LO_BYTE_SHIFT" "I" (.int (8 : Int32))) (E : Exa Z h0 a "java/lang/String") (FC : Fld Z h0 a "java/lang/String" "coder" "B" (.int (0 : Int32))) (FV : Fld Z h0 a "java/lang/String" "value" "[B" .null) (VC : Arv Z h0 ca kc .char (3 : Int32) [(.int c0), (.int c1), (.int c2)] (.int (0 : Int32))) (ga : n0 ≤ a) (hc0 : ¬ (255 : Int32) < c0) (hf : (255 : Int32) < c1) (hr0 : 0 ≤ c0.toInt ∧ c0.toInt < 65536) (hr1 : 0 ≤ c1.toInt ∧ c1.toInt < 65536) (hr2 : 0 ≤ c2.toInt ∧ c2.toInt < 65536) :
    MetFree l (⟨"java/lang/String", "<init>", "([CIILjava/lang/Void;)V"⟩ : MethodName) (head1 (Jvm.Cond.code (⟨"java/lang/String", "<init>", "([CIILjava/lang/Void;)V"⟩ : MethodName) jdk_42_method_149_code 6 none :: ws) ({ frames := 4, cells := 2, slots := 9, locals := 57 } : Room)) (fun aa_ U => aa_ = #[(.ref a), (.ref ca), (.int (0 : Int32)), (.int (3 : Int32)), .null] ∧ Z.Warmed39 U.vm ∧ U.heap = h0) (fun _ _ _ _ _ => True) (fun _ U o_ U' => RetG U (Q_ini2f_3_1 Z a ca kc c0 c1 c2 cz h0 n0) 2 9 U' o_) := by
  refine MetFree.of_bodySF (plainFor_of_name own_pn1) hisR ?_
  intro p e s m args below meth c_ s₁ Bd hml0 hP hK
  obtain ⟨rfl, hZ, hh⟩ := hP
  have hx := Bd.exec
  have hby := Bd.bytes
  have hml : c_.maxLocals = 6 := hml0
  have hown : s.vm.findClass "java/lang/String" = some m.cls := findClass_of_methodNamed Bd.named
  have hnm := (name_of_methodNamed Bd.named Bd.method).1
  have X0 : Stand p l e ({ frames := 4, cells := 2, slots := 9, locals := 57 } : Room) s m #[(.ref a), (.ref ca), (.int (0 : Int32)), (.int (3 : Int32)), .null] below meth c_ s₁ [] 0 0 := Stand.of_body Bd
  have e0 : s₁.heap = h0 := by rw [← hh, Bd.state]; rfl
  have N0 := Fr.nil n0
  have w2_ := hw _ (List.mem_of_getElem? (i := 2) rfl)
  have w11_ := hw _ (List.mem_of_getElem? (i := 11) rfl)
  have w12_ := hw _ (List.mem_of_getElem? (i := 12) rfl)
  have w13_ := hw _ (List.mem_of_getElem? (i := 13) rfl)
  have w16_ := hw _ (List.mem_of_getElem? (i := 16) rfl)
  have w17_ := hw _ (List.mem_of_getElem? (i := 17) rfl)
  have w20_ := hw _ (List.mem_of_getElem? (i := 20) rfl)
  have w21_ := hw _ (List.mem_of_getElem? (i := 21) rfl)
  have w36_ := hw _ (List.mem_of_getElem? (i := 36) rfl)
  have w37_ := hw _ (List.mem_of_getElem? (i := 37) rfl)
  have w38_ := hw _ (List.mem_of_getElem? (i := 38) rfl)
  have w39_ := hw _ (List.mem_of_getElem? (i := 39) rfl)
  have w40_ := hw _ (List.mem_of_getElem? (i := 40) rfl)
  have w44_ := hw _ (List.mem_of_getElem? (i := 44) rfl)
  have w45_ := hw _ (List.mem_of_getElem? (i := 45) rfl)
  have w46_ := hw _ (List.mem_of_getElem? (i := 46) rfl)
  show Go p e below (RetG s (Q_ini2f_3_1 Z a ca kc c0 c1 c2 cz h0 n0) 2 9) (s₁.setTop (entryFrame m #[(.ref a), (.ref ca), (.int (0 : Int32)), (.int (3 : Int32)), .null] 6))
  rw [show entryFrame m #[(.ref a), (.ref ca), (.int (0 : Int32)), (.int (3 : Int32)), .null] 6 = mkF m 0 #[.val (.ref a), .val (.ref ca), .val (.int (0 : Int32)), .val (.int (3 : Int32)), .val .null, .unset] [] from by first | (simp [entryFrame, mkF, argsToLocals, Value.category]; done) | rfl]
  refine g_aloadN X0 hx hby d2_0 rfl rfl ?_
  refine g_initO X0 hx hby hZ hown w11_ w12_ w13_ e0 (by rw [hml]; rfl) (Nat.le_of_ble_eq_true rfl) (Nat.le_of_ble_eq_true rfl) d2_1 (fun T1 X1 e1 => ?_)
  refine g_iloadN X1 hx hby d2_4 rfl ?_
  refine g_ifY X1 hx hby 27 d2_5 (feq (by decide : ¬ ((3 : Int32) = (0 : Int32)))).2 (by decide) (by decide) ?_
  refine g_getS X1 hx hby hZ hown (host := "") (Or.inl w36_) Via.refl e1 (O2.ext OLD.2) d2_27 (fun T2 X2 e2 => ?_)
  refine g_ifN X2 hx hby d2_30 (feq (P5 : ¬ (cz = (0 : Int32)))).1 ?_
  refine g_aloadN X2 hx hby d2_33 rfl rfl ?_
  refine g_iloadN X2 hx hby d2_34 rfl ?_
  refine g_iloadN X2 hx hby d2_35 rfl ?_
  refine g_static X2 hx hby hZ hown (rm_cmpf_3_1 l Z a0 hw [] ca kc c0 c1 c2 h0 n0 Z0 Uad Uhi Ulo OLD VC hc0 hf hr0 hr1 hr2) w37_ w38_ w39_ w40_ (by decide) e2 (by rw [hml]; rfl) [(.ref ca), (.int (0 : Int32)), (.int (3 : Int32))] (lenOf own_pd9 rfl) rfl rfl (Nat.le_of_ble_eq_true rfl) (Nat.le_of_ble_eq_true rfl) (Nat.le_of_ble_eq_true rfl) (Nat.le_of_ble_eq_true rfl) d2_36 (fun v3 T3 L3 X3 hQ3 => ?_)
  obtain ⟨N3q, K3, bb, kbb, rfl, lob, Vb⟩ := hQ3
  have N3 := Fr.app N0 N3q
  refine g_astore X3 hx hby d2_39 rfl (l' := #[.val (.ref a), .val (.ref ca), .val (.int (0 : Int32)), .val (.int (3 : Int32)), .val .null, .val (.ref bb)]) rfl ?_
  refine g_aloadN X3 hx hby d2_41 rfl rfl ?_
  refine g_aload X3 hx hby d2_42 rfl rfl ?_
  refine g_iloadN X3 hx hby d2_44 rfl ?_
  have z5 := (Nat.le_trans Z0 K3.1)
  refine g_static X3 hx hby hZ hown (rm_cfal_3_6 l Z a0 hw [] bb kbb [(.int (own_lob c0)), (.int (own_hib c0)), (.int (own_lob c1)), (.int (own_hib c1)), (.int (own_lob c2)), (.int (own_hib c2))] T3.heap n0 z5 Vb) w44_ w45_ w39_ w46_ (by decide) rfl (by rw [hml]; rfl) [(.ref bb), (.int (3 : Int32))] (lenOf own_pd11 rfl) rfl rfl (Nat.le_of_ble_eq_true rfl) (Nat.le_of_ble_eq_true rfl) (Nat.le_of_ble_eq_true rfl) (Nat.le_of_ble_eq_true rfl) d2_45 (fun v4 T4 L4 X4 hQ4 => ?_)
  obtain ⟨rfl, N4q, eh4⟩ := hQ4
  have N4 := Fr.app N3 N4q
  have f6 := (E.keep K3)
  have f7 := (FC.keep K3 nin0)
  refine g_putFN X4 hx hby hZ hown w21_ Via.refl eh4 f7 f6 (Or.inr ⟨w17_, rfl, hnm⟩) w2_ .byte (by decide) (.int (1 : Int32)) rfl rfl N4 ga d2_48 (fun T8 h8 X8 e8 W8 F8 N8 => ?_)
  refine g_aloadN X8 hx hby d2_51 rfl rfl ?_
  refine g_aload X8 hx hby d2_52 rfl rfl ?_
  have f9 := (f6.wr W8)
  have f10 := ((FV.keep K3 nin0).other W8 (Or.inr (slot_ne (Or.inr w16_) (Or.inr w17_) (by decide) (t := (.array .byte)) (t' := .byte) (by decide) (by decide))))
  refine g_putF X8 hx hby hZ hown (host := "") (Or.inl w20_) Via.refl e8 f10 f9 (Or.inr ⟨w16_, rfl, hnm⟩) w2_ (.array .byte) (by decide) rfl rfl N8 ga d2_54 (fun T11 h11 X11 e11 W11 F11 N11 => ?_)
  have f12 := (f9.wr W11)
  have f13 := (F8.other W11 (Or.inr (slot_ne (Or.inr w17_) (Or.inr w16_) (by decide) (t := .byte) (t' := (.array .byte)) (by decide) (by decide))))
  have ne14 : bb ≠ a := (Ne.symm (Nat.ne_of_lt (Nat.lt_of_lt_of_le E.lt lob)))
  have f15 := ((Vb.other W8 ne14).other W11 ne14)
  refine g_ret X11 hx hby Bd.returns Bd.notSynchronized d2_57 e11 (by decide) (by decide) ?_
  show (Q_ini2f_3_1 Z a ca kc c0 c1 c2 cz h0 n0) none _ _
  exact ⟨rfl, N11, ((((Keep.refl h0 [a]).trans K3 all0).wr W8 (Or.inl (List.mem_of_getElem? (i := 0) rfl))).wr W11 (Or.inl (List.mem_of_getElem? (i := 0) rfl))), bb, kbb, (Nat.le_trans (Nat.le_refl _) lob), f12, f13, F11, f15⟩

def Q_ini1f_3_1 (Z : State) (a : Addr) (ca : Addr) (kc : ClassId) (c0 : Int32) (c1 : Int32) (c2 : Int32) (cz : Int32) (h0 : Heap) (n0 : Nat) (v : Option Value) (h : Heap) (L : List Loc) : Prop := v = none ∧ Fr n0 L ∧ Keep h0 h [a] ∧ ∃ (b : Addr) (kb : ClassId), h0.size ≤ b ∧ Exa Z h a "java/lang/String" ∧ Fld Z h a "java/lang/String" "coder" "B" (.int (1 : Int32)) ∧ Fld Z h a "java/lang/String" "value" "[B" (.ref b) ∧ Arv Z h b kb .byte (6 : Int32) [(.int (own_lob c0)), (.int (own_hib c0)), (.int (own_lob c1)), (.int (own_hib c1)), (.int (own_lob c2)), (.int (own_hib c2))] (.int (0 : Int32))
set_option maxRecDepth 65536 in
set_option maxHeartbeats 40000000 in
theorem rm_ini1f_3_1 (l : Launch) (Z : State) (a0 : Array Value) (hw : ∀ d ∈ tables_1, d.before a0 Z = true) (ws : List Jvm.Cond) (a : Addr) (ca : Addr) (kc : ClassId) (c0 : Int32) (c1 : Int32) (c2 : Int32) (cz : Int32) (h0 : Heap) (n0 : Nat) (Z0 : n0 ≤ h0.size) (O2 : Sta Z Z.heap "java/lang/String" "COMPACT_STRINGS" "Z" (.int cz)) (P5 : ¬ cz = (0 : Int32)) (OLD : Old Z n0 h0) (Uad : Sta Z Z.heap "java/lang/StringUTF16" "$assertionsDisabled" "Z" (.int (1 : Int32))) (Uhi : Sta Z Z.heap "java/lang/StringUTF16" "HI_BYTE_SHIFT" "I" (.int (0 : Int32))) (Ulo : Sta Z Z.heap "java/lang/StringUTF16" "LO_BYTE_SHIFT" "I" (.int (8 : Int32))) (E : Exa Z h0 a "java/lang/String") (FC : Fld Z h0 a "java/lang/String" "coder" "B" (.int (0 : Int32))) (FV : Fld Z h0 a "java/lang/String" "value" "[B" .null) (VC : Arv Z h0 ca kc .char (3 : Int32) [(.int c0), (.int c1), (.int c2)] (.int (0 : Int32))) (ga : n0 ≤ a) (hc0 : ¬ (255 : Int32) < c0) (hf : (255 : Int32) < c1) (hr0 : 0 ≤ c0.toInt ∧ c0.toInt < 65536) (hr1 : 0 ≤ c1.toInt ∧ c1.toInt < 65536) (hr2 : 0 ≤ c2.toInt ∧ c2.toInt < 65536) :
    MetFree l (⟨"java/lang/String", "<init>", "([C)V"⟩ : MethodName) (head1 (Jvm.Cond.code (⟨"java/lang/String", "<init>", "([C)V"⟩ : MethodName) jdk_42_method_3_code 2 none :: ws) ({ frames := 5, cells := 2, slots := 9, locals := 74 } : Room)) (fun aa_ U => aa_ = #[(.ref a), (.ref ca)] ∧ Z.Warmed39 U.vm ∧ U.heap = h0) (fun _ _ _ _ _ => True) (fun _ U o_ U' => RetG U (Q_ini1f_3_1 Z a ca kc c0 c1 c2 cz h0 n0) 2 9 U' o_) := by
  refine MetFree.of_bodySF (plainFor_of_name own_pn1) hisR ?_
  intro p e s m args below meth c_ s₁ Bd hml0 hP hK
  obtain ⟨rfl, hZ, hh⟩ := hP
  have hx := Bd.exec
  have hby := Bd.bytes
  have hml : c_.maxLocals = 2 := hml0
  have hown : s.vm.findClass "java/lang/String" = some m.cls := findClass_of_methodNamed Bd.named
  have hnm := (name_of_methodNamed Bd.named Bd.method).1
  have X0 : Stand p l e ({ frames := 5, cells := 2, slots := 9, locals := 74 } : Room) s m #[(.ref a), (.ref ca)] below meth c_ s₁ [] 0 0 := Stand.of_body Bd
  have e0 : s₁.heap = h0 := by rw [← hh, Bd.state]; rfl
  have N0 := Fr.nil n0
  have w3_ := hw _ (List.mem_of_getElem? (i := 3) rfl)
  have w7_ := hw _ (List.mem_of_getElem? (i := 7) rfl)
  have w8_ := hw _ (List.mem_of_getElem? (i := 8) rfl)
  have w10_ := hw _ (List.mem_of_getElem? (i := 10) rfl)
  show Go p e below (RetG s (Q_ini1f_3_1 Z a ca kc c0 c1 c2 cz h0 n0) 2 9) (s₁.setTop (entryFrame m #[(.ref a), (.ref ca)] 2))
  rw [show entryFrame m #[(.ref a), (.ref ca)] 2 = mkF m 0 #[.val (.ref a), .val (.ref ca)] [] from by first | (simp [entryFrame, mkF, argsToLocals, Value.category]; done) | rfl]
  refine g_aloadN X0 hx hby d1_0 rfl rfl ?_
  refine g_aloadN X0 hx hby d1_1 rfl rfl ?_
  refine g_iconst X0 hx hby (0 : Int32) d1_2 rfl ?_
  refine g_aloadN X0 hx hby d1_3 rfl rfl ?_
  refine g_arraylength X0 hx hby hZ e0 VC d1_4 ?_
  refine g_aconst_null X0 hx hby d1_5 ?_
  refine g_special X0 hx hby hZ hown (rm_ini2f_3_1 l Z a0 hw [] a ca kc c0 c1 c2 cz h0 n0 Z0 O2 P5 OLD Uad Uhi Ulo E FC FV VC ga hc0 hf hr0 hr1 hr2) rfl rfl w7_ w8_ w3_ w10_ (by decide) e0 (by rw [hml]; rfl) [(.ref ca), (.int (0 : Int32)), (.int (3 : Int32)), .null] (lenOf own_pd0 rfl) rfl rfl (Nat.le_of_ble_eq_true rfl) (Nat.le_of_ble_eq_true rfl) (Nat.le_of_ble_eq_true rfl) (Nat.le_of_ble_eq_true rfl) d1_6 (fun v1 T1 L1 X1 hQ1 => ?_)
  obtain ⟨rfl, N1q, R1⟩ := hQ1
  have N1 := Fr.app N0 N1q
  refine g_ret X1 hx hby Bd.returns Bd.notSynchronized d1_9 rfl (by decide) (by decide) ?_
  show (Q_ini1f_3_1 Z a ca kc c0 c1 c2 cz h0 n0) none _ _
  exact ⟨rfl, N1, R1⟩

def Q_cmp5f_3_2 (Z : State) (ca : Addr) (ba : Addr) (kc : ClassId) (kb : ClassId) (c0 : Int32) (c1 : Int32) (c2 : Int32) (h0 : Heap) (n0 : Nat) (v : Option Value) (h : Heap) (L : List Loc) : Prop := v = some (.int (2 : Int32)) ∧ Fr n0 L ∧ Keep h0 h [ba]
set_option maxRecDepth 65536 in
set_option maxHeartbeats 40000000 in
theorem rm_cmp5f_3_2 (l : Launch) (Z : State) (a0 : Array Value) (hw : ∀ d ∈ tables_1, d.before a0 Z = true) (ws : List Jvm.Cond) (ca : Addr) (ba : Addr) (kc : ClassId) (kb : ClassId) (c0 : Int32) (c1 : Int32) (c2 : Int32) (h0 : Heap) (n0 : Nat) (Z0 : n0 ≤ h0.size) (VC : Arv Z h0 ca kc .char (3 : Int32) [(.int c0), (.int c1), (.int c2)] (.int (0 : Int32))) (VB : Arv Z h0 ba kb .byte (3 : Int32) [(.int (0 : Int32)), (.int (0 : Int32)), (.int (0 : Int32))] (.int (0 : Int32))) (nab : ca ≠ ba) (gb : n0 ≤ ba) (hc0 : ¬ (255 : Int32) < c0) (hc1 : ¬ (255 : Int32) < c1) (hf : (255 : Int32) < c2) :
    MetFree l (⟨"java/lang/StringUTF16", "compress", "([CI[BII)I"⟩ : MethodName) (head1 (Jvm.Cond.code (⟨"java/lang/StringUTF16", "compress", "([CI[BII)I"⟩ : MethodName) jdk_52_method_21_code 7 (some .int) :: ws) ({ frames := 0, cells := 0, slots := 0, locals := 0 } : Room)) (fun aa_ U => aa_ = #[(.ref ca), (.int (0 : Int32)), (.ref ba), (.int (0 : Int32)), (.int (3 : Int32))] ∧ Z.Warmed39 U.vm ∧ U.heap = h0) (fun _ _ _ _ _ => True) (fun _ U o_ U' => RetG U (Q_cmp5f_3_2 Z ca ba kc kb c0 c1 c2 h0 n0) 0 0 U' o_) := by
  refine MetFree.of_bodySF (plainFor_of_name own_pn3) hisR ?_
  intro p e s m args below meth c_ s₁ Bd hml0 hP hK
  obtain ⟨rfl, hZ, hh⟩ := hP
  have hx := Bd.exec
  have hby := Bd.bytes
  have hml : c_.maxLocals = 7 := hml0
  have hown : s.vm.findClass "java/lang/StringUTF16" = some m.cls := findClass_of_methodNamed Bd.named
  have hnm := (name_of_methodNamed Bd.named Bd.method).1
  have X0 : Stand p l e ({ frames := 0, cells := 0, slots := 0, locals := 0 } : Room) s m #[(.ref ca), (.int (0 : Int32)), (.ref ba), (.int (0 : Int32)), (.int (3 : Int32))] below meth c_ s₁ [] 0 0 := Stand.of_body Bd
  have e0 : s₁.heap = h0 := by rw [← hh, Bd.state]; rfl
  have N0 := Fr.nil n0
  show Go p e below (RetG s (Q_cmp5f_3_2 Z ca ba kc kb c0 c1 c2 h0 n0) 0 0) (s₁.setTop (entryFrame m #[(.ref ca), (.int (0 : Int32)), (.ref ba), (.int (0 : Int32)), (.int (3 : Int32))] 7))
  rw [show entryFrame m #[(.ref ca), (.int (0 : Int32)), (.ref ba), (.int (0 : Int32)), (.int (3 : Int32))] 7 = mkF m 0 #[.val (.ref ca), .val (.int (0 : Int32)), .val (.ref ba), .val (.int (0 : Int32)), .val (.int (3 : Int32)), .unset, .unset] [] from by first | (simp [entryFrame, mkF, argsToLocals, Value.category]; done) | rfl]
  refine g_iconst X0 hx hby (0 : Int32) d8_0 rfl ?_
  refine g_istore X0 hx hby d8_1 (l' := #[.val (.ref ca), .val (.int (0 : Int32)), .val (.ref ba), .val (.int (0 : Int32)), .val (.int (3 : Int32)), .val (.int (0 : Int32)), .unset]) rfl ?_
  refine g_iload X0 hx hby d8_3 rfl ?_
  refine g_iload X0 hx hby d8_5 rfl ?_
  refine g_icN X0 hx hby d8_7 (tlt (by decide : (0 : Int32) < (3 : Int32))).2.1 ?_
  refine g_aloadN X0 hx hby d8_10 rfl rfl ?_
  refine g_iloadN X0 hx hby d8_11 rfl ?_
  refine g_caload X0 hx hby hZ e0 VC (.int c0) ⟨by decide, by decide⟩ rfl d8_12 ?_
  refine g_istore X0 hx hby d8_13 (l' := #[.val (.ref ca), .val (.int (0 : Int32)), .val (.ref ba), .val (.int (0 : Int32)), .val (.int (3 : Int32)), .val (.int (0 : Int32)), .val (.int c0)]) rfl ?_
  refine g_iload X0 hx hby d8_15 rfl ?_
  refine g_sipush X0 hx hby (255 : Int32) d8_17 rfl ?_
  refine g_icY X0 hx hby 26 d8_20 (flt (hc0 : ¬ ((255 : Int32) < c0))).2.2.2 (by decide) (by decide) ?_
  refine g_aloadN X0 hx hby d8_26 rfl rfl ?_
  refine g_iloadN X0 hx hby d8_27 rfl ?_
  refine g_iload X0 hx hby d8_28 rfl ?_
  refine g_i2b X0 hx hby d8_30 ?_
  refine g_bastore X0 hx hby hZ e0 VB 0 [(.int (nar .byte (c0.toInt8.toInt32))), (.int (0 : Int32)), (.int (0 : Int32))] rfl ⟨by decide, by decide⟩ rfl (Nat.le_of_ble_eq_true rfl) N0 gb d8_31 (fun T1 h1 X1 e1 W1 V1 N1 => ?_)
  refine g_iinc X1 hx hby (1 : Int32) d8_32 rfl (by decide) (l' := #[.val (.ref ca), .val (.int (1 : Int32)), .val (.ref ba), .val (.int (0 : Int32)), .val (.int (3 : Int32)), .val (.int (0 : Int32)), .val (.int c0)]) rfl ?_
  refine g_iinc X1 hx hby (1 : Int32) d8_35 rfl (by decide) (l' := #[.val (.ref ca), .val (.int (1 : Int32)), .val (.ref ba), .val (.int (1 : Int32)), .val (.int (3 : Int32)), .val (.int (0 : Int32)), .val (.int c0)]) rfl ?_
  refine g_iinc X1 hx hby (1 : Int32) d8_38 rfl (by decide) (l' := #[.val (.ref ca), .val (.int (1 : Int32)), .val (.ref ba), .val (.int (1 : Int32)), .val (.int (3 : Int32)), .val (.int (1 : Int32)), .val (.int c0)]) rfl ?_
  refine g_goto X1 hx hby 3 d8_41 (by decide) (by decide) ?_
  refine g_iload X1 hx hby d8_3 rfl ?_
  refine g_iload X1 hx hby d8_5 rfl ?_
  refine g_icN X1 hx hby d8_7 (tlt (by decide : (1 : Int32) < (3 : Int32))).2.1 ?_
  refine g_aloadN X1 hx hby d8_10 rfl rfl ?_
  refine g_iloadN X1 hx hby d8_11 rfl ?_
  have f2 := (VC.other W1 nab)
  refine g_caload X1 hx hby hZ e1 f2 (.int c1) ⟨by decide, by decide⟩ rfl d8_12 ?_
  refine g_istore X1 hx hby d8_13 (l' := #[.val (.ref ca), .val (.int (1 : Int32)), .val (.ref ba), .val (.int (1 : Int32)), .val (.int (3 : Int32)), .val (.int (1 : Int32)), .val (.int c1)]) rfl ?_
  refine g_iload X1 hx hby d8_15 rfl ?_
  refine g_sipush X1 hx hby (255 : Int32) d8_17 rfl ?_
  refine g_icY X1 hx hby 26 d8_20 (flt (hc1 : ¬ ((255 : Int32) < c1))).2.2.2 (by decide) (by decide) ?_
  refine g_aloadN X1 hx hby d8_26 rfl rfl ?_
  refine g_iloadN X1 hx hby d8_27 rfl ?_
  refine g_iload X1 hx hby d8_28 rfl ?_
  refine g_i2b X1 hx hby d8_30 ?_
  refine g_bastore X1 hx hby hZ e1 V1 1 [(.int (nar .byte (c0.toInt8.toInt32))), (.int (nar .byte (c1.toInt8.toInt32))), (.int (0 : Int32))] rfl ⟨by decide, by decide⟩ rfl (Nat.le_of_ble_eq_true rfl) N1 gb d8_31 (fun T3 h3 X3 e3 W3 V3 N3 => ?_)
  refine g_iinc X3 hx hby (2 : Int32) d8_32 rfl (by decide) (l' := #[.val (.ref ca), .val (.int (2 : Int32)), .val (.ref ba), .val (.int (1 : Int32)), .val (.int (3 : Int32)), .val (.int (1 : Int32)), .val (.int c1)]) rfl ?_
  refine g_iinc X3 hx hby (2 : Int32) d8_35 rfl (by decide) (l' := #[.val (.ref ca), .val (.int (2 : Int32)), .val (.ref ba), .val (.int (2 : Int32)), .val (.int (3 : Int32)), .val (.int (1 : Int32)), .val (.int c1)]) rfl ?_
  refine g_iinc X3 hx hby (2 : Int32) d8_38 rfl (by decide) (l' := #[.val (.ref ca), .val (.int (2 : Int32)), .val (.ref ba), .val (.int (2 : Int32)), .val (.int (3 : Int32)), .val (.int (2 : Int32)), .val (.int c1)]) rfl ?_
  refine g_goto X3 hx hby 3 d8_41 (by decide) (by decide) ?_
  refine g_iload X3 hx hby d8_3 rfl ?_
  refine g_iload X3 hx hby d8_5 rfl ?_
  refine g_icN X3 hx hby d8_7 (tlt (by decide : (2 : Int32) < (3 : Int32))).2.1 ?_
  refine g_aloadN X3 hx hby d8_10 rfl rfl ?_
  refine g_iloadN X3 hx hby d8_11 rfl ?_
  have f4 := (f2.other W3 nab)
  refine g_caload X3 hx hby hZ e3 f4 (.int c2) ⟨by decide, by decide⟩ rfl d8_12 ?_
  refine g_istore X3 hx hby d8_13 (l' := #[.val (.ref ca), .val (.int (2 : Int32)), .val (.ref ba), .val (.int (2 : Int32)), .val (.int (3 : Int32)), .val (.int (2 : Int32)), .val (.int c2)]) rfl ?_
  refine g_iload X3 hx hby d8_15 rfl ?_
  refine g_sipush X3 hx hby (255 : Int32) d8_17 rfl ?_
  refine g_icN X3 hx hby d8_20 (tlt (hf : (255 : Int32) < c2)).2.2.2 ?_
  refine g_iload X3 hx hby d8_23 rfl ?_
  refine g_iret X3 hx hby Bd.returns Bd.notSynchronized d8_25 e3 (by decide) (by decide) ?_
  show (Q_cmp5f_3_2 Z ca ba kc kb c0 c1 c2 h0 n0) (some (.int (2 : Int32))) _ _
  exact ⟨rfl, N3, (((Keep.refl h0 [ba]).wr W1 (Or.inl (List.mem_of_getElem? (i := 0) rfl))).wr W3 (Or.inl (List.mem_of_getElem? (i := 0) rfl)))⟩

def Q_cmpf_3_2 (Z : State) (ca : Addr) (kc : ClassId) (c0 : Int32) (c1 : Int32) (c2 : Int32) (h0 : Heap) (n0 : Nat) (v : Option Value) (h : Heap) (L : List Loc) : Prop := Fr n0 L ∧ Keep h0 h [] ∧ ∃ (b : Addr) (kb : ClassId), v = some (.ref b) ∧ h0.size ≤ b ∧ Arv Z h b kb .byte (6 : Int32) [(.int (own_lob c0)), (.int (own_hib c0)), (.int (own_lob c1)), (.int (own_hib c1)), (.int (own_lob c2)), (.int (own_hib c2))] (.int (0 : Int32))
set_option maxRecDepth 65536 in
set_option maxHeartbeats 40000000 in
theorem rm_cmpf_3_2 (l : Launch) (Z : State) (a0 : Array Value) (hw : ∀ d ∈ tables_1, d.before a0 Z = true) (ws : List Jvm.Cond) (ca : Addr) (kc : ClassId) (c0 : Int32) (c1 : Int32) (c2 : Int32) (h0 : Heap) (n0 : Nat) (Z0 : n0 ≤ h0.size) (Uad : Sta Z Z.heap "java/lang/StringUTF16" "$assertionsDisabled" "Z" (.int (1 : Int32))) (Uhi : Sta Z Z.heap "java/lang/StringUTF16" "HI_BYTE_SHIFT" "I" (.int (0 : Int32))) (Ulo : Sta Z Z.heap "java/lang/StringUTF16" "LO_BYTE_SHIFT" "I" (.int (8 : Int32))) (OLD : Old Z n0 h0) (VC : Arv Z h0 ca kc .char (3 : Int32) [(.int c0), (.int c1), (.int c2)] (.int (0 : Int32))) (hc0 : ¬ (255 : Int32) < c0) (hc1 : ¬ (255 : Int32) < c1) (hf : (255 : Int32) < c2) (hr0 : 0 ≤ c0.toInt ∧ c0.toInt < 65536) (hr1 : 0 ≤ c1.toInt ∧ c1.toInt < 65536) (hr2 : 0 ≤ c2.toInt ∧ c2.toInt < 65536) :
    MetFree l (⟨"java/lang/StringUTF16", "compress", "([CII)[B"⟩ : MethodName) (head1 (Jvm.Cond.code (⟨"java/lang/StringUTF16", "compress", "([CII)[B"⟩ : MethodName) jdk_52_method_16_code 6 (some (.array .byte)) :: ws) ({ frames := 3, cells := 2, slots := 9, locals := 40 } : Room)) (fun aa_ U => aa_ = #[(.ref ca), (.int (0 : Int32)), (.int (3 : Int32))] ∧ Z.Warmed39 U.vm ∧ U.heap = h0) (fun _ _ _ _ _ => True) (fun _ U o_ U' => RetG U (Q_cmpf_3_2 Z ca kc c0 c1 c2 h0 n0) 2 9 U' o_) := by
  refine MetFree.of_bodySF (plainFor_of_name own_pn3) hisR ?_
  intro p e s m args below meth c_ s₁ Bd hml0 hP hK
  obtain ⟨rfl, hZ, hh⟩ := hP
  have hx := Bd.exec
  have hby := Bd.bytes
  have hml : c_.maxLocals = 6 := hml0
  have hown : s.vm.findClass "java/lang/StringUTF16" = some m.cls := findClass_of_methodNamed Bd.named
  have hnm := (name_of_methodNamed Bd.named Bd.method).1
  have X0 : Stand p l e ({ frames := 3, cells := 2, slots := 9, locals := 40 } : Room) s m #[(.ref ca), (.int (0 : Int32)), (.int (3 : Int32))] below meth c_ s₁ [] 0 0 := Stand.of_body Bd
  have e0 : s₁.heap = h0 := by rw [← hh, Bd.state]; rfl
  have N0 := Fr.nil n0
  have w15_ := hw _ (List.mem_of_getElem? (i := 15) rfl)
  have w39_ := hw _ (List.mem_of_getElem? (i := 39) rfl)
  have w41_ := hw _ (List.mem_of_getElem? (i := 41) rfl)
  have w42_ := hw _ (List.mem_of_getElem? (i := 42) rfl)
  have w43_ := hw _ (List.mem_of_getElem? (i := 43) rfl)
  have w73_ := hw _ (List.mem_of_getElem? (i := 73) rfl)
  have w74_ := hw _ (List.mem_of_getElem? (i := 74) rfl)
  have w75_ := hw _ (List.mem_of_getElem? (i := 75) rfl)
  have w89_ := hw _ (List.mem_of_getElem? (i := 89) rfl)
  have w90_ := hw _ (List.mem_of_getElem? (i := 90) rfl)
  have w91_ := hw _ (List.mem_of_getElem? (i := 91) rfl)
  show Go p e below (RetG s (Q_cmpf_3_2 Z ca kc c0 c1 c2 h0 n0) 2 9) (s₁.setTop (entryFrame m #[(.ref ca), (.int (0 : Int32)), (.int (3 : Int32))] 6))
  rw [show entryFrame m #[(.ref ca), (.int (0 : Int32)), (.int (3 : Int32))] 6 = mkF m 0 #[.val (.ref ca), .val (.int (0 : Int32)), .val (.int (3 : Int32)), .unset, .unset, .unset] [] from by first | (simp [entryFrame, mkF, argsToLocals, Value.category]; done) | rfl]
  refine g_iloadN X0 hx hby d7_0 rfl ?_
  refine g_newarray X0 hx hby hZ .byte .byte (.int (0 : Int32)) [(.int (0 : Int32)), (.int (0 : Int32)), (.int (0 : Int32))] rfl rfl w15_ e0 (by decide) 3 rfl (by decide) (by decide) (by decide) (by decide) d7_1 (fun T1 h1 k1 b1 g1 X1 e1 E1 V1 => ?_)
  refine g_astoreN X1 hx hby d7_3 rfl (l' := #[.val (.ref ca), .val (.int (0 : Int32)), .val (.int (3 : Int32)), .val (.ref b1), .unset, .unset]) rfl ?_
  refine g_aloadN X1 hx hby d7_4 rfl rfl ?_
  refine g_iloadN X1 hx hby d7_5 rfl ?_
  refine g_aloadN X1 hx hby d7_6 rfl rfl ?_
  refine g_iconst X1 hx hby (0 : Int32) d7_7 rfl ?_
  refine g_iloadN X1 hx hby d7_8 rfl ?_
  have f3 := (VC.ext E1)
  have ne4 : ca ≠ b1 := (Nat.ne_of_lt (Nat.lt_of_lt_of_le VC.lt (Nat.le_of_eq g1)))
  have g_b1 : n0 ≤ b1 := Nat.le_trans Z0 (Nat.le_of_eq g1)
  have z5 := (Nat.le_trans Z0 E1.1)
  refine g_static X1 hx hby hZ hown (rm_cmp5f_3_2 l Z a0 hw [] ca b1 kc k1 c0 c1 c2 h1 n0 z5 f3 V1 ne4 g_b1 hc0 hc1 hf) w41_ w42_ w39_ w43_ (by decide) e1 (by rw [hml]; rfl) [(.ref ca), (.int (0 : Int32)), (.ref b1), (.int (0 : Int32)), (.int (3 : Int32))] (lenOf own_pd8 rfl) rfl rfl (Nat.le_of_ble_eq_true rfl) (Nat.le_of_ble_eq_true rfl) (Nat.le_of_ble_eq_true rfl) (Nat.le_of_ble_eq_true rfl) d7_9 (fun v2 T2 L2 X2 hQ2 => ?_)
  obtain ⟨rfl, N2q, K2⟩ := hQ2
  have N2 := Fr.app N0 N2q
  refine g_istore X2 hx hby d7_12 (l' := #[.val (.ref ca), .val (.int (0 : Int32)), .val (.int (3 : Int32)), .val (.ref b1), .val (.int (2 : Int32)), .unset]) rfl ?_
  refine g_iload X2 hx hby d7_14 rfl ?_
  refine g_iloadN X2 hx hby d7_16 rfl ?_
  refine g_icN X2 hx hby d7_17 (feq (by decide : ¬ ((2 : Int32) = (3 : Int32)))).1 ?_
  refine g_aloadN X2 hx hby d7_20 rfl rfl ?_
  refine g_iloadN X2 hx hby d7_21 rfl ?_
  refine g_iloadN X2 hx hby d7_22 rfl ?_
  have f7 := ((OLD.ext E1).keep K2 (allS g_b1 all0))
  have f8 := (f3.keep K2 (ninS ne4 nin0))
  have z9 := (Nat.le_trans z5 K2.1)
  refine g_static X2 hx hby hZ hown (rm_tob_3 l Z a0 hw [] ca kc c0 c1 c2 T2.heap n0 z9 Uad Uhi Ulo f7 f8) w73_ w74_ w39_ w75_ (by decide) rfl (by rw [hml]; rfl) [(.ref ca), (.int (0 : Int32)), (.int (3 : Int32))] (lenOf own_pd9 rfl) rfl rfl (Nat.le_of_ble_eq_true rfl) (Nat.le_of_ble_eq_true rfl) (Nat.le_of_ble_eq_true rfl) (Nat.le_of_ble_eq_true rfl) d7_23 (fun v6 T6 L6 X6 hQ6 => ?_)
  obtain ⟨N6q, K6, bb, kbb, rfl, lob, Vb⟩ := hQ6
  have N6 := Fr.app N2 N6q
  refine g_at 26 rfl rfl rfl ?_
  refine g_astore X6 hx hby d7_26 rfl (l' := #[.val (.ref ca), .val (.int (0 : Int32)), .val (.int (3 : Int32)), .val (.ref b1), .val (.int (2 : Int32)), .val (.ref bb)]) rfl ?_
  refine g_aload X6 hx hby d7_28 rfl rfl ?_
  refine g_iload X6 hx hby d7_30 rfl ?_
  have f11 := (f7.keep K6 all0)
  have z12 := (Nat.le_trans z9 K6.1)
  refine g_static X6 hx hby hZ hown (rm_getc_3_2 l Z a0 hw [] bb kbb (own_lob c0) (own_hib c0) (own_lob c1) (own_hib c1) (own_lob c2) (own_hib c2) T6.heap n0 z12 Uad Uhi Ulo f11 Vb) w89_ w90_ w39_ w91_ (by decide) rfl (by rw [hml]; rfl) [(.ref bb), (.int (2 : Int32))] (lenOf own_pd10 rfl) rfl rfl (Nat.le_of_ble_eq_true rfl) (Nat.le_of_ble_eq_true rfl) (Nat.le_of_ble_eq_true rfl) (Nat.le_of_ble_eq_true rfl) d7_32 (fun v10 T10 L10 X10 hQ10 => ?_)
  obtain ⟨rfl, N10q, eh10⟩ := hQ10
  have N10 := Fr.app N6 N10q
  refine g_topI (T := T10) c2 (own_u16 hr2) ?_
  refine g_sipush X10 hx hby (255 : Int32) d7_35 rfl ?_
  refine g_icY X10 hx hby 54 d7_38 (tlt (hf : (255 : Int32) < c2)).2.2.1 (by decide) (by decide) ?_
  refine g_aload X10 hx hby d7_54 rfl rfl ?_
  refine g_aret X10 hx hby (t := (.array .byte)) rfl rfl rfl Bd.returns Bd.notSynchronized d7_56 eh10 (by decide) (by decide) ?_
  show (Q_cmpf_3_2 Z ca kc c0 c1 c2 h0 n0) (some (.ref bb)) _ _
  exact ⟨N10, ((((Keep.refl h0 []).ext E1).trans K2 (allS (Or.inr (Nat.le_trans (Nat.le_refl _) (Nat.le_of_eq g1))) all0)).trans K6 all0), bb, kbb, rfl, (Nat.le_trans (Nat.le_trans E1.1 K2.1) lob), Vb⟩

def Q_ini2f_3_2 (Z : State) (a : Addr) (ca : Addr) (kc : ClassId) (c0 : Int32) (c1 : Int32) (c2 : Int32) (cz : Int32) (h0 : Heap) (n0 : Nat) (v : Option Value) (h : Heap) (L : List Loc) : Prop := v = none ∧ Fr n0 L ∧ Keep h0 h [a] ∧ ∃ (b : Addr) (kb : ClassId), h0.size ≤ b ∧ Exa Z h a "java/lang/String" ∧ Fld Z h a "java/lang/String" "coder" "B" (.int (1 : Int32)) ∧ Fld Z h a "java/lang/String" "value" "[B" (.ref b) ∧ Arv Z h b kb .byte (6 : Int32) [(.int (own_lob c0)), (.int (own_hib c0)), (.int (own_lob c1)), (.int (own_hib c1)), (.int (own_lob c2)), (.int (own_hib c2))] (.int (0 : Int32))
set_option maxRecDepth 65536 in
set_option maxHeartbeats 40000000 in
theorem rm_ini2f_3_2 (l : Launch) (Z : State) (a0 : Array Value) (hw : ∀ d ∈ tables_1, d.before a0 Z = true) (ws : List Jvm.Cond) (a : Addr) (ca : Addr) (kc : ClassId) (c0 : Int32) (c1 : Int32) (c2 : Int32) (cz : Int32) (h0 : Heap) (n0 : Nat) (Z0 : n0 ≤ h0.size) (O2 : Sta Z Z.heap "java/lang/String" "COMPACT_STRINGS" "Z" (.int cz)) (P5 : ¬ cz = (0 : Int32)) (OLD : Old Z n0 h0) (Uad : Sta Z Z.heap "java/lang/StringUTF16" "$assertionsDisabled" "Z" (.int (1 : Int32))) (Uhi : Sta Z Z.heap "java/lang/StringUTF16" "HI_BYTE_SHIFT" "I" (.int (0 : Int32))) (Ulo : Sta Z Z.heap "java/lang/StringUTF16" "LO_BYTE_SHIFT" "I" (.int (8 : Int32))) (E : Exa Z h0 a "java/lang/String") (FC : Fld Z h0 a "java/lang/String" "coder" "B" (.int (0 : Int32))) (FV : Fld Z h0 a "java/lang/String" "value" "[B" .null) (VC : Arv Z h0 ca kc .char (3 : Int32) [(.int c0), (.int c1), (.int c2)] (.int (0 : Int32))) (ga : n0 ≤ a) (hc0 : ¬ (255 : Int32) < c0) (hc1 : ¬ (255 : Int32) < c1) (hf : (255 : Int32) < c2) (hr0 : 0 ≤ c0.toInt ∧ c0.toInt < 65536) (hr1 : 0 ≤ c1.toInt ∧ c1.toInt < 65536) (hr2 : 0 ≤ c2.toInt ∧ c2.toInt < 65536) :
    MetFree l (⟨"java/lang/String", "<init>", "([CIILjava/lang/Void;)V"⟩ : MethodName) (head1 (Jvm.Cond.code (⟨"java/lang/String", "<init>", "([CIILjava/lang/Void;)V"⟩ : MethodName) jdk_42_method_149_code 6 none :: ws) ({ frames := 4, cells := 2, slots := 9, locals := 57 } : Room)) (fun aa_ U => aa_ = #[(.ref a), (.ref ca), (.int (0 : Int32)), (.int (3 : Int32)), .null] ∧ Z.Warmed39 U.vm ∧ U.heap = h0) (fun _ _ _ _ _ => True) (fun _ U o_ U' => RetG U (Q_ini2f_3_2 Z a ca kc c0 c1 c2 cz h0 n0) 2 9 U' o_) := by
  refine MetFree.of_bodySF (plainFor_of_name own_pn1) hisR ?_
  intro p e s m args below meth c_ s₁ Bd hml0 hP hK
  obtain ⟨rfl, hZ, hh⟩ := hP
  have hx := Bd.exec
  have hby := Bd.bytes
  have hml : c_.maxLocals = 6 := hml0
  have hown : s.vm.findClass "java/lang/String" = some m.cls := findClass_of_methodNamed Bd.named
  have hnm := (name_of_methodNamed Bd.named Bd.method).1
  have X0 : Stand p l e ({ frames := 4, cells := 2, slots := 9, locals := 57 } : Room) s m #[(.ref a), (.ref ca), (.int (0 : Int32)), (.int (3 : Int32)), .null] below meth c_ s₁ [] 0 0 := Stand.of_body Bd
  have e0 : s₁.heap = h0 := by rw [← hh, Bd.state]; rfl
  have N0 := Fr.nil n0
  have w2_ := hw _ (List.mem_of_getElem? (i := 2) rfl)
  have w11_ := hw _ (List.mem_of_getElem? (i := 11) rfl)
  have w12_ := hw _ (List.mem_of_getElem? (i := 12) rfl)
  have w13_ := hw _ (List.mem_of_getElem? (i := 13) rfl)
  have w16_ := hw _ (List.mem_of_getElem? (i := 16) rfl)
  have w17_ := hw _ (List.mem_of_getElem? (i := 17) rfl)
  have w20_ := hw _ (List.mem_of_getElem? (i := 20) rfl)
  have w21_ := hw _ (List.mem_of_getElem? (i := 21) rfl)
  have w36_ := hw _ (List.mem_of_getElem? (i := 36) rfl)
  have w37_ := hw _ (List.mem_of_getElem? (i := 37) rfl)
  have w38_ := hw _ (List.mem_of_getElem? (i := 38) rfl)
  have w39_ := hw _ (List.mem_of_getElem? (i := 39) rfl)
  have w40_ := hw _ (List.mem_of_getElem? (i := 40) rfl)
  have w44_ := hw _ (List.mem_of_getElem? (i := 44) rfl)
  have w45_ := hw _ (List.mem_of_getElem? (i := 45) rfl)
  have w46_ := hw _ (List.mem_of_getElem? (i := 46) rfl)
  show Go p e below (RetG s (Q_ini2f_3_2 Z a ca kc c0 c1 c2 cz h0 n0) 2 9) (s₁.setTop (entryFrame m #[(.ref a), (.ref ca), (.int (0 : Int32)), (.int (3 : Int32)), .null] 6))
  rw [show entryFrame m #[(.ref a), (.ref ca), (.int (0 : Int32)), (.int (3 : Int32)), .null] 6 = mkF m 0 #[.val (.ref a), .val (.ref ca), .val (.int (0 : Int32)), .val (.int (3 : Int32)), .val .null, .unset] [] from by first | (simp [entryFrame, mkF, argsToLocals, Value.category]; done) | rfl]
  refine g_aloadN X0 hx hby d2_0 rfl rfl ?_
  refine g_initO X0 hx hby hZ hown w11_ w12_ w13_ e0 (by rw [hml]; rfl) (Nat.le_of_ble_eq_true rfl) (Nat.le_of_ble_eq_true rfl) d2_1 (fun T1 X1 e1 => ?_)
  refine g_iloadN X1 hx hby d2_4 rfl ?_
  refine g_ifY X1 hx hby 27 d2_5 (feq (by decide : ¬ ((3 : Int32) = (0 : Int32)))).2 (by decide) (by decide) ?_
  refine g_getS X1 hx hby hZ hown (host := "") (Or.inl w36_) Via.refl e1 (O2.ext OLD.2) d2_27 (fun T2 X2 e2 => ?_)
  refine g_ifN X2 hx hby d2_30 (feq (P5 : ¬ (cz = (0 : Int32)))).1 ?_
  refine g_aloadN X2 hx hby d2_33 rfl rfl ?_
  refine g_iloadN X2 hx hby d2_34 rfl ?_
  refine g_iloadN X2 hx hby d2_35 rfl ?_
  refine g_static X2 hx hby hZ hown (rm_cmpf_3_2 l Z a0 hw [] ca kc c0 c1 c2 h0 n0 Z0 Uad Uhi Ulo OLD VC hc0 hc1 hf hr0 hr1 hr2) w37_ w38_ w39_ w40_ (by decide) e2 (by rw [hml]; rfl) [(.ref ca), (.int (0 : Int32)), (.int (3 : Int32))] (lenOf own_pd9 rfl) rfl rfl (Nat.le_of_ble_eq_true rfl) (Nat.le_of_ble_eq_true rfl) (Nat.le_of_ble_eq_true rfl) (Nat.le_of_ble_eq_true rfl) d2_36 (fun v3 T3 L3 X3 hQ3 => ?_)
  obtain ⟨N3q, K3, bb, kbb, rfl, lob, Vb⟩ := hQ3
  have N3 := Fr.app N0 N3q
  refine g_astore X3 hx hby d2_39 rfl (l' := #[.val (.ref a), .val (.ref ca), .val (.int (0 : Int32)), .val (.int (3 : Int32)), .val .null, .val (.ref bb)]) rfl ?_
  refine g_aloadN X3 hx hby d2_41 rfl rfl ?_
  refine g_aload X3 hx hby d2_42 rfl rfl ?_
  refine g_iloadN X3 hx hby d2_44 rfl ?_
  have z5 := (Nat.le_trans Z0 K3.1)
  refine g_static X3 hx hby hZ hown (rm_cfal_3_6 l Z a0 hw [] bb kbb [(.int (own_lob c0)), (.int (own_hib c0)), (.int (own_lob c1)), (.int (own_hib c1)), (.int (own_lob c2)), (.int (own_hib c2))] T3.heap n0 z5 Vb) w44_ w45_ w39_ w46_ (by decide) rfl (by rw [hml]; rfl) [(.ref bb), (.int (3 : Int32))] (lenOf own_pd11 rfl) rfl rfl (Nat.le_of_ble_eq_true rfl) (Nat.le_of_ble_eq_true rfl) (Nat.le_of_ble_eq_true rfl) (Nat.le_of_ble_eq_true rfl) d2_45 (fun v4 T4 L4 X4 hQ4 => ?_)
  obtain ⟨rfl, N4q, eh4⟩ := hQ4
  have N4 := Fr.app N3 N4q
  have f6 := (E.keep K3)
  have f7 := (FC.keep K3 nin0)
  refine g_putFN X4 hx hby hZ hown w21_ Via.refl eh4 f7 f6 (Or.inr ⟨w17_, rfl, hnm⟩) w2_ .byte (by decide) (.int (1 : Int32)) rfl rfl N4 ga d2_48 (fun T8 h8 X8 e8 W8 F8 N8 => ?_)
  refine g_aloadN X8 hx hby d2_51 rfl rfl ?_
  refine g_aload X8 hx hby d2_52 rfl rfl ?_
  have f9 := (f6.wr W8)
  have f10 := ((FV.keep K3 nin0).other W8 (Or.inr (slot_ne (Or.inr w16_) (Or.inr w17_) (by decide) (t := (.array .byte)) (t' := .byte) (by decide) (by decide))))
  refine g_putF X8 hx hby hZ hown (host := "") (Or.inl w20_) Via.refl e8 f10 f9 (Or.inr ⟨w16_, rfl, hnm⟩) w2_ (.array .byte) (by decide) rfl rfl N8 ga d2_54 (fun T11 h11 X11 e11 W11 F11 N11 => ?_)
  have f12 := (f9.wr W11)
  have f13 := (F8.other W11 (Or.inr (slot_ne (Or.inr w17_) (Or.inr w16_) (by decide) (t := .byte) (t' := (.array .byte)) (by decide) (by decide))))
  have ne14 : bb ≠ a := (Ne.symm (Nat.ne_of_lt (Nat.lt_of_lt_of_le E.lt lob)))
  have f15 := ((Vb.other W8 ne14).other W11 ne14)
  refine g_ret X11 hx hby Bd.returns Bd.notSynchronized d2_57 e11 (by decide) (by decide) ?_
  show (Q_ini2f_3_2 Z a ca kc c0 c1 c2 cz h0 n0) none _ _
  exact ⟨rfl, N11, ((((Keep.refl h0 [a]).trans K3 all0).wr W8 (Or.inl (List.mem_of_getElem? (i := 0) rfl))).wr W11 (Or.inl (List.mem_of_getElem? (i := 0) rfl))), bb, kbb, (Nat.le_trans (Nat.le_refl _) lob), f12, f13, F11, f15⟩

def Q_ini1f_3_2 (Z : State) (a : Addr) (ca : Addr) (kc : ClassId) (c0 : Int32) (c1 : Int32) (c2 : Int32) (cz : Int32) (h0 : Heap) (n0 : Nat) (v : Option Value) (h : Heap) (L : List Loc) : Prop := v = none ∧ Fr n0 L ∧ Keep h0 h [a] ∧ ∃ (b : Addr) (kb : ClassId), h0.size ≤ b ∧ Exa Z h a "java/lang/String" ∧ Fld Z h a "java/lang/String" "coder" "B" (.int (1 : Int32)) ∧ Fld Z h a "java/lang/String" "value" "[B" (.ref b) ∧ Arv Z h b kb .byte (6 : Int32) [(.int (own_lob c0)), (.int (own_hib c0)), (.int (own_lob c1)), (.int (own_hib c1)), (.int (own_lob c2)), (.int (own_hib c2))] (.int (0 : Int32))
set_option maxRecDepth 65536 in
set_option maxHeartbeats 40000000 in
theorem rm_ini1f_3_2 (l : Launch) (Z : State) (a0 : Array Value) (hw : ∀ d ∈ tables_1, d.before a0 Z = true) (ws : List Jvm.Cond) (a : Addr) (ca : Addr) (kc : ClassId) (c0 : Int32) (c1 : Int32) (c2 : Int32) (cz : Int32) (h0 : Heap) (n0 : Nat) (Z0 : n0 ≤ h0.size) (O2 : Sta Z Z.heap "java/lang/String" "COMPACT_STRINGS" "Z" (.int cz)) (P5 : ¬ cz = (0 : Int32)) (OLD : Old Z n0 h0) (Uad : Sta Z Z.heap "java/lang/StringUTF16" "$assertionsDisabled" "Z" (.int (1 : Int32))) (Uhi : Sta Z Z.heap "java/lang/StringUTF16" "HI_BYTE_SHIFT" "I" (.int (0 : Int32))) (Ulo : Sta Z Z.heap "java/lang/StringUTF16" "LO_BYTE_SHIFT" "I" (.int (8 : Int32))) (E : Exa Z h0 a "java/lang/String") (FC : Fld Z h0 a "java/lang/String" "coder" "B" (.int (0 : Int32))) (FV : Fld Z h0 a "java/lang/String" "value" "[B" .null) (VC : Arv Z h0 ca kc .char (3 : Int32) [(.int c0), (.int c1), (.int c2)] (.int (0 : Int32))) (ga : n0 ≤ a) (hc0 : ¬ (255 : Int32) < c0) (hc1 : ¬ (255 : Int32) < c1) (hf : (255 : Int32) < c2) (hr0 : 0 ≤ c0.toInt ∧ c0.toInt < 65536) (hr1 : 0 ≤ c1.toInt ∧ c1.toInt < 65536) (hr2 : 0 ≤ c2.toInt ∧ c2.toInt < 65536) :
    MetFree l (⟨"java/lang/String", "<init>", "([C)V"⟩ : MethodName) (head1 (Jvm.Cond.code (⟨"java/lang/String", "<init>", "([C)V"⟩ : MethodName) jdk_42_method_3_code 2 none :: ws) ({ frames := 5, cells := 2, slots := 9, locals := 74 } : Room)) (fun aa_ U => aa_ = #[(.ref a), (.ref ca)] ∧ Z.Warmed39 U.vm ∧ U.heap = h0) (fun _ _ _ _ _ => True) (fun _ U o_ U' => RetG U (Q_ini1f_3_2 Z a ca kc c0 c1 c2 cz h0 n0) 2 9 U' o_) := by
  refine MetFree.of_bodySF (plainFor_of_name own_pn1) hisR ?_
  intro p e s m args below meth c_ s₁ Bd hml0 hP hK
  obtain ⟨rfl, hZ, hh⟩ := hP
  have hx := Bd.exec
  have hby := Bd.bytes
  have hml : c_.maxLocals = 2 := hml0
  have hown : s.vm.findClass "java/lang/String" = some m.cls := findClass_of_methodNamed Bd.named
  have hnm := (name_of_methodNamed Bd.named Bd.method).1
  have X0 : Stand p l e ({ frames := 5, cells := 2, slots := 9, locals := 74 } : Room) s m #[(.ref a), (.ref ca)] below meth c_ s₁ [] 0 0 := Stand.of_body Bd
  have e0 : s₁.heap = h0 := by rw [← hh, Bd.state]; rfl
  have N0 := Fr.nil n0
  have w3_ := hw _ (List.mem_of_getElem? (i := 3) rfl)
  have w7_ := hw _ (List.mem_of_getElem? (i := 7) rfl)
  have w8_ := hw _ (List.mem_of_getElem? (i := 8) rfl)
  have w10_ := hw _ (List.mem_of_getElem? (i := 10) rfl)
  show Go p e below (RetG s (Q_ini1f_3_2 Z a ca kc c0 c1 c2 cz h0 n0) 2 9) (s₁.setTop (entryFrame m #[(.ref a), (.ref ca)] 2))
  rw [show entryFrame m #[(.ref a), (.ref ca)] 2 = mkF m 0 #[.val (.ref a), .val (.ref ca)] [] from by first | (simp [entryFrame, mkF, argsToLocals, Value.category]; done) | rfl]
  refine g_aloadN X0 hx hby d1_0 rfl rfl ?_
  refine g_aloadN X0 hx hby d1_1 rfl rfl ?_
  refine g_iconst X0 hx hby (0 : Int32) d1_2 rfl ?_
  refine g_aloadN X0 hx hby d1_3 rfl rfl ?_
  refine g_arraylength X0 hx hby hZ e0 VC d1_4 ?_
  refine g_aconst_null X0 hx hby d1_5 ?_
  refine g_special X0 hx hby hZ hown (rm_ini2f_3_2 l Z a0 hw [] a ca kc c0 c1 c2 cz h0 n0 Z0 O2 P5 OLD Uad Uhi Ulo E FC FV VC ga hc0 hc1 hf hr0 hr1 hr2) rfl rfl w7_ w8_ w3_ w10_ (by decide) e0 (by rw [hml]; rfl) [(.ref ca), (.int (0 : Int32)), (.int (3 : Int32)), .null] (lenOf own_pd0 rfl) rfl rfl (Nat.le_of_ble_eq_true rfl) (Nat.le_of_ble_eq_true rfl) (Nat.le_of_ble_eq_true rfl) (Nat.le_of_ble_eq_true rfl) d1_6 (fun v1 T1 L1 X1 hQ1 => ?_)
  obtain ⟨rfl, N1q, R1⟩ := hQ1
  have N1 := Fr.app N0 N1q
  refine g_ret X1 hx hby Bd.returns Bd.notSynchronized d1_9 rfl (by decide) (by decide) ?_
  show (Q_ini1f_3_2 Z a ca kc c0 c1 c2 cz h0 n0) none _ _
  exact ⟨rfl, N1, R1⟩

def Q_cmp5_3 (Z : State) (ca : Addr) (ba : Addr) (kc : ClassId) (kb : ClassId) (c0 : Int32) (c1 : Int32) (c2 : Int32) (h0 : Heap) (n0 : Nat) (v : Option Value) (h : Heap) (L : List Loc) : Prop := v = some (.int (3 : Int32)) ∧ Fr n0 L ∧ Keep h0 h [ba] ∧ Arv Z h ba kb .byte (3 : Int32) [(.int (nar .byte (c0.toInt8.toInt32))), (.int (nar .byte (c1.toInt8.toInt32))), (.int (nar .byte (c2.toInt8.toInt32)))] (.int (0 : Int32))
set_option maxRecDepth 65536 in
set_option maxHeartbeats 40000000 in
theorem rm_cmp5_3 (l : Launch) (Z : State) (a0 : Array Value) (hw : ∀ d ∈ tables_1, d.before a0 Z = true) (ws : List Jvm.Cond) (ca : Addr) (ba : Addr) (kc : ClassId) (kb : ClassId) (c0 : Int32) (c1 : Int32) (c2 : Int32) (h0 : Heap) (n0 : Nat) (Z0 : n0 ≤ h0.size) (VC : Arv Z h0 ca kc .char (3 : Int32) [(.int c0), (.int c1), (.int c2)] (.int (0 : Int32))) (VB : Arv Z h0 ba kb .byte (3 : Int32) [(.int (0 : Int32)), (.int (0 : Int32)), (.int (0 : Int32))] (.int (0 : Int32))) (nab : ca ≠ ba) (gb : n0 ≤ ba) (hc0 : ¬ (255 : Int32) < c0) (hc1 : ¬ (255 : Int32) < c1) (hc2 : ¬ (255 : Int32) < c2) :
    MetFree l (⟨"java/lang/StringUTF16", "compress", "([CI[BII)I"⟩ : MethodName) (head1 (Jvm.Cond.code (⟨"java/lang/StringUTF16", "compress", "([CI[BII)I"⟩ : MethodName) jdk_52_method_21_code 7 (some .int) :: ws) ({ frames := 0, cells := 0, slots := 0, locals := 0 } : Room)) (fun aa_ U => aa_ = #[(.ref ca), (.int (0 : Int32)), (.ref ba), (.int (0 : Int32)), (.int (3 : Int32))] ∧ Z.Warmed39 U.vm ∧ U.heap = h0) (fun _ _ _ _ _ => True) (fun _ U o_ U' => RetG U (Q_cmp5_3 Z ca ba kc kb c0 c1 c2 h0 n0) 0 0 U' o_) := by
  refine MetFree.of_bodySF (plainFor_of_name own_pn3) hisR ?_
  intro p e s m args below meth c_ s₁ Bd hml0 hP hK
  obtain ⟨rfl, hZ, hh⟩ := hP
  have hx := Bd.exec
  have hby := Bd.bytes
  have hml : c_.maxLocals = 7 := hml0
  have hown : s.vm.findClass "java/lang/StringUTF16" = some m.cls := findClass_of_methodNamed Bd.named
  have hnm := (name_of_methodNamed Bd.named Bd.method).1
  have X0 : Stand p l e ({ frames := 0, cells := 0, slots := 0, locals := 0 } : Room) s m #[(.ref ca), (.int (0 : Int32)), (.ref ba), (.int (0 : Int32)), (.int (3 : Int32))] below meth c_ s₁ [] 0 0 := Stand.of_body Bd
  have e0 : s₁.heap = h0 := by rw [← hh, Bd.state]; rfl
  have N0 := Fr.nil n0
  show Go p e below (RetG s (Q_cmp5_3 Z ca ba kc kb c0 c1 c2 h0 n0) 0 0) (s₁.setTop (entryFrame m #[(.ref ca), (.int (0 : Int32)), (.ref ba), (.int (0 : Int32)), (.int (3 : Int32))] 7))
  rw [show entryFrame m #[(.ref ca), (.int (0 : Int32)), (.ref ba), (.int (0 : Int32)), (.int (3 : Int32))] 7 = mkF m 0 #[.val (.ref ca), .val (.int (0 : Int32)), .val (.ref ba), .val (.int (0 : Int32)), .val (.int (3 : Int32)), .unset, .unset] [] from by first | (simp [entryFrame, mkF, argsToLocals, Value.category]; done) | rfl]
  refine g_iconst X0 hx hby (0 : Int32) d8_0 rfl ?_
  refine g_istore X0 hx hby d8_1 (l' := #[.val (.ref ca), .val (.int (0 : Int32)), .val (.ref ba), .val (.int (0 : Int32)), .val (.int (3 : Int32)), .val (.int (0 : Int32)), .unset]) rfl ?_
  refine g_iload X0 hx hby d8_3 rfl ?_
  refine g_iload X0 hx hby d8_5 rfl ?_
  refine g_icN X0 hx hby d8_7 (tlt (by decide : (0 : Int32) < (3 : Int32))).2.1 ?_
  refine g_aloadN X0 hx hby d8_10 rfl rfl ?_
  refine g_iloadN X0 hx hby d8_11 rfl ?_
  refine g_caload X0 hx hby hZ e0 VC (.int c0) ⟨by decide, by decide⟩ rfl d8_12 ?_
  refine g_istore X0 hx hby d8_13 (l' := #[.val (.ref ca), .val (.int (0 : Int32)), .val (.ref ba), .val (.int (0 : Int32)), .val (.int (3 : Int32)), .val (.int (0 : Int32)), .val (.int c0)]) rfl ?_
  refine g_iload X0 hx hby d8_15 rfl ?_
  refine g_sipush X0 hx hby (255 : Int32) d8_17 rfl ?_
  refine g_icY X0 hx hby 26 d8_20 (flt (hc0 : ¬ ((255 : Int32) < c0))).2.2.2 (by decide) (by decide) ?_
  refine g_aloadN X0 hx hby d8_26 rfl rfl ?_
  refine g_iloadN X0 hx hby d8_27 rfl ?_
  refine g_iload X0 hx hby d8_28 rfl ?_
  refine g_i2b X0 hx hby d8_30 ?_
  refine g_bastore X0 hx hby hZ e0 VB 0 [(.int (nar .byte (c0.toInt8.toInt32))), (.int (0 : Int32)), (.int (0 : Int32))] rfl ⟨by decide, by decide⟩ rfl (Nat.le_of_ble_eq_true rfl) N0 gb d8_31 (fun T1 h1 X1 e1 W1 V1 N1 => ?_)
  refine g_iinc X1 hx hby (1 : Int32) d8_32 rfl (by decide) (l' := #[.val (.ref ca), .val (.int (1 : Int32)), .val (.ref ba), .val (.int (0 : Int32)), .val (.int (3 : Int32)), .val (.int (0 : Int32)), .val (.int c0)]) rfl ?_
  refine g_iinc X1 hx hby (1 : Int32) d8_35 rfl (by decide) (l' := #[.val (.ref ca), .val (.int (1 : Int32)), .val (.ref ba), .val (.int (1 : Int32)), .val (.int (3 : Int32)), .val (.int (0 : Int32)), .val (.int c0)]) rfl ?_
  refine g_iinc X1 hx hby (1 : Int32) d8_38 rfl (by decide) (l' := #[.val (.ref ca), .val (.int (1 : Int32)), .val (.ref ba), .val (.int (1 : Int32)), .val (.int (3 : Int32)), .val (.int (1 : Int32)), .val (.int c0)]) rfl ?_
  refine g_goto X1 hx hby 3 d8_41 (by decide) (by decide) ?_
  refine g_iload X1 hx hby d8_3 rfl ?_
  refine g_iload X1 hx hby d8_5 rfl ?_
  refine g_icN X1 hx hby d8_7 (tlt (by decide : (1 : Int32) < (3 : Int32))).2.1 ?_
  refine g_aloadN X1 hx hby d8_10 rfl rfl ?_
  refine g_iloadN X1 hx hby d8_11 rfl ?_
  have f2 := (VC.other W1 nab)
  refine g_caload X1 hx hby hZ e1 f2 (.int c1) ⟨by decide, by decide⟩ rfl d8_12 ?_
  refine g_istore X1 hx hby d8_13 (l' := #[.val (.ref ca), .val (.int (1 : Int32)), .val (.ref ba), .val (.int (1 : Int32)), .val (.int (3 : Int32)), .val (.int (1 : Int32)), .val (.int c1)]) rfl ?_
  refine g_iload X1 hx hby d8_15 rfl ?_
  refine g_sipush X1 hx hby (255 : Int32) d8_17 rfl ?_
  refine g_icY X1 hx hby 26 d8_20 (flt (hc1 : ¬ ((255 : Int32) < c1))).2.2.2 (by decide) (by decide) ?_
  refine g_aloadN X1 hx hby d8_26 rfl rfl ?_
  refine g_iloadN X1 hx hby d8_27 rfl ?_
  refine g_iload X1 hx hby d8_28 rfl ?_
  refine g_i2b X1 hx hby d8_30 ?_
  refine g_bastore X1 hx hby hZ e1 V1 1 [(.int (nar .byte (c0.toInt8.toInt32))), (.int (nar .byte (c1.toInt8.toInt32))), (.int (0 : Int32))] rfl ⟨by decide, by decide⟩ rfl (Nat.le_of_ble_eq_true rfl) N1 gb d8_31 (fun T3 h3 X3 e3 W3 V3 N3 => ?_)
  refine g_iinc X3 hx hby (2 : Int32) d8_32 rfl (by decide) (l' := #[.val (.ref ca), .val (.int (2 : Int32)), .val (.ref ba), .val (.int (1 : Int32)), .val (.int (3 : Int32)), .val (.int (1 : Int32)), .val (.int c1)]) rfl ?_
  refine g_iinc X3 hx hby (2 : Int32) d8_35 rfl (by decide) (l' := #[.val (.ref ca), .val (.int (2 : Int32)), .val (.ref ba), .val (.int (2 : Int32)), .val (.int (3 : Int32)), .val (.int (1 : Int32)), .val (.int c1)]) rfl ?_
  refine g_iinc X3 hx hby (2 : Int32) d8_38 rfl (by decide) (l' := #[.val (.ref ca), .val (.int (2 : Int32)), .val (.ref ba), .val (.int (2 : Int32)), .val (.int (3 : Int32)), .val (.int (2 : Int32)), .val (.int c1)]) rfl ?_
  refine g_goto X3 hx hby 3 d8_41 (by decide) (by decide) ?_
  refine g_iload X3 hx hby d8_3 rfl ?_
  refine g_iload X3 hx hby d8_5 rfl ?_
  refine g_icN X3 hx hby d8_7 (tlt (by decide : (2 : Int32) < (3 : Int32))).2.1 ?_
  refine g_aloadN X3 hx hby d8_10 rfl rfl ?_
  refine g_iloadN X3 hx hby d8_11 rfl ?_
  have f4 := (f2.other W3 nab)
  refine g_caload X3 hx hby hZ e3 f4 (.int c2) ⟨by decide, by decide⟩ rfl d8_12 ?_
  refine g_istore X3 hx hby d8_13 (l' := #[.val (.ref ca), .val (.int (2 : Int32)), .val (.ref ba), .val (.int (2 : Int32)), .val (.int (3 : Int32)), .val (.int (2 : Int32)), .val (.int c2)]) rfl ?_
  refine g_iload X3 hx hby d8_15 rfl ?_
  refine g_sipush X3 hx hby (255 : Int32) d8_17 rfl ?_
  refine g_icY X3 hx hby 26 d8_20 (flt (hc2 : ¬ ((255 : Int32) < c2))).2.2.2 (by decide) (by decide) ?_
  refine g_aloadN X3 hx hby d8_26 rfl rfl ?_
  refine g_iloadN X3 hx hby d8_27 rfl ?_
  refine g_iload X3 hx hby d8_28 rfl ?_
  refine g_i2b X3 hx hby d8_30 ?_
  refine g_bastore X3 hx hby hZ e3 V3 2 [(.int (nar .byte (c0.toInt8.toInt32))), (.int (nar .byte (c1.toInt8.toInt32))), (.int (nar .byte (c2.toInt8.toInt32)))] rfl ⟨by decide, by decide⟩ rfl (Nat.le_of_ble_eq_true rfl) N3 gb d8_31 (fun T5 h5 X5 e5 W5 V5 N5 => ?_)
  refine g_iinc X5 hx hby (3 : Int32) d8_32 rfl (by decide) (l' := #[.val (.ref ca), .val (.int (3 : Int32)), .val (.ref ba), .val (.int (2 : Int32)), .val (.int (3 : Int32)), .val (.int (2 : Int32)), .val (.int c2)]) rfl ?_
  refine g_iinc X5 hx hby (3 : Int32) d8_35 rfl (by decide) (l' := #[.val (.ref ca), .val (.int (3 : Int32)), .val (.ref ba), .val (.int (3 : Int32)), .val (.int (3 : Int32)), .val (.int (2 : Int32)), .val (.int c2)]) rfl ?_
  refine g_iinc X5 hx hby (3 : Int32) d8_38 rfl (by decide) (l' := #[.val (.ref ca), .val (.int (3 : Int32)), .val (.ref ba), .val (.int (3 : Int32)), .val (.int (3 : Int32)), .val (.int (3 : Int32)), .val (.int c2)]) rfl ?_
  refine g_goto X5 hx hby 3 d8_41 (by decide) (by decide) ?_
  refine g_iload X5 hx hby d8_3 rfl ?_
  refine g_iload X5 hx hby d8_5 rfl ?_
  refine g_icY X5 hx hby 44 d8_7 (flt (by decide : ¬ ((3 : Int32) < (3 : Int32)))).2.1 (by decide) (by decide) ?_
  refine g_iload X5 hx hby d8_44 rfl ?_
  refine g_iret X5 hx hby Bd.returns Bd.notSynchronized d8_46 e5 (by decide) (by decide) ?_
  show (Q_cmp5_3 Z ca ba kc kb c0 c1 c2 h0 n0) (some (.int (3 : Int32))) _ _
  exact ⟨rfl, N5, ((((Keep.refl h0 [ba]).wr W1 (Or.inl (List.mem_of_getElem? (i := 0) rfl))).wr W3 (Or.inl (List.mem_of_getElem? (i := 0) rfl))).wr W5 (Or.inl (List.mem_of_getElem? (i := 0) rfl))), V5⟩

def Q_cmp_3 (Z : State) (ca : Addr) (kc : ClassId) (c0 : Int32) (c1 : Int32) (c2 : Int32) (h0 : Heap) (n0 : Nat) (v : Option Value) (h : Heap) (L : List Loc) : Prop := Fr n0 L ∧ Keep h0 h [] ∧ ∃ (b : Addr) (kb : ClassId), v = some (.ref b) ∧ h0.size ≤ b ∧ Arv Z h b kb .byte (3 : Int32) [(.int (nar .byte (c0.toInt8.toInt32))), (.int (nar .byte (c1.toInt8.toInt32))), (.int (nar .byte (c2.toInt8.toInt32)))] (.int (0 : Int32))
set_option maxRecDepth 65536 in
set_option maxHeartbeats 40000000 in
theorem rm_cmp_3 (l : Launch) (Z : State) (a0 : Array Value) (hw : ∀ d ∈ tables_1, d.before a0 Z = true) (ws : List Jvm.Cond) (ca : Addr) (kc : ClassId) (c0 : Int32) (c1 : Int32) (c2 : Int32) (h0 : Heap) (n0 : Nat) (Z0 : n0 ≤ h0.size) (VC : Arv Z h0 ca kc .char (3 : Int32) [(.int c0), (.int c1), (.int c2)] (.int (0 : Int32))) (hc0 : ¬ (255 : Int32) < c0) (hc1 : ¬ (255 : Int32) < c1) (hc2 : ¬ (255 : Int32) < c2) :
    MetFree l (⟨"java/lang/StringUTF16", "compress", "([CII)[B"⟩ : MethodName) (head1 (Jvm.Cond.code (⟨"java/lang/StringUTF16", "compress", "([CII)[B"⟩ : MethodName) jdk_52_method_16_code 6 (some (.array .byte)) :: ws) ({ frames := 1, cells := 1, slots := 3, locals := 18 } : Room)) (fun aa_ U => aa_ = #[(.ref ca), (.int (0 : Int32)), (.int (3 : Int32))] ∧ Z.Warmed39 U.vm ∧ U.heap = h0) (fun _ _ _ _ _ => True) (fun _ U o_ U' => RetG U (Q_cmp_3 Z ca kc c0 c1 c2 h0 n0) 1 3 U' o_) := by
  refine MetFree.of_bodySF (plainFor_of_name own_pn3) hisR ?_
  intro p e s m args below meth c_ s₁ Bd hml0 hP hK
  obtain ⟨rfl, hZ, hh⟩ := hP
  have hx := Bd.exec
  have hby := Bd.bytes
  have hml : c_.maxLocals = 6 := hml0
  have hown : s.vm.findClass "java/lang/StringUTF16" = some m.cls := findClass_of_methodNamed Bd.named
  have hnm := (name_of_methodNamed Bd.named Bd.method).1
  have X0 : Stand p l e ({ frames := 1, cells := 1, slots := 3, locals := 18 } : Room) s m #[(.ref ca), (.int (0 : Int32)), (.int (3 : Int32))] below meth c_ s₁ [] 0 0 := Stand.of_body Bd
  have e0 : s₁.heap = h0 := by rw [← hh, Bd.state]; rfl
  have N0 := Fr.nil n0
  have w15_ := hw _ (List.mem_of_getElem? (i := 15) rfl)
  have w39_ := hw _ (List.mem_of_getElem? (i := 39) rfl)
  have w41_ := hw _ (List.mem_of_getElem? (i := 41) rfl)
  have w42_ := hw _ (List.mem_of_getElem? (i := 42) rfl)
  have w43_ := hw _ (List.mem_of_getElem? (i := 43) rfl)
  show Go p e below (RetG s (Q_cmp_3 Z ca kc c0 c1 c2 h0 n0) 1 3) (s₁.setTop (entryFrame m #[(.ref ca), (.int (0 : Int32)), (.int (3 : Int32))] 6))
  rw [show entryFrame m #[(.ref ca), (.int (0 : Int32)), (.int (3 : Int32))] 6 = mkF m 0 #[.val (.ref ca), .val (.int (0 : Int32)), .val (.int (3 : Int32)), .unset, .unset, .unset] [] from by first | (simp [entryFrame, mkF, argsToLocals, Value.category]; done) | rfl]
  refine g_iloadN X0 hx hby d7_0 rfl ?_
  refine g_newarray X0 hx hby hZ .byte .byte (.int (0 : Int32)) [(.int (0 : Int32)), (.int (0 : Int32)), (.int (0 : Int32))] rfl rfl w15_ e0 (by decide) 3 rfl (by decide) (by decide) (by decide) (by decide) d7_1 (fun T1 h1 k1 b1 g1 X1 e1 E1 V1 => ?_)
  refine g_astoreN X1 hx hby d7_3 rfl (l' := #[.val (.ref ca), .val (.int (0 : Int32)), .val (.int (3 : Int32)), .val (.ref b1), .unset, .unset]) rfl ?_
  refine g_aloadN X1 hx hby d7_4 rfl rfl ?_
  refine g_iloadN X1 hx hby d7_5 rfl ?_
  refine g_aloadN X1 hx hby d7_6 rfl rfl ?_
  refine g_iconst X1 hx hby (0 : Int32) d7_7 rfl ?_
  refine g_iloadN X1 hx hby d7_8 rfl ?_
  have f3 := (VC.ext E1)
  have ne4 : ca ≠ b1 := (Nat.ne_of_lt (Nat.lt_of_lt_of_le VC.lt (Nat.le_of_eq g1)))
  have g_b1 : n0 ≤ b1 := Nat.le_trans Z0 (Nat.le_of_eq g1)
  have z5 := (Nat.le_trans Z0 E1.1)
  refine g_static X1 hx hby hZ hown (rm_cmp5_3 l Z a0 hw [] ca b1 kc k1 c0 c1 c2 h1 n0 z5 f3 V1 ne4 g_b1 hc0 hc1 hc2) w41_ w42_ w39_ w43_ (by decide) e1 (by rw [hml]; rfl) [(.ref ca), (.int (0 : Int32)), (.ref b1), (.int (0 : Int32)), (.int (3 : Int32))] (lenOf own_pd8 rfl) rfl rfl (Nat.le_of_ble_eq_true rfl) (Nat.le_of_ble_eq_true rfl) (Nat.le_of_ble_eq_true rfl) (Nat.le_of_ble_eq_true rfl) d7_9 (fun v2 T2 L2 X2 hQ2 => ?_)
  obtain ⟨rfl, N2q, K2, V2⟩ := hQ2
  have N2 := Fr.app N0 N2q
  refine g_istore X2 hx hby d7_12 (l' := #[.val (.ref ca), .val (.int (0 : Int32)), .val (.int (3 : Int32)), .val (.ref b1), .val (.int (3 : Int32)), .unset]) rfl ?_
  refine g_iload X2 hx hby d7_14 rfl ?_
  refine g_iloadN X2 hx hby d7_16 rfl ?_
  refine g_icY X2 hx hby 57 d7_17 (teq (by decide : (3 : Int32) = (3 : Int32))).1 (by decide) (by decide) ?_
  refine g_aloadN X2 hx hby d7_57 rfl rfl ?_
  refine g_aret X2 hx hby (t := (.array .byte)) rfl rfl rfl Bd.returns Bd.notSynchronized d7_58 rfl (by decide) (by decide) ?_
  show (Q_cmp_3 Z ca kc c0 c1 c2 h0 n0) (some (.ref b1)) _ _
  exact ⟨N2, (((Keep.refl h0 []).ext E1).trans K2 (allS (Or.inr (Nat.le_trans (Nat.le_refl _) (Nat.le_of_eq g1))) all0)), b1, k1, rfl, (Nat.le_trans (Nat.le_refl _) (Nat.le_of_eq g1)), V2⟩

def Q_cfal_3_3 (Z : State) (ba : Addr) (kb : ClassId) (bs : List Value) (h0 : Heap) (n0 : Nat) (v : Option Value) (h : Heap) (L : List Loc) : Prop := v = some (.int (0 : Int32)) ∧ Fr n0 L ∧ h = h0
set_option maxRecDepth 65536 in
set_option maxHeartbeats 40000000 in
theorem rm_cfal_3_3 (l : Launch) (Z : State) (a0 : Array Value) (hw : ∀ d ∈ tables_1, d.before a0 Z = true) (ws : List Jvm.Cond) (ba : Addr) (kb : ClassId) (bs : List Value) (h0 : Heap) (n0 : Nat) (Z0 : n0 ≤ h0.size) (VB : Arv Z h0 ba kb .byte (3 : Int32) bs (.int (0 : Int32))) :
    MetFree l (⟨"java/lang/StringUTF16", "coderFromArrayLen", "([BI)B"⟩ : MethodName) (head1 (Jvm.Cond.code (⟨"java/lang/StringUTF16", "coderFromArrayLen", "([BI)B"⟩ : MethodName) jdk_52_method_15_code 2 (some .byte) :: ws) ({ frames := 0, cells := 0, slots := 0, locals := 0 } : Room)) (fun aa_ U => aa_ = #[(.ref ba), (.int (3 : Int32))] ∧ Z.Warmed39 U.vm ∧ U.heap = h0) (fun _ _ _ _ _ => True) (fun _ U o_ U' => RetG U (Q_cfal_3_3 Z ba kb bs h0 n0) 0 0 U' o_) := by
  refine MetFree.of_bodySF (plainFor_of_name own_pn3) hisR ?_
  intro p e s m args below meth c_ s₁ Bd hml0 hP hK
  obtain ⟨rfl, hZ, hh⟩ := hP
  have hx := Bd.exec
  have hby := Bd.bytes
  have hml : c_.maxLocals = 2 := hml0
  have hown : s.vm.findClass "java/lang/StringUTF16" = some m.cls := findClass_of_methodNamed Bd.named
  have hnm := (name_of_methodNamed Bd.named Bd.method).1
  have X0 : Stand p l e ({ frames := 0, cells := 0, slots := 0, locals := 0 } : Room) s m #[(.ref ba), (.int (3 : Int32))] below meth c_ s₁ [] 0 0 := Stand.of_body Bd
  have e0 : s₁.heap = h0 := by rw [← hh, Bd.state]; rfl
  have N0 := Fr.nil n0
  show Go p e below (RetG s (Q_cfal_3_3 Z ba kb bs h0 n0) 0 0) (s₁.setTop (entryFrame m #[(.ref ba), (.int (3 : Int32))] 2))
  rw [show entryFrame m #[(.ref ba), (.int (3 : Int32))] 2 = mkF m 0 #[.val (.ref ba), .val (.int (3 : Int32))] [] from by first | (simp [entryFrame, mkF, argsToLocals, Value.category]; done) | rfl]
  refine g_iloadN X0 hx hby d9_0 rfl ?_
  refine g_aloadN X0 hx hby d9_1 rfl rfl ?_
  refine g_arraylength X0 hx hby hZ e0 VB d9_2 ?_
  refine g_isub X0 hx hby d9_3 ?_
  refine g_topI (0 : Int32) (by decide) ?_
  refine g_bipush X0 hx hby (31 : Int32) d9_4 rfl ?_
  refine g_iushr X0 hx hby d9_6 ?_
  refine g_topI (0 : Int32) (by decide) ?_
  refine g_i2b X0 hx hby d9_7 ?_
  refine g_topI (0 : Int32) (by decide) ?_
  refine g_nret X0 hx hby (t := .byte) (by simp) Bd.returns Bd.notSynchronized d9_8 e0 (by decide) (by decide) ?_
  show (Q_cfal_3_3 Z ba kb bs h0 n0) (some (.int (0 : Int32))) _ _
  exact ⟨rfl, N0, rfl⟩

def Q_ini2_3 (Z : State) (a : Addr) (ca : Addr) (kc : ClassId) (c0 : Int32) (c1 : Int32) (c2 : Int32) (cz : Int32) (h0 : Heap) (n0 : Nat) (v : Option Value) (h : Heap) (L : List Loc) : Prop := v = none ∧ Fr n0 L ∧ Keep h0 h [a] ∧ ∃ (b : Addr) (kb : ClassId), h0.size ≤ b ∧ Exa Z h a "java/lang/String" ∧ Fld Z h a "java/lang/String" "coder" "B" (.int (0 : Int32)) ∧ Fld Z h a "java/lang/String" "value" "[B" (.ref b) ∧ Arv Z h b kb .byte (3 : Int32) [(.int (nar .byte (c0.toInt8.toInt32))), (.int (nar .byte (c1.toInt8.toInt32))), (.int (nar .byte (c2.toInt8.toInt32)))] (.int (0 : Int32))
set_option maxRecDepth 65536 in
set_option maxHeartbeats 40000000 in
theorem rm_ini2_3 (l : Launch) (Z : State) (a0 : Array Value) (hw : ∀ d ∈ tables_1, d.before a0 Z = true) (ws : List Jvm.Cond) (a : Addr) (ca : Addr) (kc : ClassId) (c0 : Int32) (c1 : Int32) (c2 : Int32) (cz : Int32) (h0 : Heap) (n0 : Nat) (Z0 : n0 ≤ h0.size) (O2 : Sta Z Z.heap "java/lang/String" "COMPACT_STRINGS" "Z" (.int cz)) (P5 : ¬ cz = (0 : Int32)) (OLD : Old Z n0 h0) (E : Exa Z h0 a "java/lang/String") (FC : Fld Z h0 a "java/lang/String" "coder" "B" (.int (0 : Int32))) (FV : Fld Z h0 a "java/lang/String" "value" "[B" .null) (VC : Arv Z h0 ca kc .char (3 : Int32) [(.int c0), (.int c1), (.int c2)] (.int (0 : Int32))) (ga : n0 ≤ a) (hc0 : ¬ (255 : Int32) < c0) (hc1 : ¬ (255 : Int32) < c1) (hc2 : ¬ (255 : Int32) < c2) :
    MetFree l (⟨"java/lang/String", "<init>", "([CIILjava/lang/Void;)V"⟩ : MethodName) (head1 (Jvm.Cond.code (⟨"java/lang/String", "<init>", "([CIILjava/lang/Void;)V"⟩ : MethodName) jdk_42_method_149_code 6 none :: ws) ({ frames := 2, cells := 1, slots := 3, locals := 35 } : Room)) (fun aa_ U => aa_ = #[(.ref a), (.ref ca), (.int (0 : Int32)), (.int (3 : Int32)), .null] ∧ Z.Warmed39 U.vm ∧ U.heap = h0) (fun _ _ _ _ _ => True) (fun _ U o_ U' => RetG U (Q_ini2_3 Z a ca kc c0 c1 c2 cz h0 n0) 1 3 U' o_) := by
  refine MetFree.of_bodySF (plainFor_of_name own_pn1) hisR ?_
  intro p e s m args below meth c_ s₁ Bd hml0 hP hK
  obtain ⟨rfl, hZ, hh⟩ := hP
  have hx := Bd.exec
  have hby := Bd.bytes
  have hml : c_.maxLocals = 6 := hml0
  have hown : s.vm.findClass "java/lang/String" = some m.cls := findClass_of_methodNamed Bd.named
  have hnm := (name_of_methodNamed Bd.named Bd.method).1
  have X0 : Stand p l e ({ frames := 2, cells := 1, slots := 3, locals := 35 } : Room) s m #[(.ref a), (.ref ca), (.int (0 : Int32)), (.int (3 : Int32)), .null] below meth c_ s₁ [] 0 0 := Stand.of_body Bd
  have e0 : s₁.heap = h0 := by rw [← hh, Bd.state]; rfl
  have N0 := Fr.nil n0
  have w2_ := hw _ (List.mem_of_getElem? (i := 2) rfl)
  have w11_ := hw _ (List.mem_of_getElem? (i := 11) rfl)
  have w12_ := hw _ (List.mem_of_getElem? (i := 12) rfl)
  have w13_ := hw _ (List.mem_of_getElem? (i := 13) rfl)
  have w16_ := hw _ (List.mem_of_getElem? (i := 16) rfl)
  have w17_ := hw _ (List.mem_of_getElem? (i := 17) rfl)
  have w20_ := hw _ (List.mem_of_getElem? (i := 20) rfl)
  have w21_ := hw _ (List.mem_of_getElem? (i := 21) rfl)
  have w36_ := hw _ (List.mem_of_getElem? (i := 36) rfl)
  have w37_ := hw _ (List.mem_of_getElem? (i := 37) rfl)
  have w38_ := hw _ (List.mem_of_getElem? (i := 38) rfl)
  have w39_ := hw _ (List.mem_of_getElem? (i := 39) rfl)
  have w40_ := hw _ (List.mem_of_getElem? (i := 40) rfl)
  have w44_ := hw _ (List.mem_of_getElem? (i := 44) rfl)
  have w45_ := hw _ (List.mem_of_getElem? (i := 45) rfl)
  have w46_ := hw _ (List.mem_of_getElem? (i := 46) rfl)
  show Go p e below (RetG s (Q_ini2_3 Z a ca kc c0 c1 c2 cz h0 n0) 1 3) (s₁.setTop (entryFrame m #[(.ref a), (.ref ca), (.int (0 : Int32)), (.int (3 : Int32)), .null] 6))
  rw [show entryFrame m #[(.ref a), (.ref ca), (.int (0 : Int32)), (.int (3 : Int32)), .null] 6 = mkF m 0 #[.val (.ref a), .val (.ref ca), .val (.int (0 : Int32)), .val (.int (3 : Int32)), .val .null, .unset] [] from by first | (simp [entryFrame, mkF, argsToLocals, Value.category]; done) | rfl]
  refine g_aloadN X0 hx hby d2_0 rfl rfl ?_
  refine g_initO X0 hx hby hZ hown w11_ w12_ w13_ e0 (by rw [hml]; rfl) (Nat.le_of_ble_eq_true rfl) (Nat.le_of_ble_eq_true rfl) d2_1 (fun T1 X1 e1 => ?_)
  refine g_iloadN X1 hx hby d2_4 rfl ?_
  refine g_ifY X1 hx hby 27 d2_5 (feq (by decide : ¬ ((3 : Int32) = (0 : Int32)))).2 (by decide) (by decide) ?_
  refine g_getS X1 hx hby hZ hown (host := "") (Or.inl w36_) Via.refl e1 (O2.ext OLD.2) d2_27 (fun T2 X2 e2 => ?_)
  refine g_ifN X2 hx hby d2_30 (feq (P5 : ¬ (cz = (0 : Int32)))).1 ?_
  refine g_aloadN X2 hx hby d2_33 rfl rfl ?_
  refine g_iloadN X2 hx hby d2_34 rfl ?_
  refine g_iloadN X2 hx hby d2_35 rfl ?_
  refine g_static X2 hx hby hZ hown (rm_cmp_3 l Z a0 hw [] ca kc c0 c1 c2 h0 n0 Z0 VC hc0 hc1 hc2) w37_ w38_ w39_ w40_ (by decide) e2 (by rw [hml]; rfl) [(.ref ca), (.int (0 : Int32)), (.int (3 : Int32))] (lenOf own_pd9 rfl) rfl rfl (Nat.le_of_ble_eq_true rfl) (Nat.le_of_ble_eq_true rfl) (Nat.le_of_ble_eq_true rfl) (Nat.le_of_ble_eq_true rfl) d2_36 (fun v3 T3 L3 X3 hQ3 => ?_)
  obtain ⟨N3q, K3, bb, kb, rfl, lob, Vb⟩ := hQ3
  have N3 := Fr.app N0 N3q
  refine g_astore X3 hx hby d2_39 rfl (l' := #[.val (.ref a), .val (.ref ca), .val (.int (0 : Int32)), .val (.int (3 : Int32)), .val .null, .val (.ref bb)]) rfl ?_
  refine g_aloadN X3 hx hby d2_41 rfl rfl ?_
  refine g_aload X3 hx hby d2_42 rfl rfl ?_
  refine g_iloadN X3 hx hby d2_44 rfl ?_
  have z5 := (Nat.le_trans Z0 K3.1)
  refine g_static X3 hx hby hZ hown (rm_cfal_3_3 l Z a0 hw [] bb kb [(.int (nar .byte (c0.toInt8.toInt32))), (.int (nar .byte (c1.toInt8.toInt32))), (.int (nar .byte (c2.toInt8.toInt32)))] T3.heap n0 z5 Vb) w44_ w45_ w39_ w46_ (by decide) rfl (by rw [hml]; rfl) [(.ref bb), (.int (3 : Int32))] (lenOf own_pd11 rfl) rfl rfl (Nat.le_of_ble_eq_true rfl) (Nat.le_of_ble_eq_true rfl) (Nat.le_of_ble_eq_true rfl) (Nat.le_of_ble_eq_true rfl) d2_45 (fun v4 T4 L4 X4 hQ4 => ?_)
  obtain ⟨rfl, N4q, eh4⟩ := hQ4
  have N4 := Fr.app N3 N4q
  have f6 := (E.keep K3)
  have f7 := (FC.keep K3 nin0)
  refine g_putFN X4 hx hby hZ hown w21_ Via.refl eh4 f7 f6 (Or.inr ⟨w17_, rfl, hnm⟩) w2_ .byte (by decide) (.int (0 : Int32)) rfl rfl N4 ga d2_48 (fun T8 h8 X8 e8 W8 F8 N8 => ?_)
  refine g_aloadN X8 hx hby d2_51 rfl rfl ?_
  refine g_aload X8 hx hby d2_52 rfl rfl ?_
  have f9 := (f6.wr W8)
  have f10 := ((FV.keep K3 nin0).other W8 (Or.inr (slot_ne (Or.inr w16_) (Or.inr w17_) (by decide) (t := (.array .byte)) (t' := .byte) (by decide) (by decide))))
  refine g_putF X8 hx hby hZ hown (host := "") (Or.inl w20_) Via.refl e8 f10 f9 (Or.inr ⟨w16_, rfl, hnm⟩) w2_ (.array .byte) (by decide) rfl rfl N8 ga d2_54 (fun T11 h11 X11 e11 W11 F11 N11 => ?_)
  have f12 := (f9.wr W11)
  have f13 := (F8.other W11 (Or.inr (slot_ne (Or.inr w17_) (Or.inr w16_) (by decide) (t := .byte) (t' := (.array .byte)) (by decide) (by decide))))
  have ne14 : bb ≠ a := (Ne.symm (Nat.ne_of_lt (Nat.lt_of_lt_of_le E.lt lob)))
  have f15 := ((Vb.other W8 ne14).other W11 ne14)
  refine g_ret X11 hx hby Bd.returns Bd.notSynchronized d2_57 e11 (by decide) (by decide) ?_
  show (Q_ini2_3 Z a ca kc c0 c1 c2 cz h0 n0) none _ _
  exact ⟨rfl, N11, ((((Keep.refl h0 [a]).trans K3 all0).wr W8 (Or.inl (List.mem_of_getElem? (i := 0) rfl))).wr W11 (Or.inl (List.mem_of_getElem? (i := 0) rfl))), bb, kb, (Nat.le_trans (Nat.le_refl _) lob), f12, f13, F11, f15⟩

def Q_ini1_3 (Z : State) (a : Addr) (ca : Addr) (kc : ClassId) (c0 : Int32) (c1 : Int32) (c2 : Int32) (cz : Int32) (h0 : Heap) (n0 : Nat) (v : Option Value) (h : Heap) (L : List Loc) : Prop := v = none ∧ Fr n0 L ∧ Keep h0 h [a] ∧ ∃ (b : Addr) (kb : ClassId), h0.size ≤ b ∧ Exa Z h a "java/lang/String" ∧ Fld Z h a "java/lang/String" "coder" "B" (.int (0 : Int32)) ∧ Fld Z h a "java/lang/String" "value" "[B" (.ref b) ∧ Arv Z h b kb .byte (3 : Int32) [(.int (nar .byte (c0.toInt8.toInt32))), (.int (nar .byte (c1.toInt8.toInt32))), (.int (nar .byte (c2.toInt8.toInt32)))] (.int (0 : Int32))
set_option maxRecDepth 65536 in
set_option maxHeartbeats 40000000 in
theorem rm_ini1_3 (l : Launch) (Z : State) (a0 : Array Value) (hw : ∀ d ∈ tables_1, d.before a0 Z = true) (ws : List Jvm.Cond) (a : Addr) (ca : Addr) (kc : ClassId) (c0 : Int32) (c1 : Int32) (c2 : Int32) (cz : Int32) (h0 : Heap) (n0 : Nat) (Z0 : n0 ≤ h0.size) (O2 : Sta Z Z.heap "java/lang/String" "COMPACT_STRINGS" "Z" (.int cz)) (P5 : ¬ cz = (0 : Int32)) (OLD : Old Z n0 h0) (E : Exa Z h0 a "java/lang/String") (FC : Fld Z h0 a "java/lang/String" "coder" "B" (.int (0 : Int32))) (FV : Fld Z h0 a "java/lang/String" "value" "[B" .null) (VC : Arv Z h0 ca kc .char (3 : Int32) [(.int c0), (.int c1), (.int c2)] (.int (0 : Int32))) (ga : n0 ≤ a) (hc0 : ¬ (255 : Int32) < c0) (hc1 : ¬ (255 : Int32) < c1) (hc2 : ¬ (255 : Int32) < c2) :
    MetFree l (⟨"java/lang/String", "<init>", "([C)V"⟩ : MethodName) (head1 (Jvm.Cond.code (⟨"java/lang/String", "<init>", "([C)V"⟩ : MethodName) jdk_42_method_3_code 2 none :: ws) ({ frames := 3, cells := 1, slots := 3, locals := 52 } : Room)) (fun aa_ U => aa_ = #[(.ref a), (.ref ca)] ∧ Z.Warmed39 U.vm ∧ U.heap = h0) (fun _ _ _ _ _ => True) (fun _ U o_ U' => RetG U (Q_ini1_3 Z a ca kc c0 c1 c2 cz h0 n0) 1 3 U' o_) := by
  refine MetFree.of_bodySF (plainFor_of_name own_pn1) hisR ?_
  intro p e s m args below meth c_ s₁ Bd hml0 hP hK
  obtain ⟨rfl, hZ, hh⟩ := hP
  have hx := Bd.exec
  have hby := Bd.bytes
  have hml : c_.maxLocals = 2 := hml0
  have hown : s.vm.findClass "java/lang/String" = some m.cls := findClass_of_methodNamed Bd.named
  have hnm := (name_of_methodNamed Bd.named Bd.method).1
  have X0 : Stand p l e ({ frames := 3, cells := 1, slots := 3, locals := 52 } : Room) s m #[(.ref a), (.ref ca)] below meth c_ s₁ [] 0 0 := Stand.of_body Bd
  have e0 : s₁.heap = h0 := by rw [← hh, Bd.state]; rfl
  have N0 := Fr.nil n0
  have w3_ := hw _ (List.mem_of_getElem? (i := 3) rfl)
  have w7_ := hw _ (List.mem_of_getElem? (i := 7) rfl)
  have w8_ := hw _ (List.mem_of_getElem? (i := 8) rfl)
  have w10_ := hw _ (List.mem_of_getElem? (i := 10) rfl)
  show Go p e below (RetG s (Q_ini1_3 Z a ca kc c0 c1 c2 cz h0 n0) 1 3) (s₁.setTop (entryFrame m #[(.ref a), (.ref ca)] 2))
  rw [show entryFrame m #[(.ref a), (.ref ca)] 2 = mkF m 0 #[.val (.ref a), .val (.ref ca)] [] from by first | (simp [entryFrame, mkF, argsToLocals, Value.category]; done) | rfl]
  refine g_aloadN X0 hx hby d1_0 rfl rfl ?_
  refine g_aloadN X0 hx hby d1_1 rfl rfl ?_
  refine g_iconst X0 hx hby (0 : Int32) d1_2 rfl ?_
  refine g_aloadN X0 hx hby d1_3 rfl rfl ?_
  refine g_arraylength X0 hx hby hZ e0 VC d1_4 ?_
  refine g_aconst_null X0 hx hby d1_5 ?_
  refine g_special X0 hx hby hZ hown (rm_ini2_3 l Z a0 hw [] a ca kc c0 c1 c2 cz h0 n0 Z0 O2 P5 OLD E FC FV VC ga hc0 hc1 hc2) rfl rfl w7_ w8_ w3_ w10_ (by decide) e0 (by rw [hml]; rfl) [(.ref ca), (.int (0 : Int32)), (.int (3 : Int32)), .null] (lenOf own_pd0 rfl) rfl rfl (Nat.le_of_ble_eq_true rfl) (Nat.le_of_ble_eq_true rfl) (Nat.le_of_ble_eq_true rfl) (Nat.le_of_ble_eq_true rfl) d1_6 (fun v1 T1 L1 X1 hQ1 => ?_)
  obtain ⟨rfl, N1q, R1⟩ := hQ1
  have N1 := Fr.app N0 N1q
  refine g_ret X1 hx hby Bd.returns Bd.notSynchronized d1_9 rfl (by decide) (by decide) ?_
  show (Q_ini1_3 Z a ca kc c0 c1 c2 cz h0 n0) none _ _
  exact ⟨rfl, N1, R1⟩

def Q_slen_3 (Z : State) (a : Addr) (b : Addr) (kb : ClassId) (bs : List Value) (cz : Int32) (h0 : Heap) (n0 : Nat) (v : Option Value) (h : Heap) (L : List Loc) : Prop := v = some (.int (3 : Int32)) ∧ Fr n0 L ∧ h = h0
set_option maxRecDepth 65536 in
set_option maxHeartbeats 40000000 in
theorem rm_slen_3 (l : Launch) (Z : State) (a0 : Array Value) (hw : ∀ d ∈ tables_1, d.before a0 Z = true) (ws : List Jvm.Cond) (a : Addr) (b : Addr) (kb : ClassId) (bs : List Value) (cz : Int32) (h0 : Heap) (n0 : Nat) (Z0 : n0 ≤ h0.size) (O2 : Sta Z Z.heap "java/lang/String" "COMPACT_STRINGS" "Z" (.int cz)) (P5 : ¬ cz = (0 : Int32)) (OLD : Old Z n0 h0) (E : Exa Z h0 a "java/lang/String") (C : Fld Z h0 a "java/lang/String" "coder" "B" (.int (0 : Int32))) (VF : Fld Z h0 a "java/lang/String" "value" "[B" (.ref b)) (VB : Arv Z h0 b kb .byte (3 : Int32) bs (.int (0 : Int32))) :
    MetFree l (⟨"java/lang/String", "length", "()I"⟩ : MethodName) (head1 (Jvm.Cond.code (⟨"java/lang/String", "length", "()I"⟩ : MethodName) jdk_42_method_54_code 1 (some .int) :: ws) ({ frames := 1, cells := 0, slots := 0, locals := 13 } : Room)) (fun aa_ U => aa_ = #[(.ref a)] ∧ Z.Warmed39 U.vm ∧ U.heap = h0) (fun _ _ _ _ _ => True) (fun _ U o_ U' => RetG U (Q_slen_3 Z a b kb bs cz h0 n0) 0 0 U' o_) := by
  refine MetFree.of_bodySF (plainFor_of_name own_pn1) hisR ?_
  intro p e s m args below meth c_ s₁ Bd hml0 hP hK
  obtain ⟨rfl, hZ, hh⟩ := hP
  have hx := Bd.exec
  have hby := Bd.bytes
  have hml : c_.maxLocals = 1 := hml0
  have hown : s.vm.findClass "java/lang/String" = some m.cls := findClass_of_methodNamed Bd.named
  have hnm := (name_of_methodNamed Bd.named Bd.method).1
  have X0 : Stand p l e ({ frames := 1, cells := 0, slots := 0, locals := 13 } : Room) s m #[(.ref a)] below meth c_ s₁ [] 0 0 := Stand.of_body Bd
  have e0 : s₁.heap = h0 := by rw [← hh, Bd.state]; rfl
  have N0 := Fr.nil n0
  have w3_ := hw _ (List.mem_of_getElem? (i := 3) rfl)
  have w20_ := hw _ (List.mem_of_getElem? (i := 20) rfl)
  have w31_ := hw _ (List.mem_of_getElem? (i := 31) rfl)
  have w32_ := hw _ (List.mem_of_getElem? (i := 32) rfl)
  have w33_ := hw _ (List.mem_of_getElem? (i := 33) rfl)
  have w34_ := hw _ (List.mem_of_getElem? (i := 34) rfl)
  have w35_ := hw _ (List.mem_of_getElem? (i := 35) rfl)
  show Go p e below (RetG s (Q_slen_3 Z a b kb bs cz h0 n0) 0 0) (s₁.setTop (entryFrame m #[(.ref a)] 1))
  rw [show entryFrame m #[(.ref a)] 1 = mkF m 0 #[.val (.ref a)] [] from by first | (simp [entryFrame, mkF, argsToLocals, Value.category]; done) | rfl]
  refine g_aloadN X0 hx hby d5_0 rfl rfl ?_
  refine g_getF X0 hx hby hZ hown (host := "") (Or.inl w20_) Via.refl e0 VF d5_1 (fun T1 X1 e1 => ?_)
  refine g_arraylength X1 hx hby hZ e1 VB d5_4 ?_
  refine g_aloadN X1 hx hby d5_5 rfl rfl ?_
  refine g_virtual X1 hx hby hZ hown (rm_coder l Z a0 hw [] a (0 : Int32) cz h0 n0 Z0 O2 P5 OLD C) w31_ w32_ (notFace_of_selects (args := #[]) (mvT hZ w34_)) w34_ w33_ w3_ w35_ (by decide) e1 E (by rw [hml]; rfl) [] (lenOf own_pd2 rfl) rfl rfl (Nat.le_of_ble_eq_true rfl) (Nat.le_of_ble_eq_true rfl) (Nat.le_of_ble_eq_true rfl) (Nat.le_of_ble_eq_true rfl) d5_6 (fun v2 T2 L2 X2 hQ2 => ?_)
  obtain ⟨rfl, N2q, eh2⟩ := hQ2
  have N2 := Fr.app N0 N2q
  refine g_topI (T := T2) (0 : Int32) (by decide) ?_
  refine g_ishr X2 hx hby d5_9 ?_
  refine g_topI (3 : Int32) (by decide) ?_
  refine g_iret X2 hx hby Bd.returns Bd.notSynchronized d5_10 eh2 (by decide) (by decide) ?_
  show (Q_slen_3 Z a b kb bs cz h0 n0) (some (.int (3 : Int32))) _ _
  exact ⟨rfl, N2, rfl⟩

def Q_lchar_3 (Z : State) (b : Addr) (kb : ClassId) (bs : List Value) (j : Int32) (bv : Int32) (fz : Value) (h0 : Heap) (n0 : Nat) (v : Option Value) (h : Heap) (L : List Loc) : Prop := v = some (.int (nar .char ((bv &&& (255 : Int32)).toUInt32.toUInt16.toUInt32.toInt32))) ∧ Fr n0 L ∧ h = h0
set_option maxRecDepth 65536 in
set_option maxHeartbeats 40000000 in
theorem rm_lchar_3 (l : Launch) (Z : State) (a0 : Array Value) (hw : ∀ d ∈ tables_1, d.before a0 Z = true) (ws : List Jvm.Cond) (b : Addr) (kb : ClassId) (bs : List Value) (j : Int32) (bv : Int32) (fz : Value) (h0 : Heap) (n0 : Nat) (Z0 : n0 ≤ h0.size) (VB : Arv Z h0 b kb .byte (3 : Int32) bs (.int (0 : Int32))) (hj : ¬ j < 0 ∧ j < (3 : Int32)) (hv : bs.getD j.toNatClampNeg (.int (0 : Int32)) = .int bv) (rfz : Rf fz) (O4 : Sta Z Z.heap "jdk/internal/util/Preconditions" "SIOOBE_FORMATTER" "Ljava/util/function/BiFunction;" fz) (OLD : Old Z n0 h0) :
    MetFree l (⟨"java/lang/StringLatin1", "charAt", "([BI)C"⟩ : MethodName) (head1 (Jvm.Cond.code (⟨"java/lang/StringLatin1", "charAt", "([BI)C"⟩ : MethodName) jdk_43_method_2_code 2 (some .char) :: ws) ({ frames := 2, cells := 0, slots := 0, locals := 27 } : Room)) (fun aa_ U => aa_ = #[(.ref b), (.int j)] ∧ Z.Warmed39 U.vm ∧ U.heap = h0) (fun _ _ _ _ _ => True) (fun _ U o_ U' => RetG U (Q_lchar_3 Z b kb bs j bv fz h0 n0) 0 0 U' o_) := by
  refine MetFree.of_bodySF (plainFor_of_name own_pn5) hisR ?_
  intro p e s m args below meth c_ s₁ Bd hml0 hP hK
  obtain ⟨rfl, hZ, hh⟩ := hP
  have hx := Bd.exec
  have hby := Bd.bytes
  have hml : c_.maxLocals = 2 := hml0
  have hown : s.vm.findClass "java/lang/StringLatin1" = some m.cls := findClass_of_methodNamed Bd.named
  have hnm := (name_of_methodNamed Bd.named Bd.method).1
  have X0 : Stand p l e ({ frames := 2, cells := 0, slots := 0, locals := 27 } : Room) s m #[(.ref b), (.int j)] below meth c_ s₁ [] 0 0 := Stand.of_body Bd
  have e0 : s₁.heap = h0 := by rw [← hh, Bd.state]; rfl
  have N0 := Fr.nil n0
  have w3_ := hw _ (List.mem_of_getElem? (i := 3) rfl)
  have w65_ := hw _ (List.mem_of_getElem? (i := 65) rfl)
  have w66_ := hw _ (List.mem_of_getElem? (i := 66) rfl)
  have w67_ := hw _ (List.mem_of_getElem? (i := 67) rfl)
  show Go p e below (RetG s (Q_lchar_3 Z b kb bs j bv fz h0 n0) 0 0) (s₁.setTop (entryFrame m #[(.ref b), (.int j)] 2))
  rw [show entryFrame m #[(.ref b), (.int j)] 2 = mkF m 0 #[.val (.ref b), .val (.int j)] [] from by first | (simp [entryFrame, mkF, argsToLocals, Value.category]; done) | rfl]
  refine g_iloadN X0 hx hby d13_0 rfl ?_
  refine g_aloadN X0 hx hby d13_1 rfl rfl ?_
  refine g_arraylength X0 hx hby hZ e0 VB d13_2 ?_
  refine g_static X0 hx hby hZ hown (rm_schk l Z a0 hw [] j (3 : Int32) fz h0 n0 Z0 hj rfz O4 OLD) w65_ w66_ w3_ w67_ (by decide) e0 (by rw [hml]; rfl) [(.int j), (.int (3 : Int32))] (lenOf own_pd15 rfl) rfl rfl (Nat.le_of_ble_eq_true rfl) (Nat.le_of_ble_eq_true rfl) (Nat.le_of_ble_eq_true rfl) (Nat.le_of_ble_eq_true rfl) d13_3 (fun v1 T1 L1 X1 hQ1 => ?_)
  obtain ⟨rfl, N1q, eh1⟩ := hQ1
  have N1 := Fr.app N0 N1q
  refine g_aloadN X1 hx hby d13_6 rfl rfl ?_
  refine g_iloadN X1 hx hby d13_7 rfl ?_
  refine g_baload X1 hx hby hZ eh1 VB (.int bv) hj hv d13_8 ?_
  refine g_sipush X1 hx hby (255 : Int32) d13_9 rfl ?_
  refine g_iand X1 hx hby d13_12 ?_
  refine g_i2c X1 hx hby d13_13 ?_
  refine g_nret X1 hx hby (t := .char) (by simp) Bd.returns Bd.notSynchronized d13_14 eh1 (by decide) (by decide) ?_
  show (Q_lchar_3 Z b kb bs j bv fz h0 n0) (some (.int (nar .char ((bv &&& (255 : Int32)).toUInt32.toUInt16.toUInt32.toInt32)))) _ _
  exact ⟨rfl, N1, rfl⟩

def Q_schar_3 (Z : State) (a : Addr) (b : Addr) (kb : ClassId) (bs : List Value) (j : Int32) (bv : Int32) (fz : Value) (cz : Int32) (h0 : Heap) (n0 : Nat) (v : Option Value) (h : Heap) (L : List Loc) : Prop := v = some (.int (nar .char (nar .char ((bv &&& (255 : Int32)).toUInt32.toUInt16.toUInt32.toInt32)))) ∧ Fr n0 L ∧ h = h0
set_option maxRecDepth 65536 in
set_option maxHeartbeats 40000000 in
theorem rm_schar_3 (l : Launch) (Z : State) (a0 : Array Value) (hw : ∀ d ∈ tables_1, d.before a0 Z = true) (ws : List Jvm.Cond) (a : Addr) (b : Addr) (kb : ClassId) (bs : List Value) (j : Int32) (bv : Int32) (fz : Value) (cz : Int32) (h0 : Heap) (n0 : Nat) (Z0 : n0 ≤ h0.size) (O2 : Sta Z Z.heap "java/lang/String" "COMPACT_STRINGS" "Z" (.int cz)) (P5 : ¬ cz = (0 : Int32)) (OLD : Old Z n0 h0) (E : Exa Z h0 a "java/lang/String") (C : Fld Z h0 a "java/lang/String" "coder" "B" (.int (0 : Int32))) (VF : Fld Z h0 a "java/lang/String" "value" "[B" (.ref b)) (VB : Arv Z h0 b kb .byte (3 : Int32) bs (.int (0 : Int32))) (hj : ¬ j < 0 ∧ j < (3 : Int32)) (hv : bs.getD j.toNatClampNeg (.int (0 : Int32)) = .int bv) (rfz : Rf fz) (O4 : Sta Z Z.heap "jdk/internal/util/Preconditions" "SIOOBE_FORMATTER" "Ljava/util/function/BiFunction;" fz) :
    MetFree l (⟨"java/lang/String", "charAt", "(I)C"⟩ : MethodName) (head1 (Jvm.Cond.code (⟨"java/lang/String", "charAt", "(I)C"⟩ : MethodName) jdk_42_method_56_code 2 (some .char) :: ws) ({ frames := 3, cells := 0, slots := 0, locals := 40 } : Room)) (fun aa_ U => aa_ = #[(.ref a), (.int j)] ∧ Z.Warmed39 U.vm ∧ U.heap = h0) (fun _ _ _ _ _ => True) (fun _ U o_ U' => RetG U (Q_schar_3 Z a b kb bs j bv fz cz h0 n0) 0 0 U' o_) := by
  refine MetFree.of_bodySF (plainFor_of_name own_pn1) hisR ?_
  intro p e s m args below meth c_ s₁ Bd hml0 hP hK
  obtain ⟨rfl, hZ, hh⟩ := hP
  have hx := Bd.exec
  have hby := Bd.bytes
  have hml : c_.maxLocals = 2 := hml0
  have hown : s.vm.findClass "java/lang/String" = some m.cls := findClass_of_methodNamed Bd.named
  have hnm := (name_of_methodNamed Bd.named Bd.method).1
  have X0 : Stand p l e ({ frames := 3, cells := 0, slots := 0, locals := 40 } : Room) s m #[(.ref a), (.int j)] below meth c_ s₁ [] 0 0 := Stand.of_body Bd
  have e0 : s₁.heap = h0 := by rw [← hh, Bd.state]; rfl
  have N0 := Fr.nil n0
  have w3_ := hw _ (List.mem_of_getElem? (i := 3) rfl)
  have w20_ := hw _ (List.mem_of_getElem? (i := 20) rfl)
  have w56_ := hw _ (List.mem_of_getElem? (i := 56) rfl)
  have w57_ := hw _ (List.mem_of_getElem? (i := 57) rfl)
  have w58_ := hw _ (List.mem_of_getElem? (i := 58) rfl)
  have w59_ := hw _ (List.mem_of_getElem? (i := 59) rfl)
  have w60_ := hw _ (List.mem_of_getElem? (i := 60) rfl)
  have w61_ := hw _ (List.mem_of_getElem? (i := 61) rfl)
  have w62_ := hw _ (List.mem_of_getElem? (i := 62) rfl)
  have w63_ := hw _ (List.mem_of_getElem? (i := 63) rfl)
  have w64_ := hw _ (List.mem_of_getElem? (i := 64) rfl)
  show Go p e below (RetG s (Q_schar_3 Z a b kb bs j bv fz cz h0 n0) 0 0) (s₁.setTop (entryFrame m #[(.ref a), (.int j)] 2))
  rw [show entryFrame m #[(.ref a), (.int j)] 2 = mkF m 0 #[.val (.ref a), .val (.int j)] [] from by first | (simp [entryFrame, mkF, argsToLocals, Value.category]; done) | rfl]
  refine g_aloadN X0 hx hby d11_0 rfl rfl ?_
  refine g_virtual X0 hx hby hZ hown (rm_islat l Z a0 hw [] a cz h0 n0 Z0 O2 P5 OLD C) w56_ w57_ (notFace_of_selects (args := #[]) (mvT hZ w59_)) w59_ w58_ w3_ w60_ (by decide) e0 E (by rw [hml]; rfl) [] (lenOf own_pd17 rfl) rfl rfl (Nat.le_of_ble_eq_true rfl) (Nat.le_of_ble_eq_true rfl) (Nat.le_of_ble_eq_true rfl) (Nat.le_of_ble_eq_true rfl) d11_1 (fun v1 T1 L1 X1 hQ1 => ?_)
  obtain ⟨rfl, N1q, eh1⟩ := hQ1
  have N1 := Fr.app N0 N1q
  refine g_ifN X1 hx hby d11_4 (feq (by decide : ¬ ((1 : Int32) = (0 : Int32)))).1 ?_
  refine g_aloadN X1 hx hby d11_7 rfl rfl ?_
  refine g_getF X1 hx hby hZ hown (host := "") (Or.inl w20_) Via.refl eh1 VF d11_8 (fun T2 X2 e2 => ?_)
  refine g_iloadN X2 hx hby d11_11 rfl ?_
  refine g_static X2 hx hby hZ hown (rm_lchar_3 l Z a0 hw [] b kb bs j bv fz h0 n0 Z0 VB hj hv rfz O4 OLD) w61_ w62_ w63_ w64_ (by decide) e2 (by rw [hml]; rfl) [(.ref b), (.int j)] (lenOf own_pd10 rfl) rfl rfl (Nat.le_of_ble_eq_true rfl) (Nat.le_of_ble_eq_true rfl) (Nat.le_of_ble_eq_true rfl) (Nat.le_of_ble_eq_true rfl) d11_12 (fun v3 T3 L3 X3 hQ3 => ?_)
  obtain ⟨rfl, N3q, eh3⟩ := hQ3
  have N3 := Fr.app N1 N3q
  refine g_nret X3 hx hby (t := .char) (by simp) Bd.returns Bd.notSynchronized d11_15 eh3 (by decide) (by decide) ?_
  show (Q_schar_3 Z a b kb bs j bv fz cz h0 n0) (some (.int (nar .char (nar .char ((bv &&& (255 : Int32)).toUInt32.toUInt16.toUInt32.toInt32))))) _ _
  exact ⟨rfl, N3, rfl⟩

def Q_fv_3 (Z : State) (a : Addr) (b : Addr) (kb : ClassId) (c0 : Int32) (c1 : Int32) (c2 : Int32) (cz : Int32) (fz : Value) (h0 : Heap) (n0 : Nat) (v : Option Value) (h : Heap) (L : List Loc) : Prop := v = some (.int (own_fvs [c0, c1, c2])) ∧ Fr n0 L ∧ h = h0
set_option maxRecDepth 65536 in
set_option maxHeartbeats 40000000 in
theorem rm_fv_3 (l : Launch) (Z : State) (a0 : Array Value) (hw : ∀ d ∈ tables_1, d.before a0 Z = true) (ws : List Jvm.Cond) (a : Addr) (b : Addr) (kb : ClassId) (c0 : Int32) (c1 : Int32) (c2 : Int32) (cz : Int32) (fz : Value) (h0 : Heap) (n0 : Nat) (Z0 : n0 ≤ h0.size) (O2 : Sta Z Z.heap "java/lang/String" "COMPACT_STRINGS" "Z" (.int cz)) (P5 : ¬ cz = (0 : Int32)) (OLD : Old Z n0 h0) (E : Exa Z h0 a "java/lang/String") (C : Fld Z h0 a "java/lang/String" "coder" "B" (.int (0 : Int32))) (VF : Fld Z h0 a "java/lang/String" "value" "[B" (.ref b)) (VB : Arv Z h0 b kb .byte (3 : Int32) [(.int (nar .byte (c0.toInt8.toInt32))), (.int (nar .byte (c1.toInt8.toInt32))), (.int (nar .byte (c2.toInt8.toInt32)))] (.int (0 : Int32))) (rfz : Rf fz) (O4 : Sta Z Z.heap "jdk/internal/util/Preconditions" "SIOOBE_FORMATTER" "Ljava/util/function/BiFunction;" fz) (hr0 : 0 ≤ c0.toInt ∧ c0.toInt < 65536) (hr1 : 0 ≤ c1.toInt ∧ c1.toInt < 65536) (hr2 : 0 ≤ c2.toInt ∧ c2.toInt < 65536) (hl0 : ¬ (255 : Int32) < c0) (hl1 : ¬ (255 : Int32) < c1) (hl2 : ¬ (255 : Int32) < c2) :
    MetFree l (⟨"com/example/usher/usher/gateway/http/Http1Input", "isFieldValue", "(Ljava/lang/String;)Z"⟩ : MethodName) (head1 (Jvm.Cond.code (⟨"com/example/usher/usher/gateway/http/Http1Input", "isFieldValue", "(Ljava/lang/String;)Z"⟩ : MethodName) prog_2_method_17_code 3 (some .boolean) :: ws) ({ frames := 4, cells := 0, slots := 0, locals := 53 } : Room)) (fun aa_ U => aa_ = #[(.ref a)] ∧ Z.Warmed39 U.vm ∧ U.heap = h0) (fun _ _ _ _ _ => True) (fun _ U o_ U' => RetG U (Q_fv_3 Z a b kb c0 c1 c2 cz fz h0 n0) 0 0 U' o_) := by
  refine MetFree.of_bodySF (plainFor_of_name own_pn2) hisR ?_
  intro p e s m args below meth c_ s₁ Bd hml0 hP hK
  obtain ⟨rfl, hZ, hh⟩ := hP
  have hx := Bd.exec
  have hby := Bd.bytes
  have hml : c_.maxLocals = 3 := hml0
  have hown : s.vm.findClass "com/example/usher/usher/gateway/http/Http1Input" = some m.cls := findClass_of_methodNamed Bd.named
  have hnm := (name_of_methodNamed Bd.named Bd.method).1
  have X0 : Stand p l e ({ frames := 4, cells := 0, slots := 0, locals := 53 } : Room) s m #[(.ref a)] below meth c_ s₁ [] 0 0 := Stand.of_body Bd
  have e0 : s₁.heap = h0 := by rw [← hh, Bd.state]; rfl
  have N0 := Fr.nil n0
  have w3_ := hw _ (List.mem_of_getElem? (i := 3) rfl)
  have w26_ := hw _ (List.mem_of_getElem? (i := 26) rfl)
  have w27_ := hw _ (List.mem_of_getElem? (i := 27) rfl)
  have w28_ := hw _ (List.mem_of_getElem? (i := 28) rfl)
  have w29_ := hw _ (List.mem_of_getElem? (i := 29) rfl)
  have w30_ := hw _ (List.mem_of_getElem? (i := 30) rfl)
  have w51_ := hw _ (List.mem_of_getElem? (i := 51) rfl)
  have w52_ := hw _ (List.mem_of_getElem? (i := 52) rfl)
  have w53_ := hw _ (List.mem_of_getElem? (i := 53) rfl)
  have w54_ := hw _ (List.mem_of_getElem? (i := 54) rfl)
  have w55_ := hw _ (List.mem_of_getElem? (i := 55) rfl)
  show Go p e below (RetG s (Q_fv_3 Z a b kb c0 c1 c2 cz fz h0 n0) 0 0) (s₁.setTop (entryFrame m #[(.ref a)] 3))
  rw [show entryFrame m #[(.ref a)] 3 = mkF m 0 #[.val (.ref a), .unset, .unset] [] from by first | (simp [entryFrame, mkF, argsToLocals, Value.category]; done) | rfl]
  refine g_iconst X0 hx hby (0 : Int32) d4_0 rfl ?_
  refine g_istoreN X0 hx hby d4_1 (l' := #[.val (.ref a), .val (.int (0 : Int32)), .unset]) rfl ?_
  refine g_iloadN X0 hx hby d4_2 rfl ?_
  refine g_aloadN X0 hx hby d4_3 rfl rfl ?_
  refine g_virtual X0 hx hby hZ hown (rm_slen_3 l Z a0 hw [] a b kb [(.int (nar .byte (c0.toInt8.toInt32))), (.int (nar .byte (c1.toInt8.toInt32))), (.int (nar .byte (c2.toInt8.toInt32)))] cz h0 n0 Z0 O2 P5 OLD E C VF VB) w26_ w27_ (notFace_of_selects (args := #[]) (mvT hZ w29_)) w29_ w28_ w3_ w30_ (by decide) e0 E (by rw [hml]; rfl) [] (lenOf own_pd3 rfl) rfl rfl (Nat.le_of_ble_eq_true rfl) (Nat.le_of_ble_eq_true rfl) (Nat.le_of_ble_eq_true rfl) (Nat.le_of_ble_eq_true rfl) d4_4 (fun v1 T1 L1 X1 hQ1 => ?_)
  obtain ⟨rfl, N1q, eh1⟩ := hQ1
  have N1 := Fr.app N0 N1q
  refine g_icN X1 hx hby d4_7 (tlt (by decide : (0 : Int32) < (3 : Int32))).2.1 ?_
  refine g_aloadN X1 hx hby d4_10 rfl rfl ?_
  refine g_iloadN X1 hx hby d4_11 rfl ?_
  refine g_virtual X1 hx hby hZ hown (rm_schar_3 l Z a0 hw [] a b kb [(.int (nar .byte (c0.toInt8.toInt32))), (.int (nar .byte (c1.toInt8.toInt32))), (.int (nar .byte (c2.toInt8.toInt32)))] (0 : Int32) (nar .byte (c0.toInt8.toInt32)) fz cz h0 n0 Z0 O2 P5 OLD E C VF VB ⟨by decide, by decide⟩ rfl rfz O4) w51_ w52_ (notFace_of_selects (args := #[]) (mvT hZ w54_)) w54_ w53_ w3_ w55_ (by decide) eh1 E (by rw [hml]; rfl) [(.int (0 : Int32))] (lenOf own_pd18 rfl) rfl rfl (Nat.le_of_ble_eq_true rfl) (Nat.le_of_ble_eq_true rfl) (Nat.le_of_ble_eq_true rfl) (Nat.le_of_ble_eq_true rfl) d4_12 (fun v2 T2 L2 X2 hQ2 => ?_)
  obtain ⟨rfl, N2q, eh2⟩ := hQ2
  have N2 := Fr.app N1 N2q
  refine g_topI (T := T2) c0 (own_byte hr0 hl0) ?_
  refine g_istoreN X2 hx hby d4_15 (l' := #[.val (.ref a), .val (.int (0 : Int32)), .val (.int c0)]) rfl ?_
  have J3 : ∀ (T3 : State) (L3 : List Loc), Stand p l e ({ frames := 4, cells := 0, slots := 0, locals := 53 } : Room) s m #[(.ref a)] below meth c_ T3 L3 0 0 → T3.heap = h0 → Fr n0 L3 → (own_fv c0 = (1 : Int32)) → Go p e below (RetG s (Q_fv_3 Z a b kb c0 c1 c2 cz fz h0 n0) 0 0) (T3.setTop (mkF m 43 #[.val (.ref a), .val (.int (0 : Int32)), .val (.int c0)] [])) := by
    intro T3 L3 X3 e3 N3 hp_c0
    refine g_iinc X3 hx hby (1 : Int32) d4_43 rfl (by decide) (l' := #[.val (.ref a), .val (.int (1 : Int32)), .val (.int c0)]) rfl ?_
    refine g_goto X3 hx hby 2 d4_46 (by decide) (by decide) ?_
    refine g_iloadN X3 hx hby d4_2 rfl ?_
    refine g_aloadN X3 hx hby d4_3 rfl rfl ?_
    refine g_virtual X3 hx hby hZ hown (rm_slen_3 l Z a0 hw [] a b kb [(.int (nar .byte (c0.toInt8.toInt32))), (.int (nar .byte (c1.toInt8.toInt32))), (.int (nar .byte (c2.toInt8.toInt32)))] cz h0 n0 Z0 O2 P5 OLD E C VF VB) w26_ w27_ (notFace_of_selects (args := #[]) (mvT hZ w29_)) w29_ w28_ w3_ w30_ (by decide) e3 E (by rw [hml]; rfl) [] (lenOf own_pd3 rfl) rfl rfl (Nat.le_of_ble_eq_true rfl) (Nat.le_of_ble_eq_true rfl) (Nat.le_of_ble_eq_true rfl) (Nat.le_of_ble_eq_true rfl) d4_4 (fun v4 T4 L4 X4 hQ4 => ?_)
    obtain ⟨rfl, N4q, eh4⟩ := hQ4
    have N4 := Fr.app N3 N4q
    refine g_icN X4 hx hby d4_7 (tlt (by decide : (1 : Int32) < (3 : Int32))).2.1 ?_
    refine g_aloadN X4 hx hby d4_10 rfl rfl ?_
    refine g_iloadN X4 hx hby d4_11 rfl ?_
    refine g_virtual X4 hx hby hZ hown (rm_schar_3 l Z a0 hw [] a b kb [(.int (nar .byte (c0.toInt8.toInt32))), (.int (nar .byte (c1.toInt8.toInt32))), (.int (nar .byte (c2.toInt8.toInt32)))] (1 : Int32) (nar .byte (c1.toInt8.toInt32)) fz cz h0 n0 Z0 O2 P5 OLD E C VF VB ⟨by decide, by decide⟩ rfl rfz O4) w51_ w52_ (notFace_of_selects (args := #[]) (mvT hZ w54_)) w54_ w53_ w3_ w55_ (by decide) eh4 E (by rw [hml]; rfl) [(.int (1 : Int32))] (lenOf own_pd18 rfl) rfl rfl (Nat.le_of_ble_eq_true rfl) (Nat.le_of_ble_eq_true rfl) (Nat.le_of_ble_eq_true rfl) (Nat.le_of_ble_eq_true rfl) d4_12 (fun v5 T5 L5 X5 hQ5 => ?_)
    obtain ⟨rfl, N5q, eh5⟩ := hQ5
    have N5 := Fr.app N4 N5q
    refine g_topI (T := T5) c1 (own_byte hr1 hl1) ?_
    refine g_istoreN X5 hx hby d4_15 (l' := #[.val (.ref a), .val (.int (1 : Int32)), .val (.int c1)]) rfl ?_
    have J6 : ∀ (T6 : State) (L6 : List Loc), Stand p l e ({ frames := 4, cells := 0, slots := 0, locals := 53 } : Room) s m #[(.ref a)] below meth c_ T6 L6 0 0 → T6.heap = h0 → Fr n0 L6 → (own_fv c1 = (1 : Int32)) → Go p e below (RetG s (Q_fv_3 Z a b kb c0 c1 c2 cz fz h0 n0) 0 0) (T6.setTop (mkF m 43 #[.val (.ref a), .val (.int (1 : Int32)), .val (.int c1)] [])) := by
      intro T6 L6 X6 e6 N6 hp_c1
      refine g_iinc X6 hx hby (2 : Int32) d4_43 rfl (by decide) (l' := #[.val (.ref a), .val (.int (2 : Int32)), .val (.int c1)]) rfl ?_
      refine g_goto X6 hx hby 2 d4_46 (by decide) (by decide) ?_
      refine g_iloadN X6 hx hby d4_2 rfl ?_
      refine g_aloadN X6 hx hby d4_3 rfl rfl ?_
      refine g_virtual X6 hx hby hZ hown (rm_slen_3 l Z a0 hw [] a b kb [(.int (nar .byte (c0.toInt8.toInt32))), (.int (nar .byte (c1.toInt8.toInt32))), (.int (nar .byte (c2.toInt8.toInt32)))] cz h0 n0 Z0 O2 P5 OLD E C VF VB) w26_ w27_ (notFace_of_selects (args := #[]) (mvT hZ w29_)) w29_ w28_ w3_ w30_ (by decide) e6 E (by rw [hml]; rfl) [] (lenOf own_pd3 rfl) rfl rfl (Nat.le_of_ble_eq_true rfl) (Nat.le_of_ble_eq_true rfl) (Nat.le_of_ble_eq_true rfl) (Nat.le_of_ble_eq_true rfl) d4_4 (fun v7 T7 L7 X7 hQ7 => ?_)
      obtain ⟨rfl, N7q, eh7⟩ := hQ7
      have N7 := Fr.app N6 N7q
      refine g_icN X7 hx hby d4_7 (tlt (by decide : (2 : Int32) < (3 : Int32))).2.1 ?_
      refine g_aloadN X7 hx hby d4_10 rfl rfl ?_
      refine g_iloadN X7 hx hby d4_11 rfl ?_
      refine g_virtual X7 hx hby hZ hown (rm_schar_3 l Z a0 hw [] a b kb [(.int (nar .byte (c0.toInt8.toInt32))), (.int (nar .byte (c1.toInt8.toInt32))), (.int (nar .byte (c2.toInt8.toInt32)))] (2 : Int32) (nar .byte (c2.toInt8.toInt32)) fz cz h0 n0 Z0 O2 P5 OLD E C VF VB ⟨by decide, by decide⟩ rfl rfz O4) w51_ w52_ (notFace_of_selects (args := #[]) (mvT hZ w54_)) w54_ w53_ w3_ w55_ (by decide) eh7 E (by rw [hml]; rfl) [(.int (2 : Int32))] (lenOf own_pd18 rfl) rfl rfl (Nat.le_of_ble_eq_true rfl) (Nat.le_of_ble_eq_true rfl) (Nat.le_of_ble_eq_true rfl) (Nat.le_of_ble_eq_true rfl) d4_12 (fun v8 T8 L8 X8 hQ8 => ?_)
      obtain ⟨rfl, N8q, eh8⟩ := hQ8
      have N8 := Fr.app N7 N8q
      refine g_topI (T := T8) c2 (own_byte hr2 hl2) ?_
      refine g_istoreN X8 hx hby d4_15 (l' := #[.val (.ref a), .val (.int (2 : Int32)), .val (.int c2)]) rfl ?_
      have J9 : ∀ (T9 : State) (L9 : List Loc), Stand p l e ({ frames := 4, cells := 0, slots := 0, locals := 53 } : Room) s m #[(.ref a)] below meth c_ T9 L9 0 0 → T9.heap = h0 → Fr n0 L9 → (own_fv c2 = (1 : Int32)) → Go p e below (RetG s (Q_fv_3 Z a b kb c0 c1 c2 cz fz h0 n0) 0 0) (T9.setTop (mkF m 43 #[.val (.ref a), .val (.int (2 : Int32)), .val (.int c2)] [])) := by
        intro T9 L9 X9 e9 N9 hp_c2
        refine g_iinc X9 hx hby (3 : Int32) d4_43 rfl (by decide) (l' := #[.val (.ref a), .val (.int (3 : Int32)), .val (.int c2)]) rfl ?_
        refine g_goto X9 hx hby 2 d4_46 (by decide) (by decide) ?_
        refine g_iloadN X9 hx hby d4_2 rfl ?_
        refine g_aloadN X9 hx hby d4_3 rfl rfl ?_
        refine g_virtual X9 hx hby hZ hown (rm_slen_3 l Z a0 hw [] a b kb [(.int (nar .byte (c0.toInt8.toInt32))), (.int (nar .byte (c1.toInt8.toInt32))), (.int (nar .byte (c2.toInt8.toInt32)))] cz h0 n0 Z0 O2 P5 OLD E C VF VB) w26_ w27_ (notFace_of_selects (args := #[]) (mvT hZ w29_)) w29_ w28_ w3_ w30_ (by decide) e9 E (by rw [hml]; rfl) [] (lenOf own_pd3 rfl) rfl rfl (Nat.le_of_ble_eq_true rfl) (Nat.le_of_ble_eq_true rfl) (Nat.le_of_ble_eq_true rfl) (Nat.le_of_ble_eq_true rfl) d4_4 (fun v10 T10 L10 X10 hQ10 => ?_)
        obtain ⟨rfl, N10q, eh10⟩ := hQ10
        have N10 := Fr.app N9 N10q
        refine g_icY X10 hx hby 49 d4_7 (flt (by decide : ¬ ((3 : Int32) < (3 : Int32)))).2.1 (by decide) (by decide) ?_
        refine g_iconst X10 hx hby (1 : Int32) d4_49 rfl ?_
        refine g_nret X10 hx hby (t := .boolean) (by simp) Bd.returns Bd.notSynchronized d4_50 eh10 (by decide) (by decide) ?_
        show (Q_fv_3 Z a b kb c0 c1 c2 cz fz h0 n0) (some (.int (1 : Int32))) _ _
        exact ⟨by simp [own_fvs, hp_c0, hp_c1, hp_c2], N10, rfl⟩
      refine g_iloadN X8 hx hby d4_16 rfl ?_
      refine g_bipush X8 hx hby (32 : Int32) d4_17 rfl ?_
      by_cases hc19_11 : c2 < (32 : Int32)
      · skip
        refine g_icN X8 hx hby d4_19 (tlt hc19_11).2.1 ?_
        refine g_iloadN X8 hx hby d4_22 rfl ?_
        refine g_bipush X8 hx hby (9 : Int32) d4_23 rfl ?_
        by_cases hc25_12 : c2 = (9 : Int32)
        · skip
          refine g_icN X8 hx hby d4_25 (teq hc25_12).2 ?_
          refine g_iloadN X8 hx hby d4_28 rfl ?_
          refine g_at 29 rfl rfl rfl ?_
          refine g_bipush X8 hx hby (127 : Int32) d4_29 rfl ?_
          by_cases hc31_13 : c2 = (127 : Int32)
          · skip
            refine g_icY X8 hx hby 41 d4_31 (teq hc31_13).1 (by decide) (by decide) ?_
            refine g_iconst X8 hx hby (0 : Int32) d4_41 rfl ?_
            refine g_nret X8 hx hby (t := .boolean) (by simp) Bd.returns Bd.notSynchronized d4_42 eh8 (by decide) (by decide) ?_
            show (Q_fv_3 Z a b kb c0 c1 c2 cz fz h0 n0) (some (.int (0 : Int32))) _ _
            have hz : own_fv c2 = (0 : Int32) := by first | (simp [own_fv, hc19_11, hc25_12, hc31_13]; done) | (exact absurd hc19_11 (by rw [hc25_12]; decide)) | (exact absurd hc31_13 (by rw [hc25_12]; decide))
            exact ⟨by simp [own_fvs, hz, hp_c0, hp_c1], N8, rfl⟩
          · skip
            refine g_icN X8 hx hby d4_31 (feq hc31_13).1 ?_
            refine g_iloadN X8 hx hby d4_34 rfl ?_
            refine g_sipush X8 hx hby (255 : Int32) d4_35 rfl ?_
            by_cases hc38_14 : (255 : Int32) < c2
            · skip
              refine g_icN X8 hx hby d4_38 (tlt hc38_14).2.2.2 ?_
              refine g_iconst X8 hx hby (0 : Int32) d4_41 rfl ?_
              refine g_nret X8 hx hby (t := .boolean) (by simp) Bd.returns Bd.notSynchronized d4_42 eh8 (by decide) (by decide) ?_
              show (Q_fv_3 Z a b kb c0 c1 c2 cz fz h0 n0) (some (.int (0 : Int32))) _ _
              have hz : own_fv c2 = (0 : Int32) := by first | (simp [own_fv, hc19_11, hc25_12, hc31_13, hc38_14]; done) | (exact absurd hc19_11 (by rw [hc25_12]; decide)) | (exact absurd hc38_14 (by rw [hc25_12]; decide))
              exact ⟨by simp [own_fvs, hz, hp_c0, hp_c1], N8, rfl⟩
            · skip
              refine g_icY X8 hx hby 43 d4_38 (flt hc38_14).2.2.2 (by decide) (by decide) ?_
              exact J9 _ _ X8 eh8 N8 (by simp [own_fv, hc19_11, hc25_12, hc31_13, hc38_14])
        · skip
          refine g_icY X8 hx hby 41 d4_25 (feq hc25_12).2 (by decide) (by decide) ?_
          refine g_iconst X8 hx hby (0 : Int32) d4_41 rfl ?_
          refine g_nret X8 hx hby (t := .boolean) (by simp) Bd.returns Bd.notSynchronized d4_42 eh8 (by decide) (by decide) ?_
          show (Q_fv_3 Z a b kb c0 c1 c2 cz fz h0 n0) (some (.int (0 : Int32))) _ _
          have hz : own_fv c2 = (0 : Int32) := by first | (simp [own_fv, hc19_11, hc25_12]; done)
          exact ⟨by simp [own_fvs, hz, hp_c0, hp_c1], N8, rfl⟩
      · skip
        refine g_icY X8 hx hby 28 d4_19 (flt hc19_11).2.1 (by decide) (by decide) ?_
        refine g_iloadN X8 hx hby d4_28 rfl ?_
        refine g_bipush X8 hx hby (127 : Int32) d4_29 rfl ?_
        by_cases hc31_15 : c2 = (127 : Int32)
        · skip
          refine g_icY X8 hx hby 41 d4_31 (teq hc31_15).1 (by decide) (by decide) ?_
          refine g_iconst X8 hx hby (0 : Int32) d4_41 rfl ?_
          refine g_nret X8 hx hby (t := .boolean) (by simp) Bd.returns Bd.notSynchronized d4_42 eh8 (by decide) (by decide) ?_
          show (Q_fv_3 Z a b kb c0 c1 c2 cz fz h0 n0) (some (.int (0 : Int32))) _ _
          have hz : own_fv c2 = (0 : Int32) := by first | (simp [own_fv, hc19_11, hc31_15]; done)
          exact ⟨by simp [own_fvs, hz, hp_c0, hp_c1], N8, rfl⟩
        · skip
          refine g_icN X8 hx hby d4_31 (feq hc31_15).1 ?_
          refine g_iloadN X8 hx hby d4_34 rfl ?_
          refine g_sipush X8 hx hby (255 : Int32) d4_35 rfl ?_
          by_cases hc38_16 : (255 : Int32) < c2
          · skip
            refine g_icN X8 hx hby d4_38 (tlt hc38_16).2.2.2 ?_
            refine g_iconst X8 hx hby (0 : Int32) d4_41 rfl ?_
            refine g_nret X8 hx hby (t := .boolean) (by simp) Bd.returns Bd.notSynchronized d4_42 eh8 (by decide) (by decide) ?_
            show (Q_fv_3 Z a b kb c0 c1 c2 cz fz h0 n0) (some (.int (0 : Int32))) _ _
            have hz : own_fv c2 = (0 : Int32) := by first | (simp [own_fv, hc19_11, hc31_15, hc38_16]; done)
            exact ⟨by simp [own_fvs, hz, hp_c0, hp_c1], N8, rfl⟩
          · skip
            refine g_icY X8 hx hby 43 d4_38 (flt hc38_16).2.2.2 (by decide) (by decide) ?_
            exact J9 _ _ X8 eh8 N8 (by simp [own_fv, hc19_11, hc31_15, hc38_16])
    refine g_iloadN X5 hx hby d4_16 rfl ?_
    refine g_bipush X5 hx hby (32 : Int32) d4_17 rfl ?_
    by_cases hc19_17 : c1 < (32 : Int32)
    · skip
      refine g_icN X5 hx hby d4_19 (tlt hc19_17).2.1 ?_
      refine g_iloadN X5 hx hby d4_22 rfl ?_
      refine g_bipush X5 hx hby (9 : Int32) d4_23 rfl ?_
      by_cases hc25_18 : c1 = (9 : Int32)
      · skip
        refine g_icN X5 hx hby d4_25 (teq hc25_18).2 ?_
        refine g_iloadN X5 hx hby d4_28 rfl ?_
        refine g_at 29 rfl rfl rfl ?_
        refine g_bipush X5 hx hby (127 : Int32) d4_29 rfl ?_
        by_cases hc31_19 : c1 = (127 : Int32)
        · skip
          refine g_icY X5 hx hby 41 d4_31 (teq hc31_19).1 (by decide) (by decide) ?_
          refine g_iconst X5 hx hby (0 : Int32) d4_41 rfl ?_
          refine g_nret X5 hx hby (t := .boolean) (by simp) Bd.returns Bd.notSynchronized d4_42 eh5 (by decide) (by decide) ?_
          show (Q_fv_3 Z a b kb c0 c1 c2 cz fz h0 n0) (some (.int (0 : Int32))) _ _
          have hz : own_fv c1 = (0 : Int32) := by first | (simp [own_fv, hc19_17, hc25_18, hc31_19]; done) | (exact absurd hc19_17 (by rw [hc25_18]; decide)) | (exact absurd hc31_19 (by rw [hc25_18]; decide))
          exact ⟨by simp [own_fvs, hz, hp_c0], N5, rfl⟩
        · skip
          refine g_icN X5 hx hby d4_31 (feq hc31_19).1 ?_
          refine g_iloadN X5 hx hby d4_34 rfl ?_
          refine g_sipush X5 hx hby (255 : Int32) d4_35 rfl ?_
          by_cases hc38_20 : (255 : Int32) < c1
          · skip
            refine g_icN X5 hx hby d4_38 (tlt hc38_20).2.2.2 ?_
            refine g_iconst X5 hx hby (0 : Int32) d4_41 rfl ?_
            refine g_nret X5 hx hby (t := .boolean) (by simp) Bd.returns Bd.notSynchronized d4_42 eh5 (by decide) (by decide) ?_
            show (Q_fv_3 Z a b kb c0 c1 c2 cz fz h0 n0) (some (.int (0 : Int32))) _ _
            have hz : own_fv c1 = (0 : Int32) := by first | (simp [own_fv, hc19_17, hc25_18, hc31_19, hc38_20]; done) | (exact absurd hc19_17 (by rw [hc25_18]; decide)) | (exact absurd hc38_20 (by rw [hc25_18]; decide))
            exact ⟨by simp [own_fvs, hz, hp_c0], N5, rfl⟩
          · skip
            refine g_icY X5 hx hby 43 d4_38 (flt hc38_20).2.2.2 (by decide) (by decide) ?_
            exact J6 _ _ X5 eh5 N5 (by simp [own_fv, hc19_17, hc25_18, hc31_19, hc38_20])
      · skip
        refine g_icY X5 hx hby 41 d4_25 (feq hc25_18).2 (by decide) (by decide) ?_
        refine g_iconst X5 hx hby (0 : Int32) d4_41 rfl ?_
        refine g_nret X5 hx hby (t := .boolean) (by simp) Bd.returns Bd.notSynchronized d4_42 eh5 (by decide) (by decide) ?_
        show (Q_fv_3 Z a b kb c0 c1 c2 cz fz h0 n0) (some (.int (0 : Int32))) _ _
        have hz : own_fv c1 = (0 : Int32) := by first | (simp [own_fv, hc19_17, hc25_18]; done)
        exact ⟨by simp [own_fvs, hz, hp_c0], N5, rfl⟩
    · skip
      refine g_icY X5 hx hby 28 d4_19 (flt hc19_17).2.1 (by decide) (by decide) ?_
      refine g_iloadN X5 hx hby d4_28 rfl ?_
      refine g_bipush X5 hx hby (127 : Int32) d4_29 rfl ?_
      by_cases hc31_21 : c1 = (127 : Int32)
      · skip
        refine g_icY X5 hx hby 41 d4_31 (teq hc31_21).1 (by decide) (by decide) ?_
        refine g_iconst X5 hx hby (0 : Int32) d4_41 rfl ?_
        refine g_nret X5 hx hby (t := .boolean) (by simp) Bd.returns Bd.notSynchronized d4_42 eh5 (by decide) (by decide) ?_
        show (Q_fv_3 Z a b kb c0 c1 c2 cz fz h0 n0) (some (.int (0 : Int32))) _ _
        have hz : own_fv c1 = (0 : Int32) := by first | (simp [own_fv, hc19_17, hc31_21]; done)
        exact ⟨by simp [own_fvs, hz, hp_c0], N5, rfl⟩
      · skip
        refine g_icN X5 hx hby d4_31 (feq hc31_21).1 ?_
        refine g_iloadN X5 hx hby d4_34 rfl ?_
        refine g_sipush X5 hx hby (255 : Int32) d4_35 rfl ?_
        by_cases hc38_22 : (255 : Int32) < c1
        · skip
          refine g_icN X5 hx hby d4_38 (tlt hc38_22).2.2.2 ?_
          refine g_iconst X5 hx hby (0 : Int32) d4_41 rfl ?_
          refine g_nret X5 hx hby (t := .boolean) (by simp) Bd.returns Bd.notSynchronized d4_42 eh5 (by decide) (by decide) ?_
          show (Q_fv_3 Z a b kb c0 c1 c2 cz fz h0 n0) (some (.int (0 : Int32))) _ _
          have hz : own_fv c1 = (0 : Int32) := by first | (simp [own_fv, hc19_17, hc31_21, hc38_22]; done)
          exact ⟨by simp [own_fvs, hz, hp_c0], N5, rfl⟩
        · skip
          refine g_icY X5 hx hby 43 d4_38 (flt hc38_22).2.2.2 (by decide) (by decide) ?_
          exact J6 _ _ X5 eh5 N5 (by simp [own_fv, hc19_17, hc31_21, hc38_22])
  refine g_iloadN X2 hx hby d4_16 rfl ?_
  refine g_bipush X2 hx hby (32 : Int32) d4_17 rfl ?_
  by_cases hc19_23 : c0 < (32 : Int32)
  · skip
    refine g_icN X2 hx hby d4_19 (tlt hc19_23).2.1 ?_
    refine g_iloadN X2 hx hby d4_22 rfl ?_
    refine g_bipush X2 hx hby (9 : Int32) d4_23 rfl ?_
    refine g_at 25 rfl rfl rfl ?_
    by_cases hc25_24 : c0 = (9 : Int32)
    · skip
      refine g_icN X2 hx hby d4_25 (teq hc25_24).2 ?_
      refine g_iloadN X2 hx hby d4_28 rfl ?_
      refine g_bipush X2 hx hby (127 : Int32) d4_29 rfl ?_
      by_cases hc31_25 : c0 = (127 : Int32)
      · skip
        refine g_icY X2 hx hby 41 d4_31 (teq hc31_25).1 (by decide) (by decide) ?_
        refine g_iconst X2 hx hby (0 : Int32) d4_41 rfl ?_
        refine g_nret X2 hx hby (t := .boolean) (by simp) Bd.returns Bd.notSynchronized d4_42 eh2 (by decide) (by decide) ?_
        show (Q_fv_3 Z a b kb c0 c1 c2 cz fz h0 n0) (some (.int (0 : Int32))) _ _
        have hz : own_fv c0 = (0 : Int32) := by first | (simp [own_fv, hc19_23, hc25_24, hc31_25]; done) | (exact absurd hc19_23 (by rw [hc25_24]; decide)) | (exact absurd hc31_25 (by rw [hc25_24]; decide))
        exact ⟨by simp [own_fvs, hz], N2, rfl⟩
      · skip
        refine g_icN X2 hx hby d4_31 (feq hc31_25).1 ?_
        refine g_iloadN X2 hx hby d4_34 rfl ?_
        refine g_sipush X2 hx hby (255 : Int32) d4_35 rfl ?_
        by_cases hc38_26 : (255 : Int32) < c0
        · skip
          refine g_icN X2 hx hby d4_38 (tlt hc38_26).2.2.2 ?_
          refine g_iconst X2 hx hby (0 : Int32) d4_41 rfl ?_
          refine g_nret X2 hx hby (t := .boolean) (by simp) Bd.returns Bd.notSynchronized d4_42 eh2 (by decide) (by decide) ?_
          show (Q_fv_3 Z a b kb c0 c1 c2 cz fz h0 n0) (some (.int (0 : Int32))) _ _
          have hz : own_fv c0 = (0 : Int32) := by first | (simp [own_fv, hc19_23, hc25_24, hc31_25, hc38_26]; done) | (exact absurd hc19_23 (by rw [hc25_24]; decide)) | (exact absurd hc38_26 (by rw [hc25_24]; decide))
          exact ⟨by simp [own_fvs, hz], N2, rfl⟩
        · skip
          refine g_icY X2 hx hby 43 d4_38 (flt hc38_26).2.2.2 (by decide) (by decide) ?_
          exact J3 _ _ X2 eh2 N2 (by simp [own_fv, hc19_23, hc25_24, hc31_25, hc38_26])
    · skip
      refine g_icY X2 hx hby 41 d4_25 (feq hc25_24).2 (by decide) (by decide) ?_
      refine g_iconst X2 hx hby (0 : Int32) d4_41 rfl ?_
      refine g_nret X2 hx hby (t := .boolean) (by simp) Bd.returns Bd.notSynchronized d4_42 eh2 (by decide) (by decide) ?_
      show (Q_fv_3 Z a b kb c0 c1 c2 cz fz h0 n0) (some (.int (0 : Int32))) _ _
      have hz : own_fv c0 = (0 : Int32) := by first | (simp [own_fv, hc19_23, hc25_24]; done)
      exact ⟨by simp [own_fvs, hz], N2, rfl⟩
  · skip
    refine g_icY X2 hx hby 28 d4_19 (flt hc19_23).2.1 (by decide) (by decide) ?_
    refine g_iloadN X2 hx hby d4_28 rfl ?_
    refine g_bipush X2 hx hby (127 : Int32) d4_29 rfl ?_
    by_cases hc31_27 : c0 = (127 : Int32)
    · skip
      refine g_icY X2 hx hby 41 d4_31 (teq hc31_27).1 (by decide) (by decide) ?_
      refine g_iconst X2 hx hby (0 : Int32) d4_41 rfl ?_
      refine g_nret X2 hx hby (t := .boolean) (by simp) Bd.returns Bd.notSynchronized d4_42 eh2 (by decide) (by decide) ?_
      show (Q_fv_3 Z a b kb c0 c1 c2 cz fz h0 n0) (some (.int (0 : Int32))) _ _
      have hz : own_fv c0 = (0 : Int32) := by first | (simp [own_fv, hc19_23, hc31_27]; done)
      exact ⟨by simp [own_fvs, hz], N2, rfl⟩
    · skip
      refine g_icN X2 hx hby d4_31 (feq hc31_27).1 ?_
      refine g_iloadN X2 hx hby d4_34 rfl ?_
      refine g_sipush X2 hx hby (255 : Int32) d4_35 rfl ?_
      by_cases hc38_28 : (255 : Int32) < c0
      · skip
        refine g_icN X2 hx hby d4_38 (tlt hc38_28).2.2.2 ?_
        refine g_iconst X2 hx hby (0 : Int32) d4_41 rfl ?_
        refine g_nret X2 hx hby (t := .boolean) (by simp) Bd.returns Bd.notSynchronized d4_42 eh2 (by decide) (by decide) ?_
        show (Q_fv_3 Z a b kb c0 c1 c2 cz fz h0 n0) (some (.int (0 : Int32))) _ _
        have hz : own_fv c0 = (0 : Int32) := by first | (simp [own_fv, hc19_23, hc31_27, hc38_28]; done)
        exact ⟨by simp [own_fvs, hz], N2, rfl⟩
      · skip
        refine g_icY X2 hx hby 43 d4_38 (flt hc38_28).2.2.2 (by decide) (by decide) ?_
        exact J3 _ _ X2 eh2 N2 (by simp [own_fv, hc19_23, hc31_27, hc38_28])

def Q_law (Z : State) (x0 : Int32) (x1 : Int32) (x2 : Int32) (x3 : Int32) (fz : Value) (cz : Int32) (h0 : Heap) (n0 : Nat) (v : Option Value) (h : Heap) (L : List Loc) : Prop := v = some (.int 1) ∧ Fr n0 L
set_option maxRecDepth 65536 in
set_option maxHeartbeats 40000000 in
theorem rm_law (l : Launch) (Z : State) (a0 : Array Value) (hw : ∀ d ∈ tables_1, d.before a0 Z = true) (ws : List Jvm.Cond) (x0 : Int32) (x1 : Int32) (x2 : Int32) (x3 : Int32) (fz : Value) (cz : Int32) (h0 : Heap) (n0 : Nat) (Z0 : n0 ≤ h0.size) (O2 : Sta Z Z.heap "java/lang/String" "COMPACT_STRINGS" "Z" (.int cz)) (P5 : ¬ cz = (0 : Int32)) (OLD : Old Z n0 h0) (Uad : Sta Z Z.heap "java/lang/StringUTF16" "$assertionsDisabled" "Z" (.int (1 : Int32))) (Uhi : Sta Z Z.heap "java/lang/StringUTF16" "HI_BYTE_SHIFT" "I" (.int (0 : Int32))) (Ulo : Sta Z Z.heap "java/lang/StringUTF16" "LO_BYTE_SHIFT" "I" (.int (8 : Int32))) (rfz : Rf fz) (O4 : Sta Z Z.heap "jdk/internal/util/Preconditions" "SIOOBE_FORMATTER" "Ljava/util/function/BiFunction;" fz) (hheld : Jvm.Lit.constHeld Z "java/lang/String" 7) (hcw : Jvm.Lit.compactW.before a0 Z = true) :
    MetFree l Jvm.Pilot.@@N@@.x (head1 (Jvm.Cond.code Jvm.Pilot.@@N@@.x Jvm.Pilot.@@N@@.code Jvm.Pilot.@@N@@.maxLocals Jvm.Pilot.@@N@@.ret :: ws) room_1) (fun aa_ U => aa_ = #[(.int x0), (.int x1), (.int x2), (.int x3)] ∧ (Z.Warmed39 U.vm ∧ U.vm.interned = Z.vm.interned) ∧ U.heap = h0) (fun _ _ _ _ _ => True) (fun _ U o_ U' => RetW U (Q_law Z x0 x1 x2 x3 fz cz h0 n0) 24 1152 U' o_) := by
  refine MetFree.of_bodySF (plainFor_of_name own_pn0) hisR ?_
  intro p e s m args below meth c_ s₁ Bd hml0 hP hK
  obtain ⟨rfl, ⟨hZ, hI0⟩, hh⟩ := hP
  have hx := Bd.exec
  have hby := Bd.bytes
  have hml : c_.maxLocals = 14 := hml0
  have hS0 : s.Since s.vm 0 := (State.WarmedH.refl s).since 0
  have hown : s.vm.findClass "com/example/usher/usher/gateway/http/Http1InputIsFieldValuePinLaw" = some m.cls := findClass_of_methodNamed Bd.named
  have hnm := (name_of_methodNamed Bd.named Bd.method).1
  have X0 : Stand p l e room_1 (s.setVm s.vm) m #[(.int x0), (.int x1), (.int x2), (.int x3)] below meth c_ s₁ [] 0 0 := Stand.of_body Bd
  have e0 : s₁.heap = h0 := by rw [← hh, Bd.state]; rfl
  have N0 := Fr.nil n0
  have w0_ := hw _ (List.mem_of_getElem? (i := 0) rfl)
  have w1_ := hw _ (List.mem_of_getElem? (i := 1) rfl)
  have w2_ := hw _ (List.mem_of_getElem? (i := 2) rfl)
  have w3_ := hw _ (List.mem_of_getElem? (i := 3) rfl)
  have w4_ := hw _ (List.mem_of_getElem? (i := 4) rfl)
  have w5_ := hw _ (List.mem_of_getElem? (i := 5) rfl)
  have w6_ := hw _ (List.mem_of_getElem? (i := 6) rfl)
  have w16_ := hw _ (List.mem_of_getElem? (i := 16) rfl)
  have w17_ := hw _ (List.mem_of_getElem? (i := 17) rfl)
  have w22_ := hw _ (List.mem_of_getElem? (i := 22) rfl)
  have w23_ := hw _ (List.mem_of_getElem? (i := 23) rfl)
  have w24_ := hw _ (List.mem_of_getElem? (i := 24) rfl)
  have w25_ := hw _ (List.mem_of_getElem? (i := 25) rfl)
  have w47_ := hw _ (List.mem_of_getElem? (i := 47) rfl)
  have w48_ := hw _ (List.mem_of_getElem? (i := 48) rfl)
  have w49_ := hw _ (List.mem_of_getElem? (i := 49) rfl)
  have w50_ := hw _ (List.mem_of_getElem? (i := 50) rfl)
  show Go p e below (RetW s (Q_law Z x0 x1 x2 x3 fz cz h0 n0) 24 1152) (s₁.setTop (entryFrame m #[(.int x0), (.int x1), (.int x2), (.int x3)] maxLocals))
  rw [show entryFrame m #[(.int x0), (.int x1), (.int x2), (.int x3)] maxLocals = mkF m 0 #[.val (.int x0), .val (.int x1), .val (.int x2), .val (.int x3), .unset, .unset, .unset, .unset, .unset, .unset, .unset, .unset, .unset, .unset] [] from by first | (simp [entryFrame, mkF, argsToLocals, Value.category, maxLocals]; done) | rfl]
  refine g_iloadN X0 hx hby at_0 rfl ?_
  refine g_i2c X0 hx hby at_1 ?_
  refine g_istore X0 hx hby at_2 (l' := #[.val (.int x0), .val (.int x1), .val (.int x2), .val (.int x3), .val (.int (x1.toUInt32.toUInt16.toUInt32.toInt32)), .unset, .unset, .unset, .unset, .unset, .unset, .unset, .unset, .unset]) rfl ?_
  obtain ⟨d0, e_d0⟩ : ∃ z, z = (x1.toUInt32.toUInt16.toUInt32.toInt32) := ⟨_, rfl⟩
  have hr_d0 : 0 ≤ d0.toInt ∧ d0.toInt < 65536 := by rw [e_d0]; exact own_rng _
  rw [← e_d0]
  clear e_d0
  refine g_iloadN X0 hx hby at_4 rfl ?_
  refine g_i2c X0 hx hby at_5 ?_
  refine g_istore X0 hx hby at_6 (l' := #[.val (.int x0), .val (.int x1), .val (.int x2), .val (.int x3), .val (.int d0), .val (.int (x2.toUInt32.toUInt16.toUInt32.toInt32)), .unset, .unset, .unset, .unset, .unset, .unset, .unset, .unset]) rfl ?_
  obtain ⟨d1, e_d1⟩ : ∃ z, z = (x2.toUInt32.toUInt16.toUInt32.toInt32) := ⟨_, rfl⟩
  have hr_d1 : 0 ≤ d1.toInt ∧ d1.toInt < 65536 := by rw [e_d1]; exact own_rng _
  rw [← e_d1]
  clear e_d1
  refine g_iloadN X0 hx hby at_8 rfl ?_
  refine g_i2c X0 hx hby at_9 ?_
  refine g_istore X0 hx hby at_10 (l' := #[.val (.int x0), .val (.int x1), .val (.int x2), .val (.int x3), .val (.int d0), .val (.int d1), .val (.int (x3.toUInt32.toUInt16.toUInt32.toInt32)), .unset, .unset, .unset, .unset, .unset, .unset, .unset]) rfl ?_
  obtain ⟨d2, e_d2⟩ : ∃ z, z = (x3.toUInt32.toUInt16.toUInt32.toInt32) := ⟨_, rfl⟩
  have hr_d2 : 0 ≤ d2.toInt ∧ d2.toInt < 65536 := by rw [e_d2]; exact own_rng _
  rw [← e_d2]
  clear e_d2
  refine g_iconst X0 hx hby (0 : Int32) at_12 rfl ?_
  refine g_newarray X0 hx hby hZ .char .char (.int (0 : Int32)) [] rfl rfl w0_ e0 (by decide) 0 rfl (by decide) (by decide) (by decide) (by decide) at_13 (fun T1 h1 k1 b1 g1 X1 e1 E1 V1 => ?_)
  refine g_astore X1 hx hby at_15 rfl (l' := #[.val (.int x0), .val (.int x1), .val (.int x2), .val (.int x3), .val (.int d0), .val (.int d1), .val (.int d2), .val (.ref b1), .unset, .unset, .unset, .unset, .unset, .unset]) rfl ?_
  refine g_iconst X1 hx hby (1 : Int32) at_17 rfl ?_
  refine g_newarray X1 hx hby hZ .char .char (.int (0 : Int32)) [(.int (0 : Int32))] rfl rfl w0_ e1 (by decide) 1 rfl (by decide) (by decide) (by decide) (by decide) at_18 (fun T2 h2 k2 b2 g2 X2 e2 E2 V2 => ?_)
  refine g_dup X2 hx hby at_20 rfl ?_
  refine g_iconst X2 hx hby (0 : Int32) at_21 rfl ?_
  refine g_iload X2 hx hby at_22 rfl ?_
  have g_b2 : n0 ≤ b2 := Nat.le_trans (Nat.le_trans Z0 E1.1) (Nat.le_of_eq g2)
  refine g_castore X2 hx hby hZ e2 V2 0 [(.int (nar .char d0))] rfl ⟨by decide, by decide⟩ rfl (Nat.le_of_ble_eq_true rfl) N0 g_b2 at_24 (fun T3 h3 X3 e3 W3 V3 N3 => ?_)
  refine g_astore X3 hx hby at_25 rfl (l' := #[.val (.int x0), .val (.int x1), .val (.int x2), .val (.int x3), .val (.int d0), .val (.int d1), .val (.int d2), .val (.ref b1), .val (.ref b2), .unset, .unset, .unset, .unset, .unset]) rfl ?_
  refine g_iconst X3 hx hby (2 : Int32) at_27 rfl ?_
  refine g_newarray X3 hx hby hZ .char .char (.int (0 : Int32)) [(.int (0 : Int32)), (.int (0 : Int32))] rfl rfl w0_ e3 (by decide) 2 rfl (by decide) (by decide) (by decide) (by decide) at_28 (fun T4 h4 k4 b4 g4 X4 e4 E4 V4 => ?_)
  refine g_dup X4 hx hby at_30 rfl ?_
  refine g_iconst X4 hx hby (0 : Int32) at_31 rfl ?_
  refine g_iload X4 hx hby at_32 rfl ?_
  have g_b4 : n0 ≤ b4 := Nat.le_trans (Nat.le_trans Z0 (Nat.le_trans (Nat.le_trans E1.1 E2.1) (Keep.of_wr W3).1)) (Nat.le_of_eq g4)
  refine g_castore X4 hx hby hZ e4 V4 0 [(.int (nar .char d0)), (.int (0 : Int32))] rfl ⟨by decide, by decide⟩ rfl (Nat.le_of_ble_eq_true rfl) N3 g_b4 at_34 (fun T5 h5 X5 e5 W5 V5 N5 => ?_)
  refine g_at 35 rfl rfl rfl ?_
  refine g_dup X5 hx hby at_35 rfl ?_
  refine g_iconst X5 hx hby (1 : Int32) at_36 rfl ?_
  refine g_iload X5 hx hby at_37 rfl ?_
  refine g_castore X5 hx hby hZ e5 V5 1 [(.int (nar .char d0)), (.int (nar .char d1))] rfl ⟨by decide, by decide⟩ rfl (Nat.le_of_ble_eq_true rfl) N5 g_b4 at_39 (fun T6 h6 X6 e6 W6 V6 N6 => ?_)
  refine g_astore X6 hx hby at_40 rfl (l' := #[.val (.int x0), .val (.int x1), .val (.int x2), .val (.int x3), .val (.int d0), .val (.int d1), .val (.int d2), .val (.ref b1), .val (.ref b2), .val (.ref b4), .unset, .unset, .unset, .unset]) rfl ?_
  refine g_iconst X6 hx hby (3 : Int32) at_42 rfl ?_
  refine g_newarray X6 hx hby hZ .char .char (.int (0 : Int32)) [(.int (0 : Int32)), (.int (0 : Int32)), (.int (0 : Int32))] rfl rfl w0_ e6 (by decide) 3 rfl (by decide) (by decide) (by decide) (by decide) at_43 (fun T7 h7 k7 b7 g7 X7 e7 E7 V7 => ?_)
  refine g_dup X7 hx hby at_45 rfl ?_
  refine g_iconst X7 hx hby (0 : Int32) at_46 rfl ?_
  refine g_iload X7 hx hby at_47 rfl ?_
  have g_b7 : n0 ≤ b7 := Nat.le_trans (Nat.le_trans Z0 (Nat.le_trans (Nat.le_trans (Nat.le_trans (Nat.le_trans (Nat.le_trans E1.1 E2.1) (Keep.of_wr W3).1) E4.1) (Keep.of_wr W5).1) (Keep.of_wr W6).1)) (Nat.le_of_eq g7)
  refine g_castore X7 hx hby hZ e7 V7 0 [(.int (nar .char d0)), (.int (0 : Int32)), (.int (0 : Int32))] rfl ⟨by decide, by decide⟩ rfl (Nat.le_of_ble_eq_true rfl) N6 g_b7 at_49 (fun T8 h8 X8 e8 W8 V8 N8 => ?_)
  refine g_dup X8 hx hby at_50 rfl ?_
  refine g_iconst X8 hx hby (1 : Int32) at_51 rfl ?_
  refine g_iload X8 hx hby at_52 rfl ?_
  refine g_castore X8 hx hby hZ e8 V8 1 [(.int (nar .char d0)), (.int (nar .char d1)), (.int (0 : Int32))] rfl ⟨by decide, by decide⟩ rfl (Nat.le_of_ble_eq_true rfl) N8 g_b7 at_54 (fun T9 h9 X9 e9 W9 V9 N9 => ?_)
  refine g_dup X9 hx hby at_55 rfl ?_
  refine g_iconst X9 hx hby (2 : Int32) at_56 rfl ?_
  refine g_iload X9 hx hby at_57 rfl ?_
  refine g_castore X9 hx hby hZ e9 V9 2 [(.int (nar .char d0)), (.int (nar .char d1)), (.int (nar .char d2))] rfl ⟨by decide, by decide⟩ rfl (Nat.le_of_ble_eq_true rfl) N9 g_b7 at_59 (fun T10 h10 X10 e10 W10 V10 N10 => ?_)
  refine g_astore X10 hx hby at_60 rfl (l' := #[.val (.int x0), .val (.int x1), .val (.int x2), .val (.int x3), .val (.int d0), .val (.int d1), .val (.int d2), .val (.ref b1), .val (.ref b2), .val (.ref b4), .val (.ref b7), .unset, .unset, .unset]) rfl ?_
  refine g_iloadN X10 hx hby at_62 rfl ?_
  refine g_iconst X10 hx hby (3 : Int32) at_63 rfl ?_
  refine g_iand X10 hx hby at_64 ?_
  refine g_istore X10 hx hby at_65 (l' := #[.val (.int x0), .val (.int x1), .val (.int x2), .val (.int x3), .val (.int d0), .val (.int d1), .val (.int d2), .val (.ref b1), .val (.ref b2), .val (.ref b4), .val (.ref b7), .val (.int (x0 &&& (3 : Int32))), .unset, .unset]) rfl ?_
  have ne11 : b2 ≠ b4 := (Nat.ne_of_lt (Nat.lt_of_lt_of_le V2.lt (Nat.le_trans (Keep.of_wr W3).1 (Nat.le_of_eq g4))))
  have ne12 : b2 ≠ b7 := (Nat.ne_of_lt (Nat.lt_of_lt_of_le V2.lt (Nat.le_trans (Nat.le_trans (Nat.le_trans (Nat.le_trans (Keep.of_wr W3).1 E4.1) (Keep.of_wr W5).1) (Keep.of_wr W6).1) (Nat.le_of_eq g7))))
  have f13 := (((((((V3.ext E4).other W5 ne11).other W6 ne11).ext E7).other W8 ne12).other W9 ne12).other W10 ne12)
  have VA1 : Arv Z h10 b2 k2 .char (1 : Int32) [(.int d0)] (.int (0 : Int32)) := by
    have q := f13
    rw [own_nc16 hr_d0] at q
    exact q
  have ne14 : b4 ≠ b7 := (Nat.ne_of_lt (Nat.lt_of_lt_of_le V4.lt (Nat.le_trans (Nat.le_trans (Keep.of_wr W5).1 (Keep.of_wr W6).1) (Nat.le_of_eq g7))))
  have f15 := ((((V6.ext E7).other W8 ne14).other W9 ne14).other W10 ne14)
  have VA2 : Arv Z h10 b4 k4 .char (2 : Int32) [(.int d0), (.int d1)] (.int (0 : Int32)) := by
    have q := f15
    rw [own_nc16 hr_d0, own_nc16 hr_d1] at q
    exact q
  have VA3 : Arv Z h10 b7 k7 .char (3 : Int32) [(.int d0), (.int d1), (.int d2)] (.int (0 : Int32)) := by
    have q := V10
    rw [own_nc16 hr_d0, own_nc16 hr_d1, own_nc16 hr_d2] at q
    exact q
  obtain ⟨ln, e_ln⟩ : ∃ z, z = (x0 &&& (3 : Int32)) := ⟨_, rfl⟩
  rw [← e_ln]
  have c_ln : ln = (0 : Int32) ∨ ln = (1 : Int32) ∨ ln = (2 : Int32) ∨ ln = (3 : Int32) := by rw [e_ln]; exact own_and3 _
  clear e_ln
  rcases c_ln with rfl | rfl | rfl | rfl
  · skip
    refine g_iload X10 hx hby at_67 rfl ?_
    refine g_ifN X10 hx hby at_69 (teq (by decide : (0 : Int32) = (0 : Int32))).2 ?_
    refine g_at 72 rfl rfl rfl ?_
    refine g_new X10 hx hby hZ hown w1_ w2_ w3_ e10 (by decide) (by decide) at_72 (fun T16 h16 b16 g16 X16 e16 E16 A16 D16 => ?_)
    have F_value_b16 : Fld Z h16 b16 "java/lang/String" "value" "[B" .null := D16 (Or.inr w16_) (ty := (.array .byte)) (by decide)
    have F_coder_b16 : Fld Z h16 b16 "java/lang/String" "coder" "B" (.int (0 : Int32)) := D16 (Or.inr w17_) (ty := .byte) (by decide)
    refine g_dup X16 hx hby at_75 rfl ?_
    refine g_aload X16 hx hby at_76 rfl rfl ?_
    have f18 := (((((((((((OLD.ext E1).ext E2).wr W3 g_b2).ext E4).wr W5 g_b4).wr W6 g_b4).ext E7).wr W8 g_b7).wr W9 g_b7).wr W10 g_b7).ext E16)
    have ne19 : b1 ≠ b2 := (Nat.ne_of_lt (Nat.lt_of_lt_of_le V1.lt (Nat.le_of_eq g2)))
    have ne20 : b1 ≠ b4 := (Nat.ne_of_lt (Nat.lt_of_lt_of_le V1.lt (Nat.le_trans (Nat.le_trans E2.1 (Keep.of_wr W3).1) (Nat.le_of_eq g4))))
    have ne21 : b1 ≠ b7 := (Nat.ne_of_lt (Nat.lt_of_lt_of_le V1.lt (Nat.le_trans (Nat.le_trans (Nat.le_trans (Nat.le_trans (Nat.le_trans E2.1 (Keep.of_wr W3).1) E4.1) (Keep.of_wr W5).1) (Keep.of_wr W6).1) (Nat.le_of_eq g7))))
    have f22 := ((((((((((V1.ext E2).other W3 ne19).ext E4).other W5 ne20).other W6 ne20).ext E7).other W8 ne21).other W9 ne21).other W10 ne21).ext E16)
    have g_b16 : n0 ≤ b16 := Nat.le_trans (Nat.le_trans Z0 (Nat.le_trans (Nat.le_trans (Nat.le_trans (Nat.le_trans (Nat.le_trans (Nat.le_trans (Nat.le_trans (Nat.le_trans (Nat.le_trans E1.1 E2.1) (Keep.of_wr W3).1) E4.1) (Keep.of_wr W5).1) (Keep.of_wr W6).1) E7.1) (Keep.of_wr W8).1) (Keep.of_wr W9).1) (Keep.of_wr W10).1)) (Nat.le_of_eq g16)
    have z23 := (Nat.le_trans Z0 (Nat.le_trans (Nat.le_trans (Nat.le_trans (Nat.le_trans (Nat.le_trans (Nat.le_trans (Nat.le_trans (Nat.le_trans (Nat.le_trans (Nat.le_trans E1.1 E2.1) (Keep.of_wr W3).1) E4.1) (Keep.of_wr W5).1) (Keep.of_wr W6).1) E7.1) (Keep.of_wr W8).1) (Keep.of_wr W9).1) (Keep.of_wr W10).1) E16.1))
    refine g_specialW X16 hx hby hZ hown (PV := fun vm => Z.Warmed39 vm ∧ vm.interned = Z.vm.interned) (rm_ini1_e l Z a0 hw [] b16 b1 k1 [] cz h16 n0 z23 O2 P5 f18 hheld hcw A16 F_coder_b16 F_value_b16 f22 g_b16) (fun _ q => ⟨State.Warmed39.trans hZ q.wide, q.interned_eq.trans hI0⟩) hS0 (Nat.zero_le _) rfl rfl w4_ w5_ w3_ w6_ (by decide) e16 (by rw [hml]; rfl) [(.ref b1)] (lenOf own_pd1 rfl) rfl rfl (Nat.le_of_ble_eq_true rfl) (Nat.le_of_ble_eq_true rfl) (Nat.le_of_ble_eq_true rfl) (Nat.le_of_ble_eq_true rfl) at_78 (fun v17 T17 L17 X17 hS17 hZ17 ho17 hQ17 => ?_)
    obtain ⟨rfl, N17q, K17, t17, kb17, nx17, Es17, Cs17, Vs17, Bs17⟩ := hQ17
    have N17 := Fr.app N10 N17q
    refine g_astore X17 hx hby at_81 rfl (l' := #[.val (.int x0), .val (.int x1), .val (.int x2), .val (.int x3), .val (.int d0), .val (.int d1), .val (.int d2), .val (.ref b1), .val (.ref b2), .val (.ref b4), .val (.ref b7), .val (.int (0 : Int32)), .val (.ref b16), .unset]) rfl ?_
    refine g_iconst X17 hx hby (1 : Int32) at_83 rfl ?_
    refine g_istore X17 hx hby at_84 (l' := #[.val (.int x0), .val (.int x1), .val (.int x2), .val (.int x3), .val (.int d0), .val (.int d1), .val (.int d2), .val (.ref b1), .val (.ref b2), .val (.ref b4), .val (.ref b7), .val (.int (0 : Int32)), .val (.ref b16), .val (.int (1 : Int32))]) rfl ?_
    refine g_goto X17 hx hby 201 at_86 (by decide) (by decide) ?_
    refine g_aload X17 hx hby at_201 rfl rfl ?_
    have f25 := (f18.keep K17 (allS g_b16 all0))
    have z26 := (Nat.le_trans z23 K17.1)
    refine g_static X17 hx hby hZ17 ho17 (rm_fv_0 l Z a0 hw [] b16 t17 kb17 cz fz T17.heap n0 z26 O2 P5 f25 Es17 Cs17 Vs17 Bs17 rfz O4) w22_ w23_ w24_ w25_ (by decide) rfl (by rw [hml]; rfl) [(.ref b16)] (lenOf own_pd4 rfl) rfl rfl (Nat.le_of_ble_eq_true rfl) (Nat.le_of_ble_eq_true rfl) (Nat.le_of_ble_eq_true rfl) (Nat.le_of_ble_eq_true rfl) at_203 (fun v24 T24 L24 X24 hQ24 => ?_)
    obtain ⟨rfl, N24q, eh24⟩ := hQ24
    have N24 := Fr.app N17 N24q
    refine g_iload X24 hx hby at_206 rfl ?_
    refine g_icN X24 hx hby at_208 (teq (by simp [own_fvs] : (own_fvs []) = (1 : Int32))).2 ?_
    refine g_iconst X24 hx hby (1 : Int32) at_211 rfl ?_
    refine g_goto X24 hx hby 216 at_212 (by decide) (by decide) ?_
    refine g_nretW X24 hx hby (t := .boolean) (by simp) Bd.returns Bd.notSynchronized hS17 at_216 eh24 (Nat.le_refl _) (by decide) (by decide) ?_
    show (Q_law Z x0 x1 x2 x3 fz cz h0 n0) (some (.int (1 : Int32))) _ _
    exact ⟨rfl, N24⟩
  · skip
    refine g_iload X10 hx hby at_67 rfl ?_
    refine g_ifY X10 hx hby 89 at_69 (feq (by decide : ¬ ((1 : Int32) = (0 : Int32)))).2 (by decide) (by decide) ?_
    refine g_iload X10 hx hby at_89 rfl ?_
    refine g_iconst X10 hx hby (1 : Int32) at_91 rfl ?_
    refine g_icN X10 hx hby at_92 (teq (by decide : (1 : Int32) = (1 : Int32))).2 ?_
    refine g_new X10 hx hby hZ hown w1_ w2_ w3_ e10 (by decide) (by decide) at_95 (fun T27 h27 b27 g27 X27 e27 E27 A27 D27 => ?_)
    have F_value_b27 : Fld Z h27 b27 "java/lang/String" "value" "[B" .null := D27 (Or.inr w16_) (ty := (.array .byte)) (by decide)
    have F_coder_b27 : Fld Z h27 b27 "java/lang/String" "coder" "B" (.int (0 : Int32)) := D27 (Or.inr w17_) (ty := .byte) (by decide)
    refine g_dup X27 hx hby at_98 rfl ?_
    refine g_aload X27 hx hby at_99 rfl rfl ?_
    by_cases hb0_28 : (255 : Int32) < d0
    · skip
      have f30 := (((((((((((OLD.ext E1).ext E2).wr W3 g_b2).ext E4).wr W5 g_b4).wr W6 g_b4).ext E7).wr W8 g_b7).wr W9 g_b7).wr W10 g_b7).ext E27)
      have f31 := (VA1.ext E27)
      have g_b27 : n0 ≤ b27 := Nat.le_trans (Nat.le_trans Z0 (Nat.le_trans (Nat.le_trans (Nat.le_trans (Nat.le_trans (Nat.le_trans (Nat.le_trans (Nat.le_trans (Nat.le_trans (Nat.le_trans E1.1 E2.1) (Keep.of_wr W3).1) E4.1) (Keep.of_wr W5).1) (Keep.of_wr W6).1) E7.1) (Keep.of_wr W8).1) (Keep.of_wr W9).1) (Keep.of_wr W10).1)) (Nat.le_of_eq g27)
      have z32 := (Nat.le_trans Z0 (Nat.le_trans (Nat.le_trans (Nat.le_trans (Nat.le_trans (Nat.le_trans (Nat.le_trans (Nat.le_trans (Nat.le_trans (Nat.le_trans (Nat.le_trans E1.1 E2.1) (Keep.of_wr W3).1) E4.1) (Keep.of_wr W5).1) (Keep.of_wr W6).1) E7.1) (Keep.of_wr W8).1) (Keep.of_wr W9).1) (Keep.of_wr W10).1) E27.1))
      refine g_special X27 hx hby hZ hown (rm_ini1f_1_0 l Z a0 hw [] b27 b2 k2 d0 cz h27 n0 z32 O2 P5 f30 Uad Uhi Ulo A27 F_coder_b27 F_value_b27 f31 g_b27 hb0_28 hr_d0) rfl rfl w4_ w5_ w3_ w6_ (by decide) e27 (by rw [hml]; rfl) [(.ref b2)] (lenOf own_pd1 rfl) rfl rfl (Nat.le_of_ble_eq_true rfl) (Nat.le_of_ble_eq_true rfl) (Nat.le_of_ble_eq_true rfl) (Nat.le_of_ble_eq_true rfl) at_101 (fun v29 T29 L29 X29 hQ29 => ?_)
      obtain ⟨rfl, N29q, K29, t29, kb29, lo29, Es29, Cs29, Vs29, Bs29⟩ := hQ29
      have N29 := Fr.app N10 N29q
      refine g_astore X29 hx hby at_104 rfl (l' := #[.val (.int x0), .val (.int x1), .val (.int x2), .val (.int x3), .val (.int d0), .val (.int d1), .val (.int d2), .val (.ref b1), .val (.ref b2), .val (.ref b4), .val (.ref b7), .val (.int (1 : Int32)), .val (.ref b27), .unset]) rfl ?_
      refine g_iload X29 hx hby at_106 rfl ?_
      have z34 := (Nat.le_trans z32 K29.1)
      refine g_static X29 hx hby hZ hown (rm_al l Z a0 hw [] d0 T29.heap n0 z34 ) w47_ w48_ w49_ w50_ (by decide) rfl (by rw [hml]; rfl) [(.int d0)] (lenOf own_pd12 rfl) rfl rfl (Nat.le_of_ble_eq_true rfl) (Nat.le_of_ble_eq_true rfl) (Nat.le_of_ble_eq_true rfl) (Nat.le_of_ble_eq_true rfl) at_108 (fun v33 T33 L33 X33 hQ33 => ?_)
      obtain ⟨rfl, N33q, eh33⟩ := hQ33
      have N33 := Fr.app N29 N33q
      refine g_istore X33 hx hby at_111 (l' := #[.val (.int x0), .val (.int x1), .val (.int x2), .val (.int x3), .val (.int d0), .val (.int d1), .val (.int d2), .val (.ref b1), .val (.ref b2), .val (.ref b4), .val (.ref b7), .val (.int (1 : Int32)), .val (.ref b27), .val (.int (own_al d0))]) rfl ?_
      refine g_goto X33 hx hby 201 at_113 (by decide) (by decide) ?_
      refine g_aload X33 hx hby at_201 rfl rfl ?_
      have f36 := (f30.keep K29 (allS g_b27 all0))
      refine g_static X33 hx hby hZ hown (rm_fv_1u l Z a0 hw [] b27 t29 kb29 d0 cz fz T29.heap n0 z34 O2 P5 f36 Uad Uhi Ulo Es29 Cs29 Vs29 Bs29 rfz O4 hr_d0) w22_ w23_ w24_ w25_ (by decide) eh33 (by rw [hml]; rfl) [(.ref b27)] (lenOf own_pd4 rfl) rfl rfl (Nat.le_of_ble_eq_true rfl) (Nat.le_of_ble_eq_true rfl) (Nat.le_of_ble_eq_true rfl) (Nat.le_of_ble_eq_true rfl) at_203 (fun v35 T35 L35 X35 hQ35 => ?_)
      obtain ⟨rfl, N35q, eh35⟩ := hQ35
      have N35 := Fr.app N33 N35q
      refine g_iload X35 hx hby at_206 rfl ?_
      refine g_icN X35 hx hby at_208 (teq (by simp only [own_fvs, own_same hr_d0]; unfold own_al; split <;> rfl : (own_fvs [d0]) = (own_al d0))).2 ?_
      refine g_iconst X35 hx hby (1 : Int32) at_211 rfl ?_
      refine g_goto X35 hx hby 216 at_212 (by decide) (by decide) ?_
      refine g_nretW X35 hx hby (t := .boolean) (by simp) Bd.returns Bd.notSynchronized hS0 at_216 eh35 (Nat.zero_le _) (by decide) (by decide) ?_
      show (Q_law Z x0 x1 x2 x3 fz cz h0 n0) (some (.int (1 : Int32))) _ _
      exact ⟨rfl, N35⟩
    · skip
      have f38 := (((((((((((OLD.ext E1).ext E2).wr W3 g_b2).ext E4).wr W5 g_b4).wr W6 g_b4).ext E7).wr W8 g_b7).wr W9 g_b7).wr W10 g_b7).ext E27)
      have f39 := (VA1.ext E27)
      have g_b27 : n0 ≤ b27 := Nat.le_trans (Nat.le_trans Z0 (Nat.le_trans (Nat.le_trans (Nat.le_trans (Nat.le_trans (Nat.le_trans (Nat.le_trans (Nat.le_trans (Nat.le_trans (Nat.le_trans E1.1 E2.1) (Keep.of_wr W3).1) E4.1) (Keep.of_wr W5).1) (Keep.of_wr W6).1) E7.1) (Keep.of_wr W8).1) (Keep.of_wr W9).1) (Keep.of_wr W10).1)) (Nat.le_of_eq g27)
      have z40 := (Nat.le_trans Z0 (Nat.le_trans (Nat.le_trans (Nat.le_trans (Nat.le_trans (Nat.le_trans (Nat.le_trans (Nat.le_trans (Nat.le_trans (Nat.le_trans (Nat.le_trans E1.1 E2.1) (Keep.of_wr W3).1) E4.1) (Keep.of_wr W5).1) (Keep.of_wr W6).1) E7.1) (Keep.of_wr W8).1) (Keep.of_wr W9).1) (Keep.of_wr W10).1) E27.1))
      refine g_special X27 hx hby hZ hown (rm_ini1_1 l Z a0 hw [] b27 b2 k2 d0 cz h27 n0 z40 O2 P5 f38 A27 F_coder_b27 F_value_b27 f39 g_b27 hb0_28) rfl rfl w4_ w5_ w3_ w6_ (by decide) e27 (by rw [hml]; rfl) [(.ref b2)] (lenOf own_pd1 rfl) rfl rfl (Nat.le_of_ble_eq_true rfl) (Nat.le_of_ble_eq_true rfl) (Nat.le_of_ble_eq_true rfl) (Nat.le_of_ble_eq_true rfl) at_101 (fun v37 T37 L37 X37 hQ37 => ?_)
      obtain ⟨rfl, N37q, K37, t37, kb37, lo37, Es37, Cs37, Vs37, Bs37⟩ := hQ37
      have N37 := Fr.app N10 N37q
      refine g_astore X37 hx hby at_104 rfl (l' := #[.val (.int x0), .val (.int x1), .val (.int x2), .val (.int x3), .val (.int d0), .val (.int d1), .val (.int d2), .val (.ref b1), .val (.ref b2), .val (.ref b4), .val (.ref b7), .val (.int (1 : Int32)), .val (.ref b27), .unset]) rfl ?_
      refine g_iload X37 hx hby at_106 rfl ?_
      have z42 := (Nat.le_trans z40 K37.1)
      refine g_static X37 hx hby hZ hown (rm_al l Z a0 hw [] d0 T37.heap n0 z42 ) w47_ w48_ w49_ w50_ (by decide) rfl (by rw [hml]; rfl) [(.int d0)] (lenOf own_pd12 rfl) rfl rfl (Nat.le_of_ble_eq_true rfl) (Nat.le_of_ble_eq_true rfl) (Nat.le_of_ble_eq_true rfl) (Nat.le_of_ble_eq_true rfl) at_108 (fun v41 T41 L41 X41 hQ41 => ?_)
      obtain ⟨rfl, N41q, eh41⟩ := hQ41
      have N41 := Fr.app N37 N41q
      refine g_istore X41 hx hby at_111 (l' := #[.val (.int x0), .val (.int x1), .val (.int x2), .val (.int x3), .val (.int d0), .val (.int d1), .val (.int d2), .val (.ref b1), .val (.ref b2), .val (.ref b4), .val (.ref b7), .val (.int (1 : Int32)), .val (.ref b27), .val (.int (own_al d0))]) rfl ?_
      refine g_goto X41 hx hby 201 at_113 (by decide) (by decide) ?_
      refine g_aload X41 hx hby at_201 rfl rfl ?_
      have f44 := (f38.keep K37 (allS g_b27 all0))
      refine g_static X41 hx hby hZ hown (rm_fv_1 l Z a0 hw [] b27 t37 kb37 d0 cz fz T37.heap n0 z42 O2 P5 f44 Es37 Cs37 Vs37 Bs37 rfz O4 hr_d0 hb0_28) w22_ w23_ w24_ w25_ (by decide) eh41 (by rw [hml]; rfl) [(.ref b27)] (lenOf own_pd4 rfl) rfl rfl (Nat.le_of_ble_eq_true rfl) (Nat.le_of_ble_eq_true rfl) (Nat.le_of_ble_eq_true rfl) (Nat.le_of_ble_eq_true rfl) at_203 (fun v43 T43 L43 X43 hQ43 => ?_)
      obtain ⟨rfl, N43q, eh43⟩ := hQ43
      have N43 := Fr.app N41 N43q
      refine g_iload X43 hx hby at_206 rfl ?_
      refine g_icN X43 hx hby at_208 (teq (by simp only [own_fvs, own_same hr_d0]; unfold own_al; split <;> rfl : (own_fvs [d0]) = (own_al d0))).2 ?_
      refine g_iconst X43 hx hby (1 : Int32) at_211 rfl ?_
      refine g_goto X43 hx hby 216 at_212 (by decide) (by decide) ?_
      refine g_nretW X43 hx hby (t := .boolean) (by simp) Bd.returns Bd.notSynchronized hS0 at_216 eh43 (Nat.zero_le _) (by decide) (by decide) ?_
      show (Q_law Z x0 x1 x2 x3 fz cz h0 n0) (some (.int (1 : Int32))) _ _
      exact ⟨rfl, N43⟩
  · skip
    refine g_iload X10 hx hby at_67 rfl ?_
    refine g_ifY X10 hx hby 89 at_69 (feq (by decide : ¬ ((2 : Int32) = (0 : Int32)))).2 (by decide) (by decide) ?_
    refine g_iload X10 hx hby at_89 rfl ?_
    refine g_iconst X10 hx hby (1 : Int32) at_91 rfl ?_
    refine g_icY X10 hx hby 116 at_92 (feq (by decide : ¬ ((2 : Int32) = (1 : Int32)))).2 (by decide) (by decide) ?_
    refine g_iload X10 hx hby at_116 rfl ?_
    refine g_iconst X10 hx hby (2 : Int32) at_118 rfl ?_
    refine g_icN X10 hx hby at_119 (teq (by decide : (2 : Int32) = (2 : Int32))).2 ?_
    refine g_new X10 hx hby hZ hown w1_ w2_ w3_ e10 (by decide) (by decide) at_122 (fun T45 h45 b45 g45 X45 e45 E45 A45 D45 => ?_)
    have F_value_b45 : Fld Z h45 b45 "java/lang/String" "value" "[B" .null := D45 (Or.inr w16_) (ty := (.array .byte)) (by decide)
    have F_coder_b45 : Fld Z h45 b45 "java/lang/String" "coder" "B" (.int (0 : Int32)) := D45 (Or.inr w17_) (ty := .byte) (by decide)
    refine g_dup X45 hx hby at_125 rfl ?_
    refine g_aload X45 hx hby at_126 rfl rfl ?_
    by_cases hb0_46 : (255 : Int32) < d0
    · skip
      have f48 := (((((((((((OLD.ext E1).ext E2).wr W3 g_b2).ext E4).wr W5 g_b4).wr W6 g_b4).ext E7).wr W8 g_b7).wr W9 g_b7).wr W10 g_b7).ext E45)
      have f49 := (VA2.ext E45)
      have g_b45 : n0 ≤ b45 := Nat.le_trans (Nat.le_trans Z0 (Nat.le_trans (Nat.le_trans (Nat.le_trans (Nat.le_trans (Nat.le_trans (Nat.le_trans (Nat.le_trans (Nat.le_trans (Nat.le_trans E1.1 E2.1) (Keep.of_wr W3).1) E4.1) (Keep.of_wr W5).1) (Keep.of_wr W6).1) E7.1) (Keep.of_wr W8).1) (Keep.of_wr W9).1) (Keep.of_wr W10).1)) (Nat.le_of_eq g45)
      have z50 := (Nat.le_trans Z0 (Nat.le_trans (Nat.le_trans (Nat.le_trans (Nat.le_trans (Nat.le_trans (Nat.le_trans (Nat.le_trans (Nat.le_trans (Nat.le_trans (Nat.le_trans E1.1 E2.1) (Keep.of_wr W3).1) E4.1) (Keep.of_wr W5).1) (Keep.of_wr W6).1) E7.1) (Keep.of_wr W8).1) (Keep.of_wr W9).1) (Keep.of_wr W10).1) E45.1))
      refine g_special X45 hx hby hZ hown (rm_ini1f_2_0 l Z a0 hw [] b45 b4 k4 d0 d1 cz h45 n0 z50 O2 P5 f48 Uad Uhi Ulo A45 F_coder_b45 F_value_b45 f49 g_b45 hb0_46 hr_d0 hr_d1) rfl rfl w4_ w5_ w3_ w6_ (by decide) e45 (by rw [hml]; rfl) [(.ref b4)] (lenOf own_pd1 rfl) rfl rfl (Nat.le_of_ble_eq_true rfl) (Nat.le_of_ble_eq_true rfl) (Nat.le_of_ble_eq_true rfl) (Nat.le_of_ble_eq_true rfl) at_128 (fun v47 T47 L47 X47 hQ47 => ?_)
      obtain ⟨rfl, N47q, K47, t47, kb47, lo47, Es47, Cs47, Vs47, Bs47⟩ := hQ47
      have N47 := Fr.app N10 N47q
      refine g_astore X47 hx hby at_131 rfl (l' := #[.val (.int x0), .val (.int x1), .val (.int x2), .val (.int x3), .val (.int d0), .val (.int d1), .val (.int d2), .val (.ref b1), .val (.ref b2), .val (.ref b4), .val (.ref b7), .val (.int (2 : Int32)), .val (.ref b45), .unset]) rfl ?_
      refine g_iload X47 hx hby at_133 rfl ?_
      have z52 := (Nat.le_trans z50 K47.1)
      refine g_static X47 hx hby hZ hown (rm_al l Z a0 hw [] d0 T47.heap n0 z52 ) w47_ w48_ w49_ w50_ (by decide) rfl (by rw [hml]; rfl) [(.int d0)] (lenOf own_pd12 rfl) rfl rfl (Nat.le_of_ble_eq_true rfl) (Nat.le_of_ble_eq_true rfl) (Nat.le_of_ble_eq_true rfl) (Nat.le_of_ble_eq_true rfl) at_135 (fun v51 T51 L51 X51 hQ51 => ?_)
      obtain ⟨rfl, N51q, eh51⟩ := hQ51
      have N51 := Fr.app N47 N51q
      by_cases hc138_53 : (own_al d0) = (0 : Int32)
      · skip
        refine g_ifY X51 hx hby 153 at_138 (teq hc138_53).1 (by decide) (by decide) ?_
        refine g_iconst X51 hx hby (0 : Int32) at_153 rfl ?_
        refine g_istore X51 hx hby at_154 (l' := #[.val (.int x0), .val (.int x1), .val (.int x2), .val (.int x3), .val (.int d0), .val (.int d1), .val (.int d2), .val (.ref b1), .val (.ref b2), .val (.ref b4), .val (.ref b7), .val (.int (2 : Int32)), .val (.ref b45), .val (.int (0 : Int32))]) rfl ?_
        refine g_goto X51 hx hby 201 at_156 (by decide) (by decide) ?_
        refine g_aload X51 hx hby at_201 rfl rfl ?_
        have f55 := (f48.keep K47 (allS g_b45 all0))
        refine g_static X51 hx hby hZ hown (rm_fv_2u l Z a0 hw [] b45 t47 kb47 d0 d1 cz fz T47.heap n0 z52 O2 P5 f55 Uad Uhi Ulo Es47 Cs47 Vs47 Bs47 rfz O4 hr_d0 hr_d1) w22_ w23_ w24_ w25_ (by decide) eh51 (by rw [hml]; rfl) [(.ref b45)] (lenOf own_pd4 rfl) rfl rfl (Nat.le_of_ble_eq_true rfl) (Nat.le_of_ble_eq_true rfl) (Nat.le_of_ble_eq_true rfl) (Nat.le_of_ble_eq_true rfl) at_203 (fun v54 T54 L54 X54 hQ54 => ?_)
        obtain ⟨rfl, N54q, eh54⟩ := hQ54
        have N54 := Fr.app N51 N54q
        refine g_iload X54 hx hby at_206 rfl ?_
        refine g_icN X54 hx hby at_208 (teq (by simp [own_fvs, own_same hr_d0, own_same hr_d1, hc138_53] : (own_fvs [d0, d1]) = (0 : Int32))).2 ?_
        refine g_iconst X54 hx hby (1 : Int32) at_211 rfl ?_
        refine g_goto X54 hx hby 216 at_212 (by decide) (by decide) ?_
        refine g_nretW X54 hx hby (t := .boolean) (by simp) Bd.returns Bd.notSynchronized hS0 at_216 eh54 (Nat.zero_le _) (by decide) (by decide) ?_
        show (Q_law Z x0 x1 x2 x3 fz cz h0 n0) (some (.int (1 : Int32))) _ _
        exact ⟨rfl, N54⟩
      · skip
        refine g_ifN X51 hx hby at_138 (feq hc138_53).1 ?_
        refine g_iload X51 hx hby at_141 rfl ?_
        refine g_static X51 hx hby hZ hown (rm_al l Z a0 hw [] d1 T47.heap n0 z52 ) w47_ w48_ w49_ w50_ (by decide) eh51 (by rw [hml]; rfl) [(.int d1)] (lenOf own_pd12 rfl) rfl rfl (Nat.le_of_ble_eq_true rfl) (Nat.le_of_ble_eq_true rfl) (Nat.le_of_ble_eq_true rfl) (Nat.le_of_ble_eq_true rfl) at_143 (fun v56 T56 L56 X56 hQ56 => ?_)
        obtain ⟨rfl, N56q, eh56⟩ := hQ56
        have N56 := Fr.app N51 N56q
        refine g_at 146 rfl rfl rfl ?_
        by_cases hc146_57 : (own_al d1) = (0 : Int32)
        · skip
          refine g_ifY X56 hx hby 153 at_146 (teq hc146_57).1 (by decide) (by decide) ?_
          refine g_iconst X56 hx hby (0 : Int32) at_153 rfl ?_
          refine g_istore X56 hx hby at_154 (l' := #[.val (.int x0), .val (.int x1), .val (.int x2), .val (.int x3), .val (.int d0), .val (.int d1), .val (.int d2), .val (.ref b1), .val (.ref b2), .val (.ref b4), .val (.ref b7), .val (.int (2 : Int32)), .val (.ref b45), .val (.int (0 : Int32))]) rfl ?_
          refine g_goto X56 hx hby 201 at_156 (by decide) (by decide) ?_
          refine g_aload X56 hx hby at_201 rfl rfl ?_
          have f59 := (f48.keep K47 (allS g_b45 all0))
          refine g_static X56 hx hby hZ hown (rm_fv_2u l Z a0 hw [] b45 t47 kb47 d0 d1 cz fz T47.heap n0 z52 O2 P5 f59 Uad Uhi Ulo Es47 Cs47 Vs47 Bs47 rfz O4 hr_d0 hr_d1) w22_ w23_ w24_ w25_ (by decide) eh56 (by rw [hml]; rfl) [(.ref b45)] (lenOf own_pd4 rfl) rfl rfl (Nat.le_of_ble_eq_true rfl) (Nat.le_of_ble_eq_true rfl) (Nat.le_of_ble_eq_true rfl) (Nat.le_of_ble_eq_true rfl) at_203 (fun v58 T58 L58 X58 hQ58 => ?_)
          obtain ⟨rfl, N58q, eh58⟩ := hQ58
          have N58 := Fr.app N56 N58q
          refine g_iload X58 hx hby at_206 rfl ?_
          refine g_icN X58 hx hby at_208 (teq (by simp [own_fvs, own_same hr_d0, own_same hr_d1, hc138_53, hc146_57] : (own_fvs [d0, d1]) = (0 : Int32))).2 ?_
          refine g_iconst X58 hx hby (1 : Int32) at_211 rfl ?_
          refine g_goto X58 hx hby 216 at_212 (by decide) (by decide) ?_
          refine g_nretW X58 hx hby (t := .boolean) (by simp) Bd.returns Bd.notSynchronized hS0 at_216 eh58 (Nat.zero_le _) (by decide) (by decide) ?_
          show (Q_law Z x0 x1 x2 x3 fz cz h0 n0) (some (.int (1 : Int32))) _ _
          exact ⟨rfl, N58⟩
        · skip
          refine g_ifN X56 hx hby at_146 (feq hc146_57).1 ?_
          refine g_iconst X56 hx hby (1 : Int32) at_149 rfl ?_
          refine g_goto X56 hx hby 154 at_150 (by decide) (by decide) ?_
          refine g_istore X56 hx hby at_154 (l' := #[.val (.int x0), .val (.int x1), .val (.int x2), .val (.int x3), .val (.int d0), .val (.int d1), .val (.int d2), .val (.ref b1), .val (.ref b2), .val (.ref b4), .val (.ref b7), .val (.int (2 : Int32)), .val (.ref b45), .val (.int (1 : Int32))]) rfl ?_
          refine g_goto X56 hx hby 201 at_156 (by decide) (by decide) ?_
          refine g_aload X56 hx hby at_201 rfl rfl ?_
          have f61 := (f48.keep K47 (allS g_b45 all0))
          refine g_static X56 hx hby hZ hown (rm_fv_2u l Z a0 hw [] b45 t47 kb47 d0 d1 cz fz T47.heap n0 z52 O2 P5 f61 Uad Uhi Ulo Es47 Cs47 Vs47 Bs47 rfz O4 hr_d0 hr_d1) w22_ w23_ w24_ w25_ (by decide) eh56 (by rw [hml]; rfl) [(.ref b45)] (lenOf own_pd4 rfl) rfl rfl (Nat.le_of_ble_eq_true rfl) (Nat.le_of_ble_eq_true rfl) (Nat.le_of_ble_eq_true rfl) (Nat.le_of_ble_eq_true rfl) at_203 (fun v60 T60 L60 X60 hQ60 => ?_)
          obtain ⟨rfl, N60q, eh60⟩ := hQ60
          have N60 := Fr.app N56 N60q
          refine g_iload X60 hx hby at_206 rfl ?_
          refine g_icN X60 hx hby at_208 (teq (by simp [own_fvs, own_same hr_d0, own_same hr_d1, hc138_53, hc146_57] : (own_fvs [d0, d1]) = (1 : Int32))).2 ?_
          refine g_iconst X60 hx hby (1 : Int32) at_211 rfl ?_
          refine g_goto X60 hx hby 216 at_212 (by decide) (by decide) ?_
          refine g_nretW X60 hx hby (t := .boolean) (by simp) Bd.returns Bd.notSynchronized hS0 at_216 eh60 (Nat.zero_le _) (by decide) (by decide) ?_
          show (Q_law Z x0 x1 x2 x3 fz cz h0 n0) (some (.int (1 : Int32))) _ _
          exact ⟨rfl, N60⟩
    · skip
      by_cases hb1_62 : (255 : Int32) < d1
      · skip
        have f64 := (((((((((((OLD.ext E1).ext E2).wr W3 g_b2).ext E4).wr W5 g_b4).wr W6 g_b4).ext E7).wr W8 g_b7).wr W9 g_b7).wr W10 g_b7).ext E45)
        have f65 := (VA2.ext E45)
        have g_b45 : n0 ≤ b45 := Nat.le_trans (Nat.le_trans Z0 (Nat.le_trans (Nat.le_trans (Nat.le_trans (Nat.le_trans (Nat.le_trans (Nat.le_trans (Nat.le_trans (Nat.le_trans (Nat.le_trans E1.1 E2.1) (Keep.of_wr W3).1) E4.1) (Keep.of_wr W5).1) (Keep.of_wr W6).1) E7.1) (Keep.of_wr W8).1) (Keep.of_wr W9).1) (Keep.of_wr W10).1)) (Nat.le_of_eq g45)
        have z66 := (Nat.le_trans Z0 (Nat.le_trans (Nat.le_trans (Nat.le_trans (Nat.le_trans (Nat.le_trans (Nat.le_trans (Nat.le_trans (Nat.le_trans (Nat.le_trans (Nat.le_trans E1.1 E2.1) (Keep.of_wr W3).1) E4.1) (Keep.of_wr W5).1) (Keep.of_wr W6).1) E7.1) (Keep.of_wr W8).1) (Keep.of_wr W9).1) (Keep.of_wr W10).1) E45.1))
        refine g_special X45 hx hby hZ hown (rm_ini1f_2_1 l Z a0 hw [] b45 b4 k4 d0 d1 cz h45 n0 z66 O2 P5 f64 Uad Uhi Ulo A45 F_coder_b45 F_value_b45 f65 g_b45 hb0_46 hb1_62 hr_d0 hr_d1) rfl rfl w4_ w5_ w3_ w6_ (by decide) e45 (by rw [hml]; rfl) [(.ref b4)] (lenOf own_pd1 rfl) rfl rfl (Nat.le_of_ble_eq_true rfl) (Nat.le_of_ble_eq_true rfl) (Nat.le_of_ble_eq_true rfl) (Nat.le_of_ble_eq_true rfl) at_128 (fun v63 T63 L63 X63 hQ63 => ?_)
        obtain ⟨rfl, N63q, K63, t63, kb63, lo63, Es63, Cs63, Vs63, Bs63⟩ := hQ63
        have N63 := Fr.app N10 N63q
        refine g_astore X63 hx hby at_131 rfl (l' := #[.val (.int x0), .val (.int x1), .val (.int x2), .val (.int x3), .val (.int d0), .val (.int d1), .val (.int d2), .val (.ref b1), .val (.ref b2), .val (.ref b4), .val (.ref b7), .val (.int (2 : Int32)), .val (.ref b45), .unset]) rfl ?_
        refine g_iload X63 hx hby at_133 rfl ?_
        have z68 := (Nat.le_trans z66 K63.1)
        refine g_static X63 hx hby hZ hown (rm_al l Z a0 hw [] d0 T63.heap n0 z68 ) w47_ w48_ w49_ w50_ (by decide) rfl (by rw [hml]; rfl) [(.int d0)] (lenOf own_pd12 rfl) rfl rfl (Nat.le_of_ble_eq_true rfl) (Nat.le_of_ble_eq_true rfl) (Nat.le_of_ble_eq_true rfl) (Nat.le_of_ble_eq_true rfl) at_135 (fun v67 T67 L67 X67 hQ67 => ?_)
        obtain ⟨rfl, N67q, eh67⟩ := hQ67
        have N67 := Fr.app N63 N67q
        by_cases hc138_69 : (own_al d0) = (0 : Int32)
        · skip
          refine g_ifY X67 hx hby 153 at_138 (teq hc138_69).1 (by decide) (by decide) ?_
          refine g_iconst X67 hx hby (0 : Int32) at_153 rfl ?_
          refine g_istore X67 hx hby at_154 (l' := #[.val (.int x0), .val (.int x1), .val (.int x2), .val (.int x3), .val (.int d0), .val (.int d1), .val (.int d2), .val (.ref b1), .val (.ref b2), .val (.ref b4), .val (.ref b7), .val (.int (2 : Int32)), .val (.ref b45), .val (.int (0 : Int32))]) rfl ?_
          refine g_goto X67 hx hby 201 at_156 (by decide) (by decide) ?_
          refine g_aload X67 hx hby at_201 rfl rfl ?_
          have f71 := (f64.keep K63 (allS g_b45 all0))
          refine g_static X67 hx hby hZ hown (rm_fv_2u l Z a0 hw [] b45 t63 kb63 d0 d1 cz fz T63.heap n0 z68 O2 P5 f71 Uad Uhi Ulo Es63 Cs63 Vs63 Bs63 rfz O4 hr_d0 hr_d1) w22_ w23_ w24_ w25_ (by decide) eh67 (by rw [hml]; rfl) [(.ref b45)] (lenOf own_pd4 rfl) rfl rfl (Nat.le_of_ble_eq_true rfl) (Nat.le_of_ble_eq_true rfl) (Nat.le_of_ble_eq_true rfl) (Nat.le_of_ble_eq_true rfl) at_203 (fun v70 T70 L70 X70 hQ70 => ?_)
          obtain ⟨rfl, N70q, eh70⟩ := hQ70
          have N70 := Fr.app N67 N70q
          refine g_iload X70 hx hby at_206 rfl ?_
          refine g_icN X70 hx hby at_208 (teq (by simp [own_fvs, own_same hr_d0, own_same hr_d1, hc138_69] : (own_fvs [d0, d1]) = (0 : Int32))).2 ?_
          refine g_iconst X70 hx hby (1 : Int32) at_211 rfl ?_
          refine g_goto X70 hx hby 216 at_212 (by decide) (by decide) ?_
          refine g_nretW X70 hx hby (t := .boolean) (by simp) Bd.returns Bd.notSynchronized hS0 at_216 eh70 (Nat.zero_le _) (by decide) (by decide) ?_
          show (Q_law Z x0 x1 x2 x3 fz cz h0 n0) (some (.int (1 : Int32))) _ _
          exact ⟨rfl, N70⟩
        · skip
          refine g_ifN X67 hx hby at_138 (feq hc138_69).1 ?_
          refine g_iload X67 hx hby at_141 rfl ?_
          refine g_static X67 hx hby hZ hown (rm_al l Z a0 hw [] d1 T63.heap n0 z68 ) w47_ w48_ w49_ w50_ (by decide) eh67 (by rw [hml]; rfl) [(.int d1)] (lenOf own_pd12 rfl) rfl rfl (Nat.le_of_ble_eq_true rfl) (Nat.le_of_ble_eq_true rfl) (Nat.le_of_ble_eq_true rfl) (Nat.le_of_ble_eq_true rfl) at_143 (fun v72 T72 L72 X72 hQ72 => ?_)
          obtain ⟨rfl, N72q, eh72⟩ := hQ72
          have N72 := Fr.app N67 N72q
          refine g_at 146 rfl rfl rfl ?_
          by_cases hc146_73 : (own_al d1) = (0 : Int32)
          · skip
            refine g_ifY X72 hx hby 153 at_146 (teq hc146_73).1 (by decide) (by decide) ?_
            refine g_iconst X72 hx hby (0 : Int32) at_153 rfl ?_
            refine g_istore X72 hx hby at_154 (l' := #[.val (.int x0), .val (.int x1), .val (.int x2), .val (.int x3), .val (.int d0), .val (.int d1), .val (.int d2), .val (.ref b1), .val (.ref b2), .val (.ref b4), .val (.ref b7), .val (.int (2 : Int32)), .val (.ref b45), .val (.int (0 : Int32))]) rfl ?_
            refine g_goto X72 hx hby 201 at_156 (by decide) (by decide) ?_
            refine g_aload X72 hx hby at_201 rfl rfl ?_
            have f75 := (f64.keep K63 (allS g_b45 all0))
            refine g_static X72 hx hby hZ hown (rm_fv_2u l Z a0 hw [] b45 t63 kb63 d0 d1 cz fz T63.heap n0 z68 O2 P5 f75 Uad Uhi Ulo Es63 Cs63 Vs63 Bs63 rfz O4 hr_d0 hr_d1) w22_ w23_ w24_ w25_ (by decide) eh72 (by rw [hml]; rfl) [(.ref b45)] (lenOf own_pd4 rfl) rfl rfl (Nat.le_of_ble_eq_true rfl) (Nat.le_of_ble_eq_true rfl) (Nat.le_of_ble_eq_true rfl) (Nat.le_of_ble_eq_true rfl) at_203 (fun v74 T74 L74 X74 hQ74 => ?_)
            obtain ⟨rfl, N74q, eh74⟩ := hQ74
            have N74 := Fr.app N72 N74q
            refine g_iload X74 hx hby at_206 rfl ?_
            refine g_icN X74 hx hby at_208 (teq (by simp [own_fvs, own_same hr_d0, own_same hr_d1, hc138_69, hc146_73] : (own_fvs [d0, d1]) = (0 : Int32))).2 ?_
            refine g_iconst X74 hx hby (1 : Int32) at_211 rfl ?_
            refine g_goto X74 hx hby 216 at_212 (by decide) (by decide) ?_
            refine g_nretW X74 hx hby (t := .boolean) (by simp) Bd.returns Bd.notSynchronized hS0 at_216 eh74 (Nat.zero_le _) (by decide) (by decide) ?_
            show (Q_law Z x0 x1 x2 x3 fz cz h0 n0) (some (.int (1 : Int32))) _ _
            exact ⟨rfl, N74⟩
          · skip
            refine g_ifN X72 hx hby at_146 (feq hc146_73).1 ?_
            refine g_iconst X72 hx hby (1 : Int32) at_149 rfl ?_
            refine g_goto X72 hx hby 154 at_150 (by decide) (by decide) ?_
            refine g_istore X72 hx hby at_154 (l' := #[.val (.int x0), .val (.int x1), .val (.int x2), .val (.int x3), .val (.int d0), .val (.int d1), .val (.int d2), .val (.ref b1), .val (.ref b2), .val (.ref b4), .val (.ref b7), .val (.int (2 : Int32)), .val (.ref b45), .val (.int (1 : Int32))]) rfl ?_
            refine g_goto X72 hx hby 201 at_156 (by decide) (by decide) ?_
            refine g_aload X72 hx hby at_201 rfl rfl ?_
            have f77 := (f64.keep K63 (allS g_b45 all0))
            refine g_static X72 hx hby hZ hown (rm_fv_2u l Z a0 hw [] b45 t63 kb63 d0 d1 cz fz T63.heap n0 z68 O2 P5 f77 Uad Uhi Ulo Es63 Cs63 Vs63 Bs63 rfz O4 hr_d0 hr_d1) w22_ w23_ w24_ w25_ (by decide) eh72 (by rw [hml]; rfl) [(.ref b45)] (lenOf own_pd4 rfl) rfl rfl (Nat.le_of_ble_eq_true rfl) (Nat.le_of_ble_eq_true rfl) (Nat.le_of_ble_eq_true rfl) (Nat.le_of_ble_eq_true rfl) at_203 (fun v76 T76 L76 X76 hQ76 => ?_)
            obtain ⟨rfl, N76q, eh76⟩ := hQ76
            have N76 := Fr.app N72 N76q
            refine g_iload X76 hx hby at_206 rfl ?_
            refine g_icN X76 hx hby at_208 (teq (by simp [own_fvs, own_same hr_d0, own_same hr_d1, hc138_69, hc146_73] : (own_fvs [d0, d1]) = (1 : Int32))).2 ?_
            refine g_iconst X76 hx hby (1 : Int32) at_211 rfl ?_
            refine g_goto X76 hx hby 216 at_212 (by decide) (by decide) ?_
            refine g_nretW X76 hx hby (t := .boolean) (by simp) Bd.returns Bd.notSynchronized hS0 at_216 eh76 (Nat.zero_le _) (by decide) (by decide) ?_
            show (Q_law Z x0 x1 x2 x3 fz cz h0 n0) (some (.int (1 : Int32))) _ _
            exact ⟨rfl, N76⟩
      · skip
        have f79 := (((((((((((OLD.ext E1).ext E2).wr W3 g_b2).ext E4).wr W5 g_b4).wr W6 g_b4).ext E7).wr W8 g_b7).wr W9 g_b7).wr W10 g_b7).ext E45)
        have f80 := (VA2.ext E45)
        have g_b45 : n0 ≤ b45 := Nat.le_trans (Nat.le_trans Z0 (Nat.le_trans (Nat.le_trans (Nat.le_trans (Nat.le_trans (Nat.le_trans (Nat.le_trans (Nat.le_trans (Nat.le_trans (Nat.le_trans E1.1 E2.1) (Keep.of_wr W3).1) E4.1) (Keep.of_wr W5).1) (Keep.of_wr W6).1) E7.1) (Keep.of_wr W8).1) (Keep.of_wr W9).1) (Keep.of_wr W10).1)) (Nat.le_of_eq g45)
        have z81 := (Nat.le_trans Z0 (Nat.le_trans (Nat.le_trans (Nat.le_trans (Nat.le_trans (Nat.le_trans (Nat.le_trans (Nat.le_trans (Nat.le_trans (Nat.le_trans (Nat.le_trans E1.1 E2.1) (Keep.of_wr W3).1) E4.1) (Keep.of_wr W5).1) (Keep.of_wr W6).1) E7.1) (Keep.of_wr W8).1) (Keep.of_wr W9).1) (Keep.of_wr W10).1) E45.1))
        refine g_special X45 hx hby hZ hown (rm_ini1_2 l Z a0 hw [] b45 b4 k4 d0 d1 cz h45 n0 z81 O2 P5 f79 A45 F_coder_b45 F_value_b45 f80 g_b45 hb0_46 hb1_62) rfl rfl w4_ w5_ w3_ w6_ (by decide) e45 (by rw [hml]; rfl) [(.ref b4)] (lenOf own_pd1 rfl) rfl rfl (Nat.le_of_ble_eq_true rfl) (Nat.le_of_ble_eq_true rfl) (Nat.le_of_ble_eq_true rfl) (Nat.le_of_ble_eq_true rfl) at_128 (fun v78 T78 L78 X78 hQ78 => ?_)
        obtain ⟨rfl, N78q, K78, t78, kb78, lo78, Es78, Cs78, Vs78, Bs78⟩ := hQ78
        have N78 := Fr.app N10 N78q
        refine g_astore X78 hx hby at_131 rfl (l' := #[.val (.int x0), .val (.int x1), .val (.int x2), .val (.int x3), .val (.int d0), .val (.int d1), .val (.int d2), .val (.ref b1), .val (.ref b2), .val (.ref b4), .val (.ref b7), .val (.int (2 : Int32)), .val (.ref b45), .unset]) rfl ?_
        refine g_iload X78 hx hby at_133 rfl ?_
        have z83 := (Nat.le_trans z81 K78.1)
        refine g_static X78 hx hby hZ hown (rm_al l Z a0 hw [] d0 T78.heap n0 z83 ) w47_ w48_ w49_ w50_ (by decide) rfl (by rw [hml]; rfl) [(.int d0)] (lenOf own_pd12 rfl) rfl rfl (Nat.le_of_ble_eq_true rfl) (Nat.le_of_ble_eq_true rfl) (Nat.le_of_ble_eq_true rfl) (Nat.le_of_ble_eq_true rfl) at_135 (fun v82 T82 L82 X82 hQ82 => ?_)
        obtain ⟨rfl, N82q, eh82⟩ := hQ82
        have N82 := Fr.app N78 N82q
        by_cases hc138_84 : (own_al d0) = (0 : Int32)
        · skip
          refine g_ifY X82 hx hby 153 at_138 (teq hc138_84).1 (by decide) (by decide) ?_
          refine g_iconst X82 hx hby (0 : Int32) at_153 rfl ?_
          refine g_istore X82 hx hby at_154 (l' := #[.val (.int x0), .val (.int x1), .val (.int x2), .val (.int x3), .val (.int d0), .val (.int d1), .val (.int d2), .val (.ref b1), .val (.ref b2), .val (.ref b4), .val (.ref b7), .val (.int (2 : Int32)), .val (.ref b45), .val (.int (0 : Int32))]) rfl ?_
          refine g_goto X82 hx hby 201 at_156 (by decide) (by decide) ?_
          refine g_aload X82 hx hby at_201 rfl rfl ?_
          have f86 := (f79.keep K78 (allS g_b45 all0))
          refine g_static X82 hx hby hZ hown (rm_fv_2 l Z a0 hw [] b45 t78 kb78 d0 d1 cz fz T78.heap n0 z83 O2 P5 f86 Es78 Cs78 Vs78 Bs78 rfz O4 hr_d0 hr_d1 hb0_46 hb1_62) w22_ w23_ w24_ w25_ (by decide) eh82 (by rw [hml]; rfl) [(.ref b45)] (lenOf own_pd4 rfl) rfl rfl (Nat.le_of_ble_eq_true rfl) (Nat.le_of_ble_eq_true rfl) (Nat.le_of_ble_eq_true rfl) (Nat.le_of_ble_eq_true rfl) at_203 (fun v85 T85 L85 X85 hQ85 => ?_)
          obtain ⟨rfl, N85q, eh85⟩ := hQ85
          have N85 := Fr.app N82 N85q
          refine g_iload X85 hx hby at_206 rfl ?_
          refine g_icN X85 hx hby at_208 (teq (by simp [own_fvs, own_same hr_d0, own_same hr_d1, hc138_84] : (own_fvs [d0, d1]) = (0 : Int32))).2 ?_
          refine g_iconst X85 hx hby (1 : Int32) at_211 rfl ?_
          refine g_goto X85 hx hby 216 at_212 (by decide) (by decide) ?_
          refine g_nretW X85 hx hby (t := .boolean) (by simp) Bd.returns Bd.notSynchronized hS0 at_216 eh85 (Nat.zero_le _) (by decide) (by decide) ?_
          show (Q_law Z x0 x1 x2 x3 fz cz h0 n0) (some (.int (1 : Int32))) _ _
          exact ⟨rfl, N85⟩
        · skip
          refine g_ifN X82 hx hby at_138 (feq hc138_84).1 ?_
          refine g_iload X82 hx hby at_141 rfl ?_
          refine g_static X82 hx hby hZ hown (rm_al l Z a0 hw [] d1 T78.heap n0 z83 ) w47_ w48_ w49_ w50_ (by decide) eh82 (by rw [hml]; rfl) [(.int d1)] (lenOf own_pd12 rfl) rfl rfl (Nat.le_of_ble_eq_true rfl) (Nat.le_of_ble_eq_true rfl) (Nat.le_of_ble_eq_true rfl) (Nat.le_of_ble_eq_true rfl) at_143 (fun v87 T87 L87 X87 hQ87 => ?_)
          obtain ⟨rfl, N87q, eh87⟩ := hQ87
          have N87 := Fr.app N82 N87q
          refine g_at 146 rfl rfl rfl ?_
          by_cases hc146_88 : (own_al d1) = (0 : Int32)
          · skip
            refine g_ifY X87 hx hby 153 at_146 (teq hc146_88).1 (by decide) (by decide) ?_
            refine g_iconst X87 hx hby (0 : Int32) at_153 rfl ?_
            refine g_istore X87 hx hby at_154 (l' := #[.val (.int x0), .val (.int x1), .val (.int x2), .val (.int x3), .val (.int d0), .val (.int d1), .val (.int d2), .val (.ref b1), .val (.ref b2), .val (.ref b4), .val (.ref b7), .val (.int (2 : Int32)), .val (.ref b45), .val (.int (0 : Int32))]) rfl ?_
            refine g_goto X87 hx hby 201 at_156 (by decide) (by decide) ?_
            refine g_aload X87 hx hby at_201 rfl rfl ?_
            have f90 := (f79.keep K78 (allS g_b45 all0))
            refine g_static X87 hx hby hZ hown (rm_fv_2 l Z a0 hw [] b45 t78 kb78 d0 d1 cz fz T78.heap n0 z83 O2 P5 f90 Es78 Cs78 Vs78 Bs78 rfz O4 hr_d0 hr_d1 hb0_46 hb1_62) w22_ w23_ w24_ w25_ (by decide) eh87 (by rw [hml]; rfl) [(.ref b45)] (lenOf own_pd4 rfl) rfl rfl (Nat.le_of_ble_eq_true rfl) (Nat.le_of_ble_eq_true rfl) (Nat.le_of_ble_eq_true rfl) (Nat.le_of_ble_eq_true rfl) at_203 (fun v89 T89 L89 X89 hQ89 => ?_)
            obtain ⟨rfl, N89q, eh89⟩ := hQ89
            have N89 := Fr.app N87 N89q
            refine g_iload X89 hx hby at_206 rfl ?_
            refine g_icN X89 hx hby at_208 (teq (by simp [own_fvs, own_same hr_d0, own_same hr_d1, hc138_84, hc146_88] : (own_fvs [d0, d1]) = (0 : Int32))).2 ?_
            refine g_iconst X89 hx hby (1 : Int32) at_211 rfl ?_
            refine g_goto X89 hx hby 216 at_212 (by decide) (by decide) ?_
            refine g_nretW X89 hx hby (t := .boolean) (by simp) Bd.returns Bd.notSynchronized hS0 at_216 eh89 (Nat.zero_le _) (by decide) (by decide) ?_
            show (Q_law Z x0 x1 x2 x3 fz cz h0 n0) (some (.int (1 : Int32))) _ _
            exact ⟨rfl, N89⟩
          · skip
            refine g_ifN X87 hx hby at_146 (feq hc146_88).1 ?_
            refine g_iconst X87 hx hby (1 : Int32) at_149 rfl ?_
            refine g_goto X87 hx hby 154 at_150 (by decide) (by decide) ?_
            refine g_istore X87 hx hby at_154 (l' := #[.val (.int x0), .val (.int x1), .val (.int x2), .val (.int x3), .val (.int d0), .val (.int d1), .val (.int d2), .val (.ref b1), .val (.ref b2), .val (.ref b4), .val (.ref b7), .val (.int (2 : Int32)), .val (.ref b45), .val (.int (1 : Int32))]) rfl ?_
            refine g_goto X87 hx hby 201 at_156 (by decide) (by decide) ?_
            refine g_aload X87 hx hby at_201 rfl rfl ?_
            have f92 := (f79.keep K78 (allS g_b45 all0))
            refine g_static X87 hx hby hZ hown (rm_fv_2 l Z a0 hw [] b45 t78 kb78 d0 d1 cz fz T78.heap n0 z83 O2 P5 f92 Es78 Cs78 Vs78 Bs78 rfz O4 hr_d0 hr_d1 hb0_46 hb1_62) w22_ w23_ w24_ w25_ (by decide) eh87 (by rw [hml]; rfl) [(.ref b45)] (lenOf own_pd4 rfl) rfl rfl (Nat.le_of_ble_eq_true rfl) (Nat.le_of_ble_eq_true rfl) (Nat.le_of_ble_eq_true rfl) (Nat.le_of_ble_eq_true rfl) at_203 (fun v91 T91 L91 X91 hQ91 => ?_)
            obtain ⟨rfl, N91q, eh91⟩ := hQ91
            have N91 := Fr.app N87 N91q
            refine g_iload X91 hx hby at_206 rfl ?_
            refine g_icN X91 hx hby at_208 (teq (by simp [own_fvs, own_same hr_d0, own_same hr_d1, hc138_84, hc146_88] : (own_fvs [d0, d1]) = (1 : Int32))).2 ?_
            refine g_iconst X91 hx hby (1 : Int32) at_211 rfl ?_
            refine g_goto X91 hx hby 216 at_212 (by decide) (by decide) ?_
            refine g_nretW X91 hx hby (t := .boolean) (by simp) Bd.returns Bd.notSynchronized hS0 at_216 eh91 (Nat.zero_le _) (by decide) (by decide) ?_
            show (Q_law Z x0 x1 x2 x3 fz cz h0 n0) (some (.int (1 : Int32))) _ _
            exact ⟨rfl, N91⟩
  · skip
    refine g_iload X10 hx hby at_67 rfl ?_
    refine g_ifY X10 hx hby 89 at_69 (feq (by decide : ¬ ((3 : Int32) = (0 : Int32)))).2 (by decide) (by decide) ?_
    refine g_iload X10 hx hby at_89 rfl ?_
    refine g_iconst X10 hx hby (1 : Int32) at_91 rfl ?_
    refine g_icY X10 hx hby 116 at_92 (feq (by decide : ¬ ((3 : Int32) = (1 : Int32)))).2 (by decide) (by decide) ?_
    refine g_iload X10 hx hby at_116 rfl ?_
    refine g_iconst X10 hx hby (2 : Int32) at_118 rfl ?_
    refine g_icY X10 hx hby 159 at_119 (feq (by decide : ¬ ((3 : Int32) = (2 : Int32)))).2 (by decide) (by decide) ?_
    refine g_new X10 hx hby hZ hown w1_ w2_ w3_ e10 (by decide) (by decide) at_159 (fun T93 h93 b93 g93 X93 e93 E93 A93 D93 => ?_)
    have F_value_b93 : Fld Z h93 b93 "java/lang/String" "value" "[B" .null := D93 (Or.inr w16_) (ty := (.array .byte)) (by decide)
    have F_coder_b93 : Fld Z h93 b93 "java/lang/String" "coder" "B" (.int (0 : Int32)) := D93 (Or.inr w17_) (ty := .byte) (by decide)
    refine g_dup X93 hx hby at_162 rfl ?_
    refine g_aload X93 hx hby at_163 rfl rfl ?_
    by_cases hb0_94 : (255 : Int32) < d0
    · skip
      have f96 := (((((((((((OLD.ext E1).ext E2).wr W3 g_b2).ext E4).wr W5 g_b4).wr W6 g_b4).ext E7).wr W8 g_b7).wr W9 g_b7).wr W10 g_b7).ext E93)
      have f97 := (VA3.ext E93)
      have g_b93 : n0 ≤ b93 := Nat.le_trans (Nat.le_trans Z0 (Nat.le_trans (Nat.le_trans (Nat.le_trans (Nat.le_trans (Nat.le_trans (Nat.le_trans (Nat.le_trans (Nat.le_trans (Nat.le_trans E1.1 E2.1) (Keep.of_wr W3).1) E4.1) (Keep.of_wr W5).1) (Keep.of_wr W6).1) E7.1) (Keep.of_wr W8).1) (Keep.of_wr W9).1) (Keep.of_wr W10).1)) (Nat.le_of_eq g93)
      have z98 := (Nat.le_trans Z0 (Nat.le_trans (Nat.le_trans (Nat.le_trans (Nat.le_trans (Nat.le_trans (Nat.le_trans (Nat.le_trans (Nat.le_trans (Nat.le_trans (Nat.le_trans E1.1 E2.1) (Keep.of_wr W3).1) E4.1) (Keep.of_wr W5).1) (Keep.of_wr W6).1) E7.1) (Keep.of_wr W8).1) (Keep.of_wr W9).1) (Keep.of_wr W10).1) E93.1))
      refine g_special X93 hx hby hZ hown (rm_ini1f_3_0 l Z a0 hw [] b93 b7 k7 d0 d1 d2 cz h93 n0 z98 O2 P5 f96 Uad Uhi Ulo A93 F_coder_b93 F_value_b93 f97 g_b93 hb0_94 hr_d0 hr_d1 hr_d2) rfl rfl w4_ w5_ w3_ w6_ (by decide) e93 (by rw [hml]; rfl) [(.ref b7)] (lenOf own_pd1 rfl) rfl rfl (Nat.le_of_ble_eq_true rfl) (Nat.le_of_ble_eq_true rfl) (Nat.le_of_ble_eq_true rfl) (Nat.le_of_ble_eq_true rfl) at_165 (fun v95 T95 L95 X95 hQ95 => ?_)
      obtain ⟨rfl, N95q, K95, t95, kb95, lo95, Es95, Cs95, Vs95, Bs95⟩ := hQ95
      have N95 := Fr.app N10 N95q
      refine g_astore X95 hx hby at_168 rfl (l' := #[.val (.int x0), .val (.int x1), .val (.int x2), .val (.int x3), .val (.int d0), .val (.int d1), .val (.int d2), .val (.ref b1), .val (.ref b2), .val (.ref b4), .val (.ref b7), .val (.int (3 : Int32)), .val (.ref b93), .unset]) rfl ?_
      refine g_iload X95 hx hby at_170 rfl ?_
      have z100 := (Nat.le_trans z98 K95.1)
      refine g_static X95 hx hby hZ hown (rm_al l Z a0 hw [] d0 T95.heap n0 z100 ) w47_ w48_ w49_ w50_ (by decide) rfl (by rw [hml]; rfl) [(.int d0)] (lenOf own_pd12 rfl) rfl rfl (Nat.le_of_ble_eq_true rfl) (Nat.le_of_ble_eq_true rfl) (Nat.le_of_ble_eq_true rfl) (Nat.le_of_ble_eq_true rfl) at_172 (fun v99 T99 L99 X99 hQ99 => ?_)
      obtain ⟨rfl, N99q, eh99⟩ := hQ99
      have N99 := Fr.app N95 N99q
      by_cases hc175_101 : (own_al d0) = (0 : Int32)
      · skip
        refine g_ifY X99 hx hby 198 at_175 (teq hc175_101).1 (by decide) (by decide) ?_
        refine g_iconst X99 hx hby (0 : Int32) at_198 rfl ?_
        refine g_istore X99 hx hby at_199 (l' := #[.val (.int x0), .val (.int x1), .val (.int x2), .val (.int x3), .val (.int d0), .val (.int d1), .val (.int d2), .val (.ref b1), .val (.ref b2), .val (.ref b4), .val (.ref b7), .val (.int (3 : Int32)), .val (.ref b93), .val (.int (0 : Int32))]) rfl ?_
        refine g_aload X99 hx hby at_201 rfl rfl ?_
        have f103 := (f96.keep K95 (allS g_b93 all0))
        refine g_static X99 hx hby hZ hown (rm_fv_3u l Z a0 hw [] b93 t95 kb95 d0 d1 d2 cz fz T95.heap n0 z100 O2 P5 f103 Uad Uhi Ulo Es95 Cs95 Vs95 Bs95 rfz O4 hr_d0 hr_d1 hr_d2) w22_ w23_ w24_ w25_ (by decide) eh99 (by rw [hml]; rfl) [(.ref b93)] (lenOf own_pd4 rfl) rfl rfl (Nat.le_of_ble_eq_true rfl) (Nat.le_of_ble_eq_true rfl) (Nat.le_of_ble_eq_true rfl) (Nat.le_of_ble_eq_true rfl) at_203 (fun v102 T102 L102 X102 hQ102 => ?_)
        obtain ⟨rfl, N102q, eh102⟩ := hQ102
        have N102 := Fr.app N99 N102q
        refine g_iload X102 hx hby at_206 rfl ?_
        refine g_icN X102 hx hby at_208 (teq (by simp [own_fvs, own_same hr_d0, own_same hr_d1, own_same hr_d2, hc175_101] : (own_fvs [d0, d1, d2]) = (0 : Int32))).2 ?_
        refine g_iconst X102 hx hby (1 : Int32) at_211 rfl ?_
        refine g_goto X102 hx hby 216 at_212 (by decide) (by decide) ?_
        refine g_nretW X102 hx hby (t := .boolean) (by simp) Bd.returns Bd.notSynchronized hS0 at_216 eh102 (Nat.zero_le _) (by decide) (by decide) ?_
        show (Q_law Z x0 x1 x2 x3 fz cz h0 n0) (some (.int (1 : Int32))) _ _
        exact ⟨rfl, N102⟩
      · skip
        refine g_ifN X99 hx hby at_175 (feq hc175_101).1 ?_
        refine g_iload X99 hx hby at_178 rfl ?_
        refine g_static X99 hx hby hZ hown (rm_al l Z a0 hw [] d1 T95.heap n0 z100 ) w47_ w48_ w49_ w50_ (by decide) eh99 (by rw [hml]; rfl) [(.int d1)] (lenOf own_pd12 rfl) rfl rfl (Nat.le_of_ble_eq_true rfl) (Nat.le_of_ble_eq_true rfl) (Nat.le_of_ble_eq_true rfl) (Nat.le_of_ble_eq_true rfl) at_180 (fun v104 T104 L104 X104 hQ104 => ?_)
        obtain ⟨rfl, N104q, eh104⟩ := hQ104
        have N104 := Fr.app N99 N104q
        refine g_at 183 rfl rfl rfl ?_
        by_cases hc183_105 : (own_al d1) = (0 : Int32)
        · skip
          refine g_ifY X104 hx hby 198 at_183 (teq hc183_105).1 (by decide) (by decide) ?_
          refine g_iconst X104 hx hby (0 : Int32) at_198 rfl ?_
          refine g_istore X104 hx hby at_199 (l' := #[.val (.int x0), .val (.int x1), .val (.int x2), .val (.int x3), .val (.int d0), .val (.int d1), .val (.int d2), .val (.ref b1), .val (.ref b2), .val (.ref b4), .val (.ref b7), .val (.int (3 : Int32)), .val (.ref b93), .val (.int (0 : Int32))]) rfl ?_
          refine g_aload X104 hx hby at_201 rfl rfl ?_
          have f107 := (f96.keep K95 (allS g_b93 all0))
          refine g_static X104 hx hby hZ hown (rm_fv_3u l Z a0 hw [] b93 t95 kb95 d0 d1 d2 cz fz T95.heap n0 z100 O2 P5 f107 Uad Uhi Ulo Es95 Cs95 Vs95 Bs95 rfz O4 hr_d0 hr_d1 hr_d2) w22_ w23_ w24_ w25_ (by decide) eh104 (by rw [hml]; rfl) [(.ref b93)] (lenOf own_pd4 rfl) rfl rfl (Nat.le_of_ble_eq_true rfl) (Nat.le_of_ble_eq_true rfl) (Nat.le_of_ble_eq_true rfl) (Nat.le_of_ble_eq_true rfl) at_203 (fun v106 T106 L106 X106 hQ106 => ?_)
          obtain ⟨rfl, N106q, eh106⟩ := hQ106
          have N106 := Fr.app N104 N106q
          refine g_iload X106 hx hby at_206 rfl ?_
          refine g_icN X106 hx hby at_208 (teq (by simp [own_fvs, own_same hr_d0, own_same hr_d1, own_same hr_d2, hc175_101, hc183_105] : (own_fvs [d0, d1, d2]) = (0 : Int32))).2 ?_
          refine g_iconst X106 hx hby (1 : Int32) at_211 rfl ?_
          refine g_goto X106 hx hby 216 at_212 (by decide) (by decide) ?_
          refine g_nretW X106 hx hby (t := .boolean) (by simp) Bd.returns Bd.notSynchronized hS0 at_216 eh106 (Nat.zero_le _) (by decide) (by decide) ?_
          show (Q_law Z x0 x1 x2 x3 fz cz h0 n0) (some (.int (1 : Int32))) _ _
          exact ⟨rfl, N106⟩
        · skip
          refine g_ifN X104 hx hby at_183 (feq hc183_105).1 ?_
          refine g_iload X104 hx hby at_186 rfl ?_
          refine g_static X104 hx hby hZ hown (rm_al l Z a0 hw [] d2 T95.heap n0 z100 ) w47_ w48_ w49_ w50_ (by decide) eh104 (by rw [hml]; rfl) [(.int d2)] (lenOf own_pd12 rfl) rfl rfl (Nat.le_of_ble_eq_true rfl) (Nat.le_of_ble_eq_true rfl) (Nat.le_of_ble_eq_true rfl) (Nat.le_of_ble_eq_true rfl) at_188 (fun v108 T108 L108 X108 hQ108 => ?_)
          obtain ⟨rfl, N108q, eh108⟩ := hQ108
          have N108 := Fr.app N104 N108q
          by_cases hc191_109 : (own_al d2) = (0 : Int32)
          · skip
            refine g_ifY X108 hx hby 198 at_191 (teq hc191_109).1 (by decide) (by decide) ?_
            refine g_iconst X108 hx hby (0 : Int32) at_198 rfl ?_
            refine g_istore X108 hx hby at_199 (l' := #[.val (.int x0), .val (.int x1), .val (.int x2), .val (.int x3), .val (.int d0), .val (.int d1), .val (.int d2), .val (.ref b1), .val (.ref b2), .val (.ref b4), .val (.ref b7), .val (.int (3 : Int32)), .val (.ref b93), .val (.int (0 : Int32))]) rfl ?_
            refine g_aload X108 hx hby at_201 rfl rfl ?_
            have f111 := (f96.keep K95 (allS g_b93 all0))
            refine g_static X108 hx hby hZ hown (rm_fv_3u l Z a0 hw [] b93 t95 kb95 d0 d1 d2 cz fz T95.heap n0 z100 O2 P5 f111 Uad Uhi Ulo Es95 Cs95 Vs95 Bs95 rfz O4 hr_d0 hr_d1 hr_d2) w22_ w23_ w24_ w25_ (by decide) eh108 (by rw [hml]; rfl) [(.ref b93)] (lenOf own_pd4 rfl) rfl rfl (Nat.le_of_ble_eq_true rfl) (Nat.le_of_ble_eq_true rfl) (Nat.le_of_ble_eq_true rfl) (Nat.le_of_ble_eq_true rfl) at_203 (fun v110 T110 L110 X110 hQ110 => ?_)
            obtain ⟨rfl, N110q, eh110⟩ := hQ110
            have N110 := Fr.app N108 N110q
            refine g_iload X110 hx hby at_206 rfl ?_
            refine g_icN X110 hx hby at_208 (teq (by simp [own_fvs, own_same hr_d0, own_same hr_d1, own_same hr_d2, hc175_101, hc183_105, hc191_109] : (own_fvs [d0, d1, d2]) = (0 : Int32))).2 ?_
            refine g_iconst X110 hx hby (1 : Int32) at_211 rfl ?_
            refine g_goto X110 hx hby 216 at_212 (by decide) (by decide) ?_
            refine g_nretW X110 hx hby (t := .boolean) (by simp) Bd.returns Bd.notSynchronized hS0 at_216 eh110 (Nat.zero_le _) (by decide) (by decide) ?_
            show (Q_law Z x0 x1 x2 x3 fz cz h0 n0) (some (.int (1 : Int32))) _ _
            exact ⟨rfl, N110⟩
          · skip
            refine g_ifN X108 hx hby at_191 (feq hc191_109).1 ?_
            refine g_iconst X108 hx hby (1 : Int32) at_194 rfl ?_
            refine g_goto X108 hx hby 199 at_195 (by decide) (by decide) ?_
            refine g_istore X108 hx hby at_199 (l' := #[.val (.int x0), .val (.int x1), .val (.int x2), .val (.int x3), .val (.int d0), .val (.int d1), .val (.int d2), .val (.ref b1), .val (.ref b2), .val (.ref b4), .val (.ref b7), .val (.int (3 : Int32)), .val (.ref b93), .val (.int (1 : Int32))]) rfl ?_
            refine g_aload X108 hx hby at_201 rfl rfl ?_
            have f113 := (f96.keep K95 (allS g_b93 all0))
            refine g_static X108 hx hby hZ hown (rm_fv_3u l Z a0 hw [] b93 t95 kb95 d0 d1 d2 cz fz T95.heap n0 z100 O2 P5 f113 Uad Uhi Ulo Es95 Cs95 Vs95 Bs95 rfz O4 hr_d0 hr_d1 hr_d2) w22_ w23_ w24_ w25_ (by decide) eh108 (by rw [hml]; rfl) [(.ref b93)] (lenOf own_pd4 rfl) rfl rfl (Nat.le_of_ble_eq_true rfl) (Nat.le_of_ble_eq_true rfl) (Nat.le_of_ble_eq_true rfl) (Nat.le_of_ble_eq_true rfl) at_203 (fun v112 T112 L112 X112 hQ112 => ?_)
            obtain ⟨rfl, N112q, eh112⟩ := hQ112
            have N112 := Fr.app N108 N112q
            refine g_iload X112 hx hby at_206 rfl ?_
            refine g_icN X112 hx hby at_208 (teq (by simp [own_fvs, own_same hr_d0, own_same hr_d1, own_same hr_d2, hc175_101, hc183_105, hc191_109] : (own_fvs [d0, d1, d2]) = (1 : Int32))).2 ?_
            refine g_iconst X112 hx hby (1 : Int32) at_211 rfl ?_
            refine g_goto X112 hx hby 216 at_212 (by decide) (by decide) ?_
            refine g_nretW X112 hx hby (t := .boolean) (by simp) Bd.returns Bd.notSynchronized hS0 at_216 eh112 (Nat.zero_le _) (by decide) (by decide) ?_
            show (Q_law Z x0 x1 x2 x3 fz cz h0 n0) (some (.int (1 : Int32))) _ _
            exact ⟨rfl, N112⟩
    · skip
      by_cases hb1_114 : (255 : Int32) < d1
      · skip
        have f116 := (((((((((((OLD.ext E1).ext E2).wr W3 g_b2).ext E4).wr W5 g_b4).wr W6 g_b4).ext E7).wr W8 g_b7).wr W9 g_b7).wr W10 g_b7).ext E93)
        have f117 := (VA3.ext E93)
        have g_b93 : n0 ≤ b93 := Nat.le_trans (Nat.le_trans Z0 (Nat.le_trans (Nat.le_trans (Nat.le_trans (Nat.le_trans (Nat.le_trans (Nat.le_trans (Nat.le_trans (Nat.le_trans (Nat.le_trans E1.1 E2.1) (Keep.of_wr W3).1) E4.1) (Keep.of_wr W5).1) (Keep.of_wr W6).1) E7.1) (Keep.of_wr W8).1) (Keep.of_wr W9).1) (Keep.of_wr W10).1)) (Nat.le_of_eq g93)
        have z118 := (Nat.le_trans Z0 (Nat.le_trans (Nat.le_trans (Nat.le_trans (Nat.le_trans (Nat.le_trans (Nat.le_trans (Nat.le_trans (Nat.le_trans (Nat.le_trans (Nat.le_trans E1.1 E2.1) (Keep.of_wr W3).1) E4.1) (Keep.of_wr W5).1) (Keep.of_wr W6).1) E7.1) (Keep.of_wr W8).1) (Keep.of_wr W9).1) (Keep.of_wr W10).1) E93.1))
        refine g_special X93 hx hby hZ hown (rm_ini1f_3_1 l Z a0 hw [] b93 b7 k7 d0 d1 d2 cz h93 n0 z118 O2 P5 f116 Uad Uhi Ulo A93 F_coder_b93 F_value_b93 f117 g_b93 hb0_94 hb1_114 hr_d0 hr_d1 hr_d2) rfl rfl w4_ w5_ w3_ w6_ (by decide) e93 (by rw [hml]; rfl) [(.ref b7)] (lenOf own_pd1 rfl) rfl rfl (Nat.le_of_ble_eq_true rfl) (Nat.le_of_ble_eq_true rfl) (Nat.le_of_ble_eq_true rfl) (Nat.le_of_ble_eq_true rfl) at_165 (fun v115 T115 L115 X115 hQ115 => ?_)
        obtain ⟨rfl, N115q, K115, t115, kb115, lo115, Es115, Cs115, Vs115, Bs115⟩ := hQ115
        have N115 := Fr.app N10 N115q
        refine g_astore X115 hx hby at_168 rfl (l' := #[.val (.int x0), .val (.int x1), .val (.int x2), .val (.int x3), .val (.int d0), .val (.int d1), .val (.int d2), .val (.ref b1), .val (.ref b2), .val (.ref b4), .val (.ref b7), .val (.int (3 : Int32)), .val (.ref b93), .unset]) rfl ?_
        refine g_iload X115 hx hby at_170 rfl ?_
        have z120 := (Nat.le_trans z118 K115.1)
        refine g_static X115 hx hby hZ hown (rm_al l Z a0 hw [] d0 T115.heap n0 z120 ) w47_ w48_ w49_ w50_ (by decide) rfl (by rw [hml]; rfl) [(.int d0)] (lenOf own_pd12 rfl) rfl rfl (Nat.le_of_ble_eq_true rfl) (Nat.le_of_ble_eq_true rfl) (Nat.le_of_ble_eq_true rfl) (Nat.le_of_ble_eq_true rfl) at_172 (fun v119 T119 L119 X119 hQ119 => ?_)
        obtain ⟨rfl, N119q, eh119⟩ := hQ119
        have N119 := Fr.app N115 N119q
        by_cases hc175_121 : (own_al d0) = (0 : Int32)
        · skip
          refine g_ifY X119 hx hby 198 at_175 (teq hc175_121).1 (by decide) (by decide) ?_
          refine g_iconst X119 hx hby (0 : Int32) at_198 rfl ?_
          refine g_istore X119 hx hby at_199 (l' := #[.val (.int x0), .val (.int x1), .val (.int x2), .val (.int x3), .val (.int d0), .val (.int d1), .val (.int d2), .val (.ref b1), .val (.ref b2), .val (.ref b4), .val (.ref b7), .val (.int (3 : Int32)), .val (.ref b93), .val (.int (0 : Int32))]) rfl ?_
          refine g_aload X119 hx hby at_201 rfl rfl ?_
          have f123 := (f116.keep K115 (allS g_b93 all0))
          refine g_static X119 hx hby hZ hown (rm_fv_3u l Z a0 hw [] b93 t115 kb115 d0 d1 d2 cz fz T115.heap n0 z120 O2 P5 f123 Uad Uhi Ulo Es115 Cs115 Vs115 Bs115 rfz O4 hr_d0 hr_d1 hr_d2) w22_ w23_ w24_ w25_ (by decide) eh119 (by rw [hml]; rfl) [(.ref b93)] (lenOf own_pd4 rfl) rfl rfl (Nat.le_of_ble_eq_true rfl) (Nat.le_of_ble_eq_true rfl) (Nat.le_of_ble_eq_true rfl) (Nat.le_of_ble_eq_true rfl) at_203 (fun v122 T122 L122 X122 hQ122 => ?_)
          obtain ⟨rfl, N122q, eh122⟩ := hQ122
          have N122 := Fr.app N119 N122q
          refine g_iload X122 hx hby at_206 rfl ?_
          refine g_icN X122 hx hby at_208 (teq (by simp [own_fvs, own_same hr_d0, own_same hr_d1, own_same hr_d2, hc175_121] : (own_fvs [d0, d1, d2]) = (0 : Int32))).2 ?_
          refine g_iconst X122 hx hby (1 : Int32) at_211 rfl ?_
          refine g_goto X122 hx hby 216 at_212 (by decide) (by decide) ?_
          refine g_nretW X122 hx hby (t := .boolean) (by simp) Bd.returns Bd.notSynchronized hS0 at_216 eh122 (Nat.zero_le _) (by decide) (by decide) ?_
          show (Q_law Z x0 x1 x2 x3 fz cz h0 n0) (some (.int (1 : Int32))) _ _
          exact ⟨rfl, N122⟩
        · skip
          refine g_ifN X119 hx hby at_175 (feq hc175_121).1 ?_
          refine g_iload X119 hx hby at_178 rfl ?_
          refine g_static X119 hx hby hZ hown (rm_al l Z a0 hw [] d1 T115.heap n0 z120 ) w47_ w48_ w49_ w50_ (by decide) eh119 (by rw [hml]; rfl) [(.int d1)] (lenOf own_pd12 rfl) rfl rfl (Nat.le_of_ble_eq_true rfl) (Nat.le_of_ble_eq_true rfl) (Nat.le_of_ble_eq_true rfl) (Nat.le_of_ble_eq_true rfl) at_180 (fun v124 T124 L124 X124 hQ124 => ?_)
          obtain ⟨rfl, N124q, eh124⟩ := hQ124
          have N124 := Fr.app N119 N124q
          refine g_at 183 rfl rfl rfl ?_
          by_cases hc183_125 : (own_al d1) = (0 : Int32)
          · skip
            refine g_ifY X124 hx hby 198 at_183 (teq hc183_125).1 (by decide) (by decide) ?_
            refine g_iconst X124 hx hby (0 : Int32) at_198 rfl ?_
            refine g_istore X124 hx hby at_199 (l' := #[.val (.int x0), .val (.int x1), .val (.int x2), .val (.int x3), .val (.int d0), .val (.int d1), .val (.int d2), .val (.ref b1), .val (.ref b2), .val (.ref b4), .val (.ref b7), .val (.int (3 : Int32)), .val (.ref b93), .val (.int (0 : Int32))]) rfl ?_
            refine g_aload X124 hx hby at_201 rfl rfl ?_
            have f127 := (f116.keep K115 (allS g_b93 all0))
            refine g_static X124 hx hby hZ hown (rm_fv_3u l Z a0 hw [] b93 t115 kb115 d0 d1 d2 cz fz T115.heap n0 z120 O2 P5 f127 Uad Uhi Ulo Es115 Cs115 Vs115 Bs115 rfz O4 hr_d0 hr_d1 hr_d2) w22_ w23_ w24_ w25_ (by decide) eh124 (by rw [hml]; rfl) [(.ref b93)] (lenOf own_pd4 rfl) rfl rfl (Nat.le_of_ble_eq_true rfl) (Nat.le_of_ble_eq_true rfl) (Nat.le_of_ble_eq_true rfl) (Nat.le_of_ble_eq_true rfl) at_203 (fun v126 T126 L126 X126 hQ126 => ?_)
            obtain ⟨rfl, N126q, eh126⟩ := hQ126
            have N126 := Fr.app N124 N126q
            refine g_iload X126 hx hby at_206 rfl ?_
            refine g_icN X126 hx hby at_208 (teq (by simp [own_fvs, own_same hr_d0, own_same hr_d1, own_same hr_d2, hc175_121, hc183_125] : (own_fvs [d0, d1, d2]) = (0 : Int32))).2 ?_
            refine g_iconst X126 hx hby (1 : Int32) at_211 rfl ?_
            refine g_goto X126 hx hby 216 at_212 (by decide) (by decide) ?_
            refine g_nretW X126 hx hby (t := .boolean) (by simp) Bd.returns Bd.notSynchronized hS0 at_216 eh126 (Nat.zero_le _) (by decide) (by decide) ?_
            show (Q_law Z x0 x1 x2 x3 fz cz h0 n0) (some (.int (1 : Int32))) _ _
            exact ⟨rfl, N126⟩
          · skip
            refine g_ifN X124 hx hby at_183 (feq hc183_125).1 ?_
            refine g_iload X124 hx hby at_186 rfl ?_
            refine g_static X124 hx hby hZ hown (rm_al l Z a0 hw [] d2 T115.heap n0 z120 ) w47_ w48_ w49_ w50_ (by decide) eh124 (by rw [hml]; rfl) [(.int d2)] (lenOf own_pd12 rfl) rfl rfl (Nat.le_of_ble_eq_true rfl) (Nat.le_of_ble_eq_true rfl) (Nat.le_of_ble_eq_true rfl) (Nat.le_of_ble_eq_true rfl) at_188 (fun v128 T128 L128 X128 hQ128 => ?_)
            obtain ⟨rfl, N128q, eh128⟩ := hQ128
            have N128 := Fr.app N124 N128q
            by_cases hc191_129 : (own_al d2) = (0 : Int32)
            · skip
              refine g_ifY X128 hx hby 198 at_191 (teq hc191_129).1 (by decide) (by decide) ?_
              refine g_iconst X128 hx hby (0 : Int32) at_198 rfl ?_
              refine g_istore X128 hx hby at_199 (l' := #[.val (.int x0), .val (.int x1), .val (.int x2), .val (.int x3), .val (.int d0), .val (.int d1), .val (.int d2), .val (.ref b1), .val (.ref b2), .val (.ref b4), .val (.ref b7), .val (.int (3 : Int32)), .val (.ref b93), .val (.int (0 : Int32))]) rfl ?_
              refine g_aload X128 hx hby at_201 rfl rfl ?_
              have f131 := (f116.keep K115 (allS g_b93 all0))
              refine g_static X128 hx hby hZ hown (rm_fv_3u l Z a0 hw [] b93 t115 kb115 d0 d1 d2 cz fz T115.heap n0 z120 O2 P5 f131 Uad Uhi Ulo Es115 Cs115 Vs115 Bs115 rfz O4 hr_d0 hr_d1 hr_d2) w22_ w23_ w24_ w25_ (by decide) eh128 (by rw [hml]; rfl) [(.ref b93)] (lenOf own_pd4 rfl) rfl rfl (Nat.le_of_ble_eq_true rfl) (Nat.le_of_ble_eq_true rfl) (Nat.le_of_ble_eq_true rfl) (Nat.le_of_ble_eq_true rfl) at_203 (fun v130 T130 L130 X130 hQ130 => ?_)
              obtain ⟨rfl, N130q, eh130⟩ := hQ130
              have N130 := Fr.app N128 N130q
              refine g_iload X130 hx hby at_206 rfl ?_
              refine g_icN X130 hx hby at_208 (teq (by simp [own_fvs, own_same hr_d0, own_same hr_d1, own_same hr_d2, hc175_121, hc183_125, hc191_129] : (own_fvs [d0, d1, d2]) = (0 : Int32))).2 ?_
              refine g_iconst X130 hx hby (1 : Int32) at_211 rfl ?_
              refine g_goto X130 hx hby 216 at_212 (by decide) (by decide) ?_
              refine g_nretW X130 hx hby (t := .boolean) (by simp) Bd.returns Bd.notSynchronized hS0 at_216 eh130 (Nat.zero_le _) (by decide) (by decide) ?_
              show (Q_law Z x0 x1 x2 x3 fz cz h0 n0) (some (.int (1 : Int32))) _ _
              exact ⟨rfl, N130⟩
            · skip
              refine g_ifN X128 hx hby at_191 (feq hc191_129).1 ?_
              refine g_iconst X128 hx hby (1 : Int32) at_194 rfl ?_
              refine g_goto X128 hx hby 199 at_195 (by decide) (by decide) ?_
              refine g_istore X128 hx hby at_199 (l' := #[.val (.int x0), .val (.int x1), .val (.int x2), .val (.int x3), .val (.int d0), .val (.int d1), .val (.int d2), .val (.ref b1), .val (.ref b2), .val (.ref b4), .val (.ref b7), .val (.int (3 : Int32)), .val (.ref b93), .val (.int (1 : Int32))]) rfl ?_
              refine g_aload X128 hx hby at_201 rfl rfl ?_
              have f133 := (f116.keep K115 (allS g_b93 all0))
              refine g_static X128 hx hby hZ hown (rm_fv_3u l Z a0 hw [] b93 t115 kb115 d0 d1 d2 cz fz T115.heap n0 z120 O2 P5 f133 Uad Uhi Ulo Es115 Cs115 Vs115 Bs115 rfz O4 hr_d0 hr_d1 hr_d2) w22_ w23_ w24_ w25_ (by decide) eh128 (by rw [hml]; rfl) [(.ref b93)] (lenOf own_pd4 rfl) rfl rfl (Nat.le_of_ble_eq_true rfl) (Nat.le_of_ble_eq_true rfl) (Nat.le_of_ble_eq_true rfl) (Nat.le_of_ble_eq_true rfl) at_203 (fun v132 T132 L132 X132 hQ132 => ?_)
              obtain ⟨rfl, N132q, eh132⟩ := hQ132
              have N132 := Fr.app N128 N132q
              refine g_iload X132 hx hby at_206 rfl ?_
              refine g_icN X132 hx hby at_208 (teq (by simp [own_fvs, own_same hr_d0, own_same hr_d1, own_same hr_d2, hc175_121, hc183_125, hc191_129] : (own_fvs [d0, d1, d2]) = (1 : Int32))).2 ?_
              refine g_iconst X132 hx hby (1 : Int32) at_211 rfl ?_
              refine g_goto X132 hx hby 216 at_212 (by decide) (by decide) ?_
              refine g_nretW X132 hx hby (t := .boolean) (by simp) Bd.returns Bd.notSynchronized hS0 at_216 eh132 (Nat.zero_le _) (by decide) (by decide) ?_
              show (Q_law Z x0 x1 x2 x3 fz cz h0 n0) (some (.int (1 : Int32))) _ _
              exact ⟨rfl, N132⟩
      · skip
        by_cases hb2_134 : (255 : Int32) < d2
        · skip
          have f136 := (((((((((((OLD.ext E1).ext E2).wr W3 g_b2).ext E4).wr W5 g_b4).wr W6 g_b4).ext E7).wr W8 g_b7).wr W9 g_b7).wr W10 g_b7).ext E93)
          have f137 := (VA3.ext E93)
          have g_b93 : n0 ≤ b93 := Nat.le_trans (Nat.le_trans Z0 (Nat.le_trans (Nat.le_trans (Nat.le_trans (Nat.le_trans (Nat.le_trans (Nat.le_trans (Nat.le_trans (Nat.le_trans (Nat.le_trans E1.1 E2.1) (Keep.of_wr W3).1) E4.1) (Keep.of_wr W5).1) (Keep.of_wr W6).1) E7.1) (Keep.of_wr W8).1) (Keep.of_wr W9).1) (Keep.of_wr W10).1)) (Nat.le_of_eq g93)
          have z138 := (Nat.le_trans Z0 (Nat.le_trans (Nat.le_trans (Nat.le_trans (Nat.le_trans (Nat.le_trans (Nat.le_trans (Nat.le_trans (Nat.le_trans (Nat.le_trans (Nat.le_trans E1.1 E2.1) (Keep.of_wr W3).1) E4.1) (Keep.of_wr W5).1) (Keep.of_wr W6).1) E7.1) (Keep.of_wr W8).1) (Keep.of_wr W9).1) (Keep.of_wr W10).1) E93.1))
          refine g_special X93 hx hby hZ hown (rm_ini1f_3_2 l Z a0 hw [] b93 b7 k7 d0 d1 d2 cz h93 n0 z138 O2 P5 f136 Uad Uhi Ulo A93 F_coder_b93 F_value_b93 f137 g_b93 hb0_94 hb1_114 hb2_134 hr_d0 hr_d1 hr_d2) rfl rfl w4_ w5_ w3_ w6_ (by decide) e93 (by rw [hml]; rfl) [(.ref b7)] (lenOf own_pd1 rfl) rfl rfl (Nat.le_of_ble_eq_true rfl) (Nat.le_of_ble_eq_true rfl) (Nat.le_of_ble_eq_true rfl) (Nat.le_of_ble_eq_true rfl) at_165 (fun v135 T135 L135 X135 hQ135 => ?_)
          obtain ⟨rfl, N135q, K135, t135, kb135, lo135, Es135, Cs135, Vs135, Bs135⟩ := hQ135
          have N135 := Fr.app N10 N135q
          refine g_astore X135 hx hby at_168 rfl (l' := #[.val (.int x0), .val (.int x1), .val (.int x2), .val (.int x3), .val (.int d0), .val (.int d1), .val (.int d2), .val (.ref b1), .val (.ref b2), .val (.ref b4), .val (.ref b7), .val (.int (3 : Int32)), .val (.ref b93), .unset]) rfl ?_
          refine g_iload X135 hx hby at_170 rfl ?_
          have z140 := (Nat.le_trans z138 K135.1)
          refine g_static X135 hx hby hZ hown (rm_al l Z a0 hw [] d0 T135.heap n0 z140 ) w47_ w48_ w49_ w50_ (by decide) rfl (by rw [hml]; rfl) [(.int d0)] (lenOf own_pd12 rfl) rfl rfl (Nat.le_of_ble_eq_true rfl) (Nat.le_of_ble_eq_true rfl) (Nat.le_of_ble_eq_true rfl) (Nat.le_of_ble_eq_true rfl) at_172 (fun v139 T139 L139 X139 hQ139 => ?_)
          obtain ⟨rfl, N139q, eh139⟩ := hQ139
          have N139 := Fr.app N135 N139q
          by_cases hc175_141 : (own_al d0) = (0 : Int32)
          · skip
            refine g_ifY X139 hx hby 198 at_175 (teq hc175_141).1 (by decide) (by decide) ?_
            refine g_iconst X139 hx hby (0 : Int32) at_198 rfl ?_
            refine g_istore X139 hx hby at_199 (l' := #[.val (.int x0), .val (.int x1), .val (.int x2), .val (.int x3), .val (.int d0), .val (.int d1), .val (.int d2), .val (.ref b1), .val (.ref b2), .val (.ref b4), .val (.ref b7), .val (.int (3 : Int32)), .val (.ref b93), .val (.int (0 : Int32))]) rfl ?_
            refine g_aload X139 hx hby at_201 rfl rfl ?_
            have f143 := (f136.keep K135 (allS g_b93 all0))
            refine g_static X139 hx hby hZ hown (rm_fv_3u l Z a0 hw [] b93 t135 kb135 d0 d1 d2 cz fz T135.heap n0 z140 O2 P5 f143 Uad Uhi Ulo Es135 Cs135 Vs135 Bs135 rfz O4 hr_d0 hr_d1 hr_d2) w22_ w23_ w24_ w25_ (by decide) eh139 (by rw [hml]; rfl) [(.ref b93)] (lenOf own_pd4 rfl) rfl rfl (Nat.le_of_ble_eq_true rfl) (Nat.le_of_ble_eq_true rfl) (Nat.le_of_ble_eq_true rfl) (Nat.le_of_ble_eq_true rfl) at_203 (fun v142 T142 L142 X142 hQ142 => ?_)
            obtain ⟨rfl, N142q, eh142⟩ := hQ142
            have N142 := Fr.app N139 N142q
            refine g_iload X142 hx hby at_206 rfl ?_
            refine g_icN X142 hx hby at_208 (teq (by simp [own_fvs, own_same hr_d0, own_same hr_d1, own_same hr_d2, hc175_141] : (own_fvs [d0, d1, d2]) = (0 : Int32))).2 ?_
            refine g_iconst X142 hx hby (1 : Int32) at_211 rfl ?_
            refine g_goto X142 hx hby 216 at_212 (by decide) (by decide) ?_
            refine g_nretW X142 hx hby (t := .boolean) (by simp) Bd.returns Bd.notSynchronized hS0 at_216 eh142 (Nat.zero_le _) (by decide) (by decide) ?_
            show (Q_law Z x0 x1 x2 x3 fz cz h0 n0) (some (.int (1 : Int32))) _ _
            exact ⟨rfl, N142⟩
          · skip
            refine g_ifN X139 hx hby at_175 (feq hc175_141).1 ?_
            refine g_iload X139 hx hby at_178 rfl ?_
            refine g_static X139 hx hby hZ hown (rm_al l Z a0 hw [] d1 T135.heap n0 z140 ) w47_ w48_ w49_ w50_ (by decide) eh139 (by rw [hml]; rfl) [(.int d1)] (lenOf own_pd12 rfl) rfl rfl (Nat.le_of_ble_eq_true rfl) (Nat.le_of_ble_eq_true rfl) (Nat.le_of_ble_eq_true rfl) (Nat.le_of_ble_eq_true rfl) at_180 (fun v144 T144 L144 X144 hQ144 => ?_)
            obtain ⟨rfl, N144q, eh144⟩ := hQ144
            have N144 := Fr.app N139 N144q
            refine g_at 183 rfl rfl rfl ?_
            by_cases hc183_145 : (own_al d1) = (0 : Int32)
            · skip
              refine g_ifY X144 hx hby 198 at_183 (teq hc183_145).1 (by decide) (by decide) ?_
              refine g_iconst X144 hx hby (0 : Int32) at_198 rfl ?_
              refine g_istore X144 hx hby at_199 (l' := #[.val (.int x0), .val (.int x1), .val (.int x2), .val (.int x3), .val (.int d0), .val (.int d1), .val (.int d2), .val (.ref b1), .val (.ref b2), .val (.ref b4), .val (.ref b7), .val (.int (3 : Int32)), .val (.ref b93), .val (.int (0 : Int32))]) rfl ?_
              refine g_aload X144 hx hby at_201 rfl rfl ?_
              have f147 := (f136.keep K135 (allS g_b93 all0))
              refine g_static X144 hx hby hZ hown (rm_fv_3u l Z a0 hw [] b93 t135 kb135 d0 d1 d2 cz fz T135.heap n0 z140 O2 P5 f147 Uad Uhi Ulo Es135 Cs135 Vs135 Bs135 rfz O4 hr_d0 hr_d1 hr_d2) w22_ w23_ w24_ w25_ (by decide) eh144 (by rw [hml]; rfl) [(.ref b93)] (lenOf own_pd4 rfl) rfl rfl (Nat.le_of_ble_eq_true rfl) (Nat.le_of_ble_eq_true rfl) (Nat.le_of_ble_eq_true rfl) (Nat.le_of_ble_eq_true rfl) at_203 (fun v146 T146 L146 X146 hQ146 => ?_)
              obtain ⟨rfl, N146q, eh146⟩ := hQ146
              have N146 := Fr.app N144 N146q
              refine g_iload X146 hx hby at_206 rfl ?_
              refine g_icN X146 hx hby at_208 (teq (by simp [own_fvs, own_same hr_d0, own_same hr_d1, own_same hr_d2, hc175_141, hc183_145] : (own_fvs [d0, d1, d2]) = (0 : Int32))).2 ?_
              refine g_iconst X146 hx hby (1 : Int32) at_211 rfl ?_
              refine g_goto X146 hx hby 216 at_212 (by decide) (by decide) ?_
              refine g_nretW X146 hx hby (t := .boolean) (by simp) Bd.returns Bd.notSynchronized hS0 at_216 eh146 (Nat.zero_le _) (by decide) (by decide) ?_
              show (Q_law Z x0 x1 x2 x3 fz cz h0 n0) (some (.int (1 : Int32))) _ _
              exact ⟨rfl, N146⟩
            · skip
              refine g_ifN X144 hx hby at_183 (feq hc183_145).1 ?_
              refine g_iload X144 hx hby at_186 rfl ?_
              refine g_static X144 hx hby hZ hown (rm_al l Z a0 hw [] d2 T135.heap n0 z140 ) w47_ w48_ w49_ w50_ (by decide) eh144 (by rw [hml]; rfl) [(.int d2)] (lenOf own_pd12 rfl) rfl rfl (Nat.le_of_ble_eq_true rfl) (Nat.le_of_ble_eq_true rfl) (Nat.le_of_ble_eq_true rfl) (Nat.le_of_ble_eq_true rfl) at_188 (fun v148 T148 L148 X148 hQ148 => ?_)
              obtain ⟨rfl, N148q, eh148⟩ := hQ148
              have N148 := Fr.app N144 N148q
              by_cases hc191_149 : (own_al d2) = (0 : Int32)
              · skip
                refine g_ifY X148 hx hby 198 at_191 (teq hc191_149).1 (by decide) (by decide) ?_
                refine g_iconst X148 hx hby (0 : Int32) at_198 rfl ?_
                refine g_istore X148 hx hby at_199 (l' := #[.val (.int x0), .val (.int x1), .val (.int x2), .val (.int x3), .val (.int d0), .val (.int d1), .val (.int d2), .val (.ref b1), .val (.ref b2), .val (.ref b4), .val (.ref b7), .val (.int (3 : Int32)), .val (.ref b93), .val (.int (0 : Int32))]) rfl ?_
                refine g_aload X148 hx hby at_201 rfl rfl ?_
                have f151 := (f136.keep K135 (allS g_b93 all0))
                refine g_static X148 hx hby hZ hown (rm_fv_3u l Z a0 hw [] b93 t135 kb135 d0 d1 d2 cz fz T135.heap n0 z140 O2 P5 f151 Uad Uhi Ulo Es135 Cs135 Vs135 Bs135 rfz O4 hr_d0 hr_d1 hr_d2) w22_ w23_ w24_ w25_ (by decide) eh148 (by rw [hml]; rfl) [(.ref b93)] (lenOf own_pd4 rfl) rfl rfl (Nat.le_of_ble_eq_true rfl) (Nat.le_of_ble_eq_true rfl) (Nat.le_of_ble_eq_true rfl) (Nat.le_of_ble_eq_true rfl) at_203 (fun v150 T150 L150 X150 hQ150 => ?_)
                obtain ⟨rfl, N150q, eh150⟩ := hQ150
                have N150 := Fr.app N148 N150q
                refine g_iload X150 hx hby at_206 rfl ?_
                refine g_icN X150 hx hby at_208 (teq (by simp [own_fvs, own_same hr_d0, own_same hr_d1, own_same hr_d2, hc175_141, hc183_145, hc191_149] : (own_fvs [d0, d1, d2]) = (0 : Int32))).2 ?_
                refine g_iconst X150 hx hby (1 : Int32) at_211 rfl ?_
                refine g_goto X150 hx hby 216 at_212 (by decide) (by decide) ?_
                refine g_nretW X150 hx hby (t := .boolean) (by simp) Bd.returns Bd.notSynchronized hS0 at_216 eh150 (Nat.zero_le _) (by decide) (by decide) ?_
                show (Q_law Z x0 x1 x2 x3 fz cz h0 n0) (some (.int (1 : Int32))) _ _
                exact ⟨rfl, N150⟩
              · skip
                refine g_ifN X148 hx hby at_191 (feq hc191_149).1 ?_
                refine g_iconst X148 hx hby (1 : Int32) at_194 rfl ?_
                refine g_goto X148 hx hby 199 at_195 (by decide) (by decide) ?_
                refine g_istore X148 hx hby at_199 (l' := #[.val (.int x0), .val (.int x1), .val (.int x2), .val (.int x3), .val (.int d0), .val (.int d1), .val (.int d2), .val (.ref b1), .val (.ref b2), .val (.ref b4), .val (.ref b7), .val (.int (3 : Int32)), .val (.ref b93), .val (.int (1 : Int32))]) rfl ?_
                refine g_aload X148 hx hby at_201 rfl rfl ?_
                have f153 := (f136.keep K135 (allS g_b93 all0))
                refine g_static X148 hx hby hZ hown (rm_fv_3u l Z a0 hw [] b93 t135 kb135 d0 d1 d2 cz fz T135.heap n0 z140 O2 P5 f153 Uad Uhi Ulo Es135 Cs135 Vs135 Bs135 rfz O4 hr_d0 hr_d1 hr_d2) w22_ w23_ w24_ w25_ (by decide) eh148 (by rw [hml]; rfl) [(.ref b93)] (lenOf own_pd4 rfl) rfl rfl (Nat.le_of_ble_eq_true rfl) (Nat.le_of_ble_eq_true rfl) (Nat.le_of_ble_eq_true rfl) (Nat.le_of_ble_eq_true rfl) at_203 (fun v152 T152 L152 X152 hQ152 => ?_)
                obtain ⟨rfl, N152q, eh152⟩ := hQ152
                have N152 := Fr.app N148 N152q
                refine g_iload X152 hx hby at_206 rfl ?_
                refine g_icN X152 hx hby at_208 (teq (by simp [own_fvs, own_same hr_d0, own_same hr_d1, own_same hr_d2, hc175_141, hc183_145, hc191_149] : (own_fvs [d0, d1, d2]) = (1 : Int32))).2 ?_
                refine g_iconst X152 hx hby (1 : Int32) at_211 rfl ?_
                refine g_goto X152 hx hby 216 at_212 (by decide) (by decide) ?_
                refine g_nretW X152 hx hby (t := .boolean) (by simp) Bd.returns Bd.notSynchronized hS0 at_216 eh152 (Nat.zero_le _) (by decide) (by decide) ?_
                show (Q_law Z x0 x1 x2 x3 fz cz h0 n0) (some (.int (1 : Int32))) _ _
                exact ⟨rfl, N152⟩
        · skip
          have f155 := (((((((((((OLD.ext E1).ext E2).wr W3 g_b2).ext E4).wr W5 g_b4).wr W6 g_b4).ext E7).wr W8 g_b7).wr W9 g_b7).wr W10 g_b7).ext E93)
          have f156 := (VA3.ext E93)
          have g_b93 : n0 ≤ b93 := Nat.le_trans (Nat.le_trans Z0 (Nat.le_trans (Nat.le_trans (Nat.le_trans (Nat.le_trans (Nat.le_trans (Nat.le_trans (Nat.le_trans (Nat.le_trans (Nat.le_trans E1.1 E2.1) (Keep.of_wr W3).1) E4.1) (Keep.of_wr W5).1) (Keep.of_wr W6).1) E7.1) (Keep.of_wr W8).1) (Keep.of_wr W9).1) (Keep.of_wr W10).1)) (Nat.le_of_eq g93)
          have z157 := (Nat.le_trans Z0 (Nat.le_trans (Nat.le_trans (Nat.le_trans (Nat.le_trans (Nat.le_trans (Nat.le_trans (Nat.le_trans (Nat.le_trans (Nat.le_trans (Nat.le_trans E1.1 E2.1) (Keep.of_wr W3).1) E4.1) (Keep.of_wr W5).1) (Keep.of_wr W6).1) E7.1) (Keep.of_wr W8).1) (Keep.of_wr W9).1) (Keep.of_wr W10).1) E93.1))
          refine g_special X93 hx hby hZ hown (rm_ini1_3 l Z a0 hw [] b93 b7 k7 d0 d1 d2 cz h93 n0 z157 O2 P5 f155 A93 F_coder_b93 F_value_b93 f156 g_b93 hb0_94 hb1_114 hb2_134) rfl rfl w4_ w5_ w3_ w6_ (by decide) e93 (by rw [hml]; rfl) [(.ref b7)] (lenOf own_pd1 rfl) rfl rfl (Nat.le_of_ble_eq_true rfl) (Nat.le_of_ble_eq_true rfl) (Nat.le_of_ble_eq_true rfl) (Nat.le_of_ble_eq_true rfl) at_165 (fun v154 T154 L154 X154 hQ154 => ?_)
          obtain ⟨rfl, N154q, K154, t154, kb154, lo154, Es154, Cs154, Vs154, Bs154⟩ := hQ154
          have N154 := Fr.app N10 N154q
          refine g_astore X154 hx hby at_168 rfl (l' := #[.val (.int x0), .val (.int x1), .val (.int x2), .val (.int x3), .val (.int d0), .val (.int d1), .val (.int d2), .val (.ref b1), .val (.ref b2), .val (.ref b4), .val (.ref b7), .val (.int (3 : Int32)), .val (.ref b93), .unset]) rfl ?_
          refine g_iload X154 hx hby at_170 rfl ?_
          have z159 := (Nat.le_trans z157 K154.1)
          refine g_static X154 hx hby hZ hown (rm_al l Z a0 hw [] d0 T154.heap n0 z159 ) w47_ w48_ w49_ w50_ (by decide) rfl (by rw [hml]; rfl) [(.int d0)] (lenOf own_pd12 rfl) rfl rfl (Nat.le_of_ble_eq_true rfl) (Nat.le_of_ble_eq_true rfl) (Nat.le_of_ble_eq_true rfl) (Nat.le_of_ble_eq_true rfl) at_172 (fun v158 T158 L158 X158 hQ158 => ?_)
          obtain ⟨rfl, N158q, eh158⟩ := hQ158
          have N158 := Fr.app N154 N158q
          by_cases hc175_160 : (own_al d0) = (0 : Int32)
          · skip
            refine g_ifY X158 hx hby 198 at_175 (teq hc175_160).1 (by decide) (by decide) ?_
            refine g_iconst X158 hx hby (0 : Int32) at_198 rfl ?_
            refine g_istore X158 hx hby at_199 (l' := #[.val (.int x0), .val (.int x1), .val (.int x2), .val (.int x3), .val (.int d0), .val (.int d1), .val (.int d2), .val (.ref b1), .val (.ref b2), .val (.ref b4), .val (.ref b7), .val (.int (3 : Int32)), .val (.ref b93), .val (.int (0 : Int32))]) rfl ?_
            refine g_aload X158 hx hby at_201 rfl rfl ?_
            have f162 := (f155.keep K154 (allS g_b93 all0))
            refine g_static X158 hx hby hZ hown (rm_fv_3 l Z a0 hw [] b93 t154 kb154 d0 d1 d2 cz fz T154.heap n0 z159 O2 P5 f162 Es154 Cs154 Vs154 Bs154 rfz O4 hr_d0 hr_d1 hr_d2 hb0_94 hb1_114 hb2_134) w22_ w23_ w24_ w25_ (by decide) eh158 (by rw [hml]; rfl) [(.ref b93)] (lenOf own_pd4 rfl) rfl rfl (Nat.le_of_ble_eq_true rfl) (Nat.le_of_ble_eq_true rfl) (Nat.le_of_ble_eq_true rfl) (Nat.le_of_ble_eq_true rfl) at_203 (fun v161 T161 L161 X161 hQ161 => ?_)
            obtain ⟨rfl, N161q, eh161⟩ := hQ161
            have N161 := Fr.app N158 N161q
            refine g_iload X161 hx hby at_206 rfl ?_
            refine g_icN X161 hx hby at_208 (teq (by simp [own_fvs, own_same hr_d0, own_same hr_d1, own_same hr_d2, hc175_160] : (own_fvs [d0, d1, d2]) = (0 : Int32))).2 ?_
            refine g_iconst X161 hx hby (1 : Int32) at_211 rfl ?_
            refine g_goto X161 hx hby 216 at_212 (by decide) (by decide) ?_
            refine g_nretW X161 hx hby (t := .boolean) (by simp) Bd.returns Bd.notSynchronized hS0 at_216 eh161 (Nat.zero_le _) (by decide) (by decide) ?_
            show (Q_law Z x0 x1 x2 x3 fz cz h0 n0) (some (.int (1 : Int32))) _ _
            exact ⟨rfl, N161⟩
          · skip
            refine g_ifN X158 hx hby at_175 (feq hc175_160).1 ?_
            refine g_iload X158 hx hby at_178 rfl ?_
            refine g_static X158 hx hby hZ hown (rm_al l Z a0 hw [] d1 T154.heap n0 z159 ) w47_ w48_ w49_ w50_ (by decide) eh158 (by rw [hml]; rfl) [(.int d1)] (lenOf own_pd12 rfl) rfl rfl (Nat.le_of_ble_eq_true rfl) (Nat.le_of_ble_eq_true rfl) (Nat.le_of_ble_eq_true rfl) (Nat.le_of_ble_eq_true rfl) at_180 (fun v163 T163 L163 X163 hQ163 => ?_)
            obtain ⟨rfl, N163q, eh163⟩ := hQ163
            have N163 := Fr.app N158 N163q
            refine g_at 183 rfl rfl rfl ?_
            by_cases hc183_164 : (own_al d1) = (0 : Int32)
            · skip
              refine g_ifY X163 hx hby 198 at_183 (teq hc183_164).1 (by decide) (by decide) ?_
              refine g_iconst X163 hx hby (0 : Int32) at_198 rfl ?_
              refine g_istore X163 hx hby at_199 (l' := #[.val (.int x0), .val (.int x1), .val (.int x2), .val (.int x3), .val (.int d0), .val (.int d1), .val (.int d2), .val (.ref b1), .val (.ref b2), .val (.ref b4), .val (.ref b7), .val (.int (3 : Int32)), .val (.ref b93), .val (.int (0 : Int32))]) rfl ?_
              refine g_aload X163 hx hby at_201 rfl rfl ?_
              have f166 := (f155.keep K154 (allS g_b93 all0))
              refine g_static X163 hx hby hZ hown (rm_fv_3 l Z a0 hw [] b93 t154 kb154 d0 d1 d2 cz fz T154.heap n0 z159 O2 P5 f166 Es154 Cs154 Vs154 Bs154 rfz O4 hr_d0 hr_d1 hr_d2 hb0_94 hb1_114 hb2_134) w22_ w23_ w24_ w25_ (by decide) eh163 (by rw [hml]; rfl) [(.ref b93)] (lenOf own_pd4 rfl) rfl rfl (Nat.le_of_ble_eq_true rfl) (Nat.le_of_ble_eq_true rfl) (Nat.le_of_ble_eq_true rfl) (Nat.le_of_ble_eq_true rfl) at_203 (fun v165 T165 L165 X165 hQ165 => ?_)
              obtain ⟨rfl, N165q, eh165⟩ := hQ165
              have N165 := Fr.app N163 N165q
              refine g_iload X165 hx hby at_206 rfl ?_
              refine g_icN X165 hx hby at_208 (teq (by simp [own_fvs, own_same hr_d0, own_same hr_d1, own_same hr_d2, hc175_160, hc183_164] : (own_fvs [d0, d1, d2]) = (0 : Int32))).2 ?_
              refine g_iconst X165 hx hby (1 : Int32) at_211 rfl ?_
              refine g_goto X165 hx hby 216 at_212 (by decide) (by decide) ?_
              refine g_nretW X165 hx hby (t := .boolean) (by simp) Bd.returns Bd.notSynchronized hS0 at_216 eh165 (Nat.zero_le _) (by decide) (by decide) ?_
              show (Q_law Z x0 x1 x2 x3 fz cz h0 n0) (some (.int (1 : Int32))) _ _
              exact ⟨rfl, N165⟩
            · skip
              refine g_ifN X163 hx hby at_183 (feq hc183_164).1 ?_
              refine g_iload X163 hx hby at_186 rfl ?_
              refine g_static X163 hx hby hZ hown (rm_al l Z a0 hw [] d2 T154.heap n0 z159 ) w47_ w48_ w49_ w50_ (by decide) eh163 (by rw [hml]; rfl) [(.int d2)] (lenOf own_pd12 rfl) rfl rfl (Nat.le_of_ble_eq_true rfl) (Nat.le_of_ble_eq_true rfl) (Nat.le_of_ble_eq_true rfl) (Nat.le_of_ble_eq_true rfl) at_188 (fun v167 T167 L167 X167 hQ167 => ?_)
              obtain ⟨rfl, N167q, eh167⟩ := hQ167
              have N167 := Fr.app N163 N167q
              by_cases hc191_168 : (own_al d2) = (0 : Int32)
              · skip
                refine g_ifY X167 hx hby 198 at_191 (teq hc191_168).1 (by decide) (by decide) ?_
                refine g_iconst X167 hx hby (0 : Int32) at_198 rfl ?_
                refine g_istore X167 hx hby at_199 (l' := #[.val (.int x0), .val (.int x1), .val (.int x2), .val (.int x3), .val (.int d0), .val (.int d1), .val (.int d2), .val (.ref b1), .val (.ref b2), .val (.ref b4), .val (.ref b7), .val (.int (3 : Int32)), .val (.ref b93), .val (.int (0 : Int32))]) rfl ?_
                refine g_aload X167 hx hby at_201 rfl rfl ?_
                have f170 := (f155.keep K154 (allS g_b93 all0))
                refine g_static X167 hx hby hZ hown (rm_fv_3 l Z a0 hw [] b93 t154 kb154 d0 d1 d2 cz fz T154.heap n0 z159 O2 P5 f170 Es154 Cs154 Vs154 Bs154 rfz O4 hr_d0 hr_d1 hr_d2 hb0_94 hb1_114 hb2_134) w22_ w23_ w24_ w25_ (by decide) eh167 (by rw [hml]; rfl) [(.ref b93)] (lenOf own_pd4 rfl) rfl rfl (Nat.le_of_ble_eq_true rfl) (Nat.le_of_ble_eq_true rfl) (Nat.le_of_ble_eq_true rfl) (Nat.le_of_ble_eq_true rfl) at_203 (fun v169 T169 L169 X169 hQ169 => ?_)
                obtain ⟨rfl, N169q, eh169⟩ := hQ169
                have N169 := Fr.app N167 N169q
                refine g_iload X169 hx hby at_206 rfl ?_
                refine g_icN X169 hx hby at_208 (teq (by simp [own_fvs, own_same hr_d0, own_same hr_d1, own_same hr_d2, hc175_160, hc183_164, hc191_168] : (own_fvs [d0, d1, d2]) = (0 : Int32))).2 ?_
                refine g_iconst X169 hx hby (1 : Int32) at_211 rfl ?_
                refine g_goto X169 hx hby 216 at_212 (by decide) (by decide) ?_
                refine g_nretW X169 hx hby (t := .boolean) (by simp) Bd.returns Bd.notSynchronized hS0 at_216 eh169 (Nat.zero_le _) (by decide) (by decide) ?_
                show (Q_law Z x0 x1 x2 x3 fz cz h0 n0) (some (.int (1 : Int32))) _ _
                exact ⟨rfl, N169⟩
              · skip
                refine g_ifN X167 hx hby at_191 (feq hc191_168).1 ?_
                refine g_iconst X167 hx hby (1 : Int32) at_194 rfl ?_
                refine g_goto X167 hx hby 199 at_195 (by decide) (by decide) ?_
                refine g_istore X167 hx hby at_199 (l' := #[.val (.int x0), .val (.int x1), .val (.int x2), .val (.int x3), .val (.int d0), .val (.int d1), .val (.int d2), .val (.ref b1), .val (.ref b2), .val (.ref b4), .val (.ref b7), .val (.int (3 : Int32)), .val (.ref b93), .val (.int (1 : Int32))]) rfl ?_
                refine g_aload X167 hx hby at_201 rfl rfl ?_
                have f172 := (f155.keep K154 (allS g_b93 all0))
                refine g_static X167 hx hby hZ hown (rm_fv_3 l Z a0 hw [] b93 t154 kb154 d0 d1 d2 cz fz T154.heap n0 z159 O2 P5 f172 Es154 Cs154 Vs154 Bs154 rfz O4 hr_d0 hr_d1 hr_d2 hb0_94 hb1_114 hb2_134) w22_ w23_ w24_ w25_ (by decide) eh167 (by rw [hml]; rfl) [(.ref b93)] (lenOf own_pd4 rfl) rfl rfl (Nat.le_of_ble_eq_true rfl) (Nat.le_of_ble_eq_true rfl) (Nat.le_of_ble_eq_true rfl) (Nat.le_of_ble_eq_true rfl) at_203 (fun v171 T171 L171 X171 hQ171 => ?_)
                obtain ⟨rfl, N171q, eh171⟩ := hQ171
                have N171 := Fr.app N167 N171q
                refine g_iload X171 hx hby at_206 rfl ?_
                refine g_icN X171 hx hby at_208 (teq (by simp [own_fvs, own_same hr_d0, own_same hr_d1, own_same hr_d2, hc175_160, hc183_164, hc191_168] : (own_fvs [d0, d1, d2]) = (1 : Int32))).2 ?_
                refine g_iconst X171 hx hby (1 : Int32) at_211 rfl ?_
                refine g_goto X171 hx hby 216 at_212 (by decide) (by decide) ?_
                refine g_nretW X171 hx hby (t := .boolean) (by simp) Bd.returns Bd.notSynchronized hS0 at_216 eh171 (Nat.zero_le _) (by decide) (by decide) ?_
                show (Q_law Z x0 x1 x2 x3 fz cz h0 n0) (some (.int (1 : Int32))) _ _
                exact ⟨rfl, N171⟩

set_option maxRecDepth 65536 in
set_option maxHeartbeats 40000000 in
theorem comes_1 {Post : Tables → Env → Array Value → State → Outcome → State → Prop} (hpost : ∀ tb e args s v u, (limb_1_1.after args s (.returned v) u = true ∧ limb_1_2.after args s (.returned v) u = true ∧ True) → ReturnedEndW s (.returned v) u (Jvm.fieldLocs frame_1_writes args s ++ Jvm.arrayLocs frame_1_arrays args s ++ Jvm.staticLocs frame_1_statics s) 24 1152 → Post tb e args s (.returned v) u) :
    ArmFor flags0 classFile x code maxLocals ret World_1 tables_1 room_1 Calls_1 rest_1 Pre_1 Post := by
  intro l hfl _ _ p e ha hc hk s m args below hf hA hF happ hP
  obtain ⟨hcalls, hrest, hpre⟩ := hP
  obtain ⟨-, -, -, hnamed, -, -, -, hat⟩ := (Spec.applies_iff hf).mp happ
  obtain ⟨hg, hn⟩ := and_e (Cond.before_iff.mp (show (Jvm.Cond.and given_1 narrow_1).before args s = true from hpre))
  obtain ⟨hcount, hg1⟩ := and_e hg
  obtain ⟨ga0, hg2⟩ := and_e hg1
  obtain ⟨ga1, hg3⟩ := and_e hg2
  obtain ⟨ga2, hg4⟩ := and_e hg3
  have ga3 := hg4
  obtain ⟨w0, w1, w2, w3, rfl⟩ : ∃ w0 w1 w2 w3 : Value, args = #[w0, w1, w2, w3] := by
    have hs : args.size = 4 := by simpa [Cond.value, given_1] using hcount
    obtain ⟨L⟩ := args
    match L, hs with
    | [w0, w1, w2, w3], _ => exact ⟨w0, w1, w2, w3, rfl⟩
  have hw := fun d (hd : d ∈ tables_1) => atoms_spec (ws := Jvm.Cond.code x code maxLocals ret :: tables_1) hat d (List.mem_cons_of_mem _ hd)
  have hfit : Fit s := fun {y c} hc i hi => by
    obtain ⟨ha, rfl⟩ := Array.getElem?_eq_some_iff.mp hc
    have q := List.all_eq_true.mp ((Array.all_eq_true_iff_forall_mem.mp hF) _ (Array.getElem_mem ha)) i (List.mem_range.mpr hi)
    simpa [Array.getElem?_eq_getElem hi] using q
  obtain ⟨hsets, hown0⟩ := atoms_of _ (rest_1_c_eq ▸ (show rest_1_c.before _ s = true from hrest))
  have hr0 := Cond.before_iff.mp hown0
  obtain ⟨i0, ei0⟩ := is_v ga0
  obtain rfl : w0 = (.int i0) := Option.some.inj ei0
  obtain ⟨i1, ei1⟩ := is_v ga1
  obtain rfl : w1 = (.int i1) := Option.some.inj ei1
  obtain ⟨i2, ei2⟩ := is_v ga2
  obtain rfl : w2 = (.int i2) := Option.some.inj ei2
  obtain ⟨i3, ei3⟩ := is_v ga3
  obtain rfl : w3 = (.int i3) := Option.some.inj ei3
  obtain ⟨cz, ecz⟩ := is_v (Cond.before_iff.mp (hsets _ (List.mem_of_getElem? (i := 1) rfl)))
  have O2 := Sta.start ecz (Or.inl (hsets _ (List.mem_of_getElem? (i := 0) rfl)))
  have P5 : ¬ cz = (0 : Int32) := gotF (Cond.eq_ints ecz (Term.int_eval 0)) (not_v (Cond.before_iff.mp (hsets _ (List.mem_of_getElem? (i := 2) rfl))))
  obtain ⟨fz, efz, rfz0⟩ := isR_v (Cond.before_iff.mp (hsets _ (List.mem_of_getElem? (i := 8) rfl)))
  have rfz := Rf.of rfz0
  have O4 := Sta.start efz (Or.inl (hsets _ (List.mem_of_getElem? (i := 7) rfl)))
  have Uad := Sta.start (own_eq_int (Cond.before_iff.mp (hsets _ (List.mem_of_getElem? (i := 12) rfl)))) (Or.inl (hsets _ (List.mem_of_getElem? (i := 11) rfl)))
  have Uhi := Sta.start (own_eq_int (Cond.before_iff.mp (hsets _ (List.mem_of_getElem? (i := 15) rfl)))) (Or.inl (hsets _ (List.mem_of_getElem? (i := 14) rfl)))
  have Ulo := Sta.start (own_eq_int (Cond.before_iff.mp (hsets _ (List.mem_of_getElem? (i := 18) rfl)))) (Or.inl (hsets _ (List.mem_of_getElem? (i := 17) rfl)))
  have hheld : Jvm.Lit.constHeld s "java/lang/String" 7 := hcalls.1 ("java/lang/String", 7) (by simp [consts_1])
  have hcw : Jvm.Lit.compactW.before #[Value.int i0, Value.int i1, Value.int i2, Value.int i3] s = true := hsets _ (List.mem_of_getElem? (i := 2) rfl)
  obtain ⟨n, o, h1, h2, h3, _, L, rfl, ⟨rfl, N⟩, hq⟩ := rm_law l s _ hw tables_1 i0 i1 i2 i3 fz cz s.heap s.heap.size (Nat.le_refl _) O2 P5 (Old.start s) Uad Uhi Ulo rfz O4 hheld hcw p e ha hc hk s m _ below hf ((Spec.applies_iff_loose hf).mp happ).1 ⟨rfl, ⟨State.Warmed39.refl s, rfl⟩, rfl⟩ trivial
  refine ⟨n, _, h1, h2, h3, hpost _ _ _ _ _ _ ⟨Cond.after_iff.mpr rfl, Cond.after_iff.mpr (eq_i res_at (Term.int_eval (1)) rfl), trivial⟩ (own_widen hq N (by decide) (by decide))⟩
theorem main_1_1 : Claimed_1_1 := comes_1 fun _ _ _ _ _ _ h hF => ⟨h.1, hF⟩
theorem main_1_2 : Claimed_1_2 := comes_1 fun _ _ _ _ _ _ h hF => ⟨h.2.1, hF⟩

end Jvm.Pilot.@@N@@
namespace Jvm.Pilot.@@N@@
open Jvm Jvm.ClassFile Sem Op Lib Jvm.Free Jvm.Stand Jvm.Pilot.@@N@@.Jvm.D
/-! MADE BY PROGRAM (witnessworld.py) out of the Statement's table words and the real class files: 20 classes; the members and pool entries that the words name. The judged class is class 1, her method 1. -/
namespace start1
open Jvm.ClassFile
def u (s : String) : CpInfo := .utf8 (stringToUtf16 s)
/-- a pool by its gaps: so many unusable entries, then the entry; so many at the end -/
def gap : Nat → List CpInfo → List CpInfo
  | 0, r => r
  | n + 1, r => .unusable :: gap n r
def poolList (es : List (Nat × CpInfo)) (last : Nat) : List CpInfo := es.foldr (fun e r => gap e.1 (e.2 :: r)) (gap last [])
def pool (es : List (Nat × CpInfo)) (last : Nat) : Array CpInfo := ⟨poolList es last⟩
def fileOf (pool : Array CpInfo) (this : Nat) (attrs : Array Attribute := #[]) (ms : Array MethodInfo := #[]) (fl : Nat := 33) (sup : Nat := 0) (ifs : Array Nat := #[]) (fds : Array FieldInfo := #[]) : ClassFile where
  minorVersion := 0
  majorVersion := 65
  constantPool := pool
  accessFlags := fl
  thisClass := this
  superClass := sup
  interfaces := ifs
  fields := fds
  methods := ms
  attributes := attrs
def plain (name : String) (sup : Option ClassId) : Class where
  name := name
  kind := .ordinary
  loader := none
  accessFlags := 33
  super := sup
  interfaces := #[]
  cf := none
  fields := #[]
  methods := #[]
  instanceTypes := #[]
  staticTypes := #[]
  resolved := #[]
  callSites := []
  init := .initialized
  statics := none
  mirror := none

def pool0 : Array CpInfo := pool [(5, u "<init>"), (0, u "()V"), (1, .class_ 10), (1, u "java/lang/Object")] 113

def k0c0 : Code := { maxStack := 0, maxLocals := 1, code := object_method_1_code, exceptionTable := #[], attributes := #[] }
def k0m0 : Method := { name := "<init>", desc := "()V", sig := { parameters := [], returnType := none }, accessFlags := 1, code := some k0c0 }
/-- java/lang/Object -/
def k0 : Class := { plain "java/lang/Object" none with
  accessFlags := 33
  interfaces := #[]
  cf := some (fileOf pool0 8 #[] #[{ accessFlags := 1, nameIndex := 5, descriptorIndex := 6, attributes := #[] }] 33 0 #[] #[])
  fields := #[]
  methods := #[k0m0]
  instanceTypes := #[]
  staticTypes := #[]
  resolved := Array.replicate 124 none
  statics := none }

def pool1 : Array CpInfo := pool [(2, .class_ 4), (1, u "java/lang/Object"), (0, u "<init>"), (0, u "()V"), (0, .class_ 8), (0, u "java/lang/String"), (0, .methodref 7 10), (0, .nameAndType 5 11), (0, u "([C)V"), (0, .methodref 13 14), (0, .class_ 15), (0, .nameAndType 16 17), (0, u "com/example/usher/usher/gateway/http/Http1InputIsFieldValuePinLaw"), (0, u "allowed"), (0, u "(C)Z"), (0, .methodref 19 20), (0, .class_ 21), (0, .nameAndType 22 23), (0, u "com/example/usher/usher/gateway/http/Http1Input"), (0, u "isFieldValue"), (0, u "(Ljava/lang/String;)Z"), (2, u "law"), (0, u "(IIII)Z")] 5

def k1m0 : Method := { name := "<init>", desc := "()V", sig := { parameters := [], returnType := none }, accessFlags := 1, code := none }
def k1c1 : Code := { maxStack := 4, maxLocals := 14, code := code, exceptionTable := #[], attributes := #[] }
def k1m1 : Method := { name := "law", desc := "(IIII)Z", sig := { parameters := [.int, .int, .int, .int], returnType := some .boolean }, accessFlags := 9, code := some k1c1 }
def k1c2 : Code := { maxStack := 2, maxLocals := 1, code := method_3_code, exceptionTable := #[], attributes := #[] }
def k1m2 : Method := { name := "allowed", desc := "(C)Z", sig := { parameters := [.char], returnType := some .boolean }, accessFlags := 10, code := some k1c2 }
/-- com/example/usher/usher/gateway/http/Http1InputIsFieldValuePinLaw -/
def k1 : Class := { plain "com/example/usher/usher/gateway/http/Http1InputIsFieldValuePinLaw" (some 0) with
  accessFlags := 49
  interfaces := #[]
  cf := some (fileOf pool1 13 #[] #[{ accessFlags := 1, nameIndex := 5, descriptorIndex := 6, attributes := #[] }, { accessFlags := 9, nameIndex := 26, descriptorIndex := 27, attributes := #[] }, { accessFlags := 10, nameIndex := 16, descriptorIndex := 17, attributes := #[] }] 49 2 #[] #[])
  fields := #[]
  methods := #[k1m0, k1m1, k1m2]
  instanceTypes := #[]
  staticTypes := #[]
  resolved := Array.replicate 33 none
  statics := none }

def pool2 : Array CpInfo := pool [(1, .class_ 2), (0, u "java/io/Serializable"), (0, .class_ 4), (0, u "java/lang/Object")] 2

/-- java/io/Serializable -/
def k2 : Class := { plain "java/io/Serializable" (some 0) with
  accessFlags := 1537
  interfaces := #[]
  cf := some (fileOf pool2 1 #[] #[] 1537 3 #[] #[])
  fields := #[]
  methods := #[]
  instanceTypes := #[]
  staticTypes := #[]
  resolved := Array.replicate 7 none
  statics := none }

def pool3 : Array CpInfo := pool [(1, .class_ 2), (0, u "java/lang/Comparable"), (0, .class_ 4), (0, u "java/lang/Object")] 7

/-- java/lang/Comparable -/
def k3 : Class := { plain "java/lang/Comparable" (some 0) with
  accessFlags := 1537
  interfaces := #[]
  cf := some (fileOf pool3 1 #[] #[] 1537 3 #[] #[])
  fields := #[]
  methods := #[]
  instanceTypes := #[]
  staticTypes := #[]
  resolved := Array.replicate 12 none
  statics := none }

def pool4 : Array CpInfo := pool [(2, .class_ 4), (1, u "java/lang/CharSequence"), (42, .class_ 48), (0, u "java/lang/CharSequence$1CodePointIterator"), (10, .class_ 60), (0, u "java/lang/CharSequence$1CharIterator"), (5, .class_ 67), (0, u "java/lang/Object")] 63

/-- java/lang/CharSequence -/
def k4 : Class := { plain "java/lang/CharSequence" (some 0) with
  accessFlags := 1537
  interfaces := #[]
  cf := some (fileOf pool4 2 #[.nestMembers #[47, 59]] #[] 1537 66 #[] #[])
  fields := #[]
  methods := #[]
  instanceTypes := #[]
  staticTypes := #[]
  resolved := Array.replicate 131 none
  statics := none }

def pool5 : Array CpInfo := pool [(1, .class_ 2), (0, u "java/lang/constant/Constable"), (0, .class_ 4), (0, u "java/lang/Object")] 6

/-- java/lang/constant/Constable -/
def k5 : Class := { plain "java/lang/constant/Constable" (some 0) with
  accessFlags := 1537
  interfaces := #[]
  cf := some (fileOf pool5 1 #[] #[] 1537 3 #[] #[])
  fields := #[]
  methods := #[]
  instanceTypes := #[]
  staticTypes := #[]
  resolved := Array.replicate 11 none
  statics := none }

def pool6 : Array CpInfo := pool [(1, .class_ 2), (0, u "java/lang/constant/ConstantDesc"), (0, .class_ 4), (0, u "java/lang/Object")] 32

/-- java/lang/constant/ConstantDesc -/
def k6 : Class := { plain "java/lang/constant/ConstantDesc" (some 0) with
  accessFlags := 1537
  interfaces := #[]
  cf := some (fileOf pool6 1 #[] #[] 1537 3 #[] #[])
  fields := #[]
  methods := #[]
  instanceTypes := #[]
  staticTypes := #[]
  resolved := Array.replicate 37 none
  statics := none }

def pool7 : Array CpInfo := pool [(1, .methodref 2 3), (0, .class_ 4), (0, .nameAndType 5 6), (0, u "java/lang/Object"), (0, u "<init>"), (0, u "()V"), (0, .string 8), (0, u ""), (0, .fieldref 10 11), (0, .class_ 12), (0, .nameAndType 13 14), (0, u "java/lang/String"), (0, u "value"), (0, u "[B"), (0, .fieldref 10 16), (0, .nameAndType 17 18), (0, u "coder"), (0, u "B"), (2, u "hash"), (0, u "I"), (2, u "hashIsZero"), (0, u "Z"), (0, .methodref 10 28), (0, .nameAndType 5 29), (0, u "([CIILjava/lang/Void;)V"), (8, .fieldref 10 39), (0, .nameAndType 40 26), (0, u "COMPACT_STRINGS"), (1, .class_ 44), (1, u "java/lang/StringUTF16"), (0, u "compress"), (1, .methodref 42 48), (0, .nameAndType 49 50), (0, u "coderFromArrayLen"), (0, u "([BI)B"), (56, .class_ 109), (1, u "java/lang/StringLatin1"), (32, u "()Z"), (34, .methodref 42 178), (0, .nameAndType 45 179), (0, u "([CII)[B"), (154, u "()I"), (0, .methodref 10 336), (0, .nameAndType 17 337), (0, u "()B"), (25, u "([BI)C"), (27, u "(II)V"), (35, u "(I)C"), (64, .methodref 10 493), (0, .nameAndType 494 142), (0, u "isLatin1"), (0, .methodref 107 496), (0, .nameAndType 497 363), (0, u "charAt"), (0, .methodref 42 496), (2, u "checkIndex"), (5, u "length"), (67, .class_ 576), (0, u "java/lang/CharSequence"), (22, u "CASE_INSENSITIVE_ORDER"), (0, u "Ljava/util/Comparator;"), (409, u "([C)V"), (42, .fieldref 1054 1055), (0, .class_ 1056), (0, .nameAndType 1057 1058), (0, u "jdk/internal/util/Preconditions"), (0, u "SIOOBE_FORMATTER"), (0, u "Ljava/util/function/BiFunction;"), (0, .methodref 1054 1060), (0, .nameAndType 501 1061), (0, u "(IILjava/util/function/BiFunction;)I"), (39, u "serialPersistentFields"), (0, u "[Ljava/io/ObjectStreamField;"), (0, .class_ 1104), (0, u "java/lang/String$CaseInsensitiveComparator"), (1, .class_ 1107), (0, u "java/io/Serializable"), (0, .class_ 1109), (0, u "java/lang/Comparable"), (0, .class_ 1111), (0, u "java/lang/constant/Constable"), (0, .class_ 1113), (0, u "java/lang/constant/ConstantDesc"), (2, u "serialVersionUID"), (0, u "J"), (3, u "REPL"), (0, u "C"), (2, u "LATIN1"), (1, u "UTF16")] 323

def k7m0 : Method := { name := "<init>", desc := "()V", sig := { parameters := [], returnType := none }, accessFlags := 1, code := none }
def k7c1 : Code := { maxStack := 5, maxLocals := 2, code := jdk_42_method_3_code, exceptionTable := #[], attributes := #[] }
def k7m1 : Method := { name := "<init>", desc := "([C)V", sig := { parameters := [(.array .char)], returnType := none }, accessFlags := 1, code := some k7c1 }
def k7c2 : Code := { maxStack := 2, maxLocals := 1, code := jdk_42_method_54_code, exceptionTable := #[], attributes := #[] }
def k7m2 : Method := { name := "length", desc := "()I", sig := { parameters := [], returnType := some .int }, accessFlags := 1, code := some k7c2 }
def k7c3 : Code := { maxStack := 2, maxLocals := 2, code := jdk_42_method_56_code, exceptionTable := #[], attributes := #[] }
def k7m3 : Method := { name := "charAt", desc := "(I)C", sig := { parameters := [.int], returnType := some .char }, accessFlags := 1, code := some k7c3 }
def k7c4 : Code := { maxStack := 4, maxLocals := 6, code := jdk_42_method_149_code, exceptionTable := #[], attributes := #[] }
def k7m4 : Method := { name := "<init>", desc := "([CIILjava/lang/Void;)V", sig := { parameters := [(.array .char), .int, .int, (.object "java/lang/Void")], returnType := none }, accessFlags := 2, code := some k7c4 }
def k7c5 : Code := { maxStack := 1, maxLocals := 1, code := jdk_42_method_152_code, exceptionTable := #[], attributes := #[] }
def k7m5 : Method := { name := "coder", desc := "()B", sig := { parameters := [], returnType := some .byte }, accessFlags := 0, code := some k7c5 }
def k7c6 : Code := { maxStack := 1, maxLocals := 1, code := jdk_42_method_154_code, exceptionTable := #[], attributes := #[] }
def k7m6 : Method := { name := "isLatin1", desc := "()Z", sig := { parameters := [], returnType := some .boolean }, accessFlags := 0, code := some k7c6 }
def k7c7 : Code := { maxStack := 3, maxLocals := 2, code := jdk_42_method_155_code, exceptionTable := #[], attributes := #[] }
def k7m7 : Method := { name := "checkIndex", desc := "(II)V", sig := { parameters := [.int, .int], returnType := none }, accessFlags := 8, code := some k7c7 }
/-- java/lang/String -/
def k7 : Class := { plain "java/lang/String" (some 0) with
  accessFlags := 49
  interfaces := #[2, 3, 4, 5, 6]
  cf := some (fileOf pool7 10 #[.nestMembers #[1103]] #[{ accessFlags := 1, nameIndex := 5, descriptorIndex := 6, attributes := #[] }, { accessFlags := 1, nameIndex := 5, descriptorIndex := 1010, attributes := #[] }, { accessFlags := 1, nameIndex := 507, descriptorIndex := 334, attributes := #[] }, { accessFlags := 1, nameIndex := 497, descriptorIndex := 427, attributes := #[] }, { accessFlags := 2, nameIndex := 5, descriptorIndex := 29, attributes := #[] }, { accessFlags := 0, nameIndex := 17, descriptorIndex := 337, attributes := #[] }, { accessFlags := 0, nameIndex := 494, descriptorIndex := 142, attributes := #[] }, { accessFlags := 8, nameIndex := 501, descriptorIndex := 391, attributes := #[] }] 49 2 #[1106, 1108, 575, 1110, 1112] #[{ accessFlags := 18, nameIndex := 13, descriptorIndex := 14, attributes := #[] }, { accessFlags := 18, nameIndex := 17, descriptorIndex := 18, attributes := #[] }, { accessFlags := 2, nameIndex := 21, descriptorIndex := 22, attributes := #[] }, { accessFlags := 2, nameIndex := 25, descriptorIndex := 26, attributes := #[] }, { accessFlags := 26, nameIndex := 1116, descriptorIndex := 1117, attributes := #[] }, { accessFlags := 24, nameIndex := 40, descriptorIndex := 26, attributes := #[] }, { accessFlags := 26, nameIndex := 1101, descriptorIndex := 1102, attributes := #[] }, { accessFlags := 26, nameIndex := 1121, descriptorIndex := 1122, attributes := #[] }, { accessFlags := 25, nameIndex := 599, descriptorIndex := 600, attributes := #[] }, { accessFlags := 24, nameIndex := 1125, descriptorIndex := 18, attributes := #[] }, { accessFlags := 24, nameIndex := 1127, descriptorIndex := 18, attributes := #[] }])
  fields := #[{ name := "value", type := (.array .byte), accessFlags := 18, slot := 0, constantValue := 0 }, { name := "coder", type := .byte, accessFlags := 18, slot := 1, constantValue := 0 }, { name := "hash", type := .int, accessFlags := 2, slot := 2, constantValue := 0 }, { name := "hashIsZero", type := .boolean, accessFlags := 2, slot := 3, constantValue := 0 }, { name := "serialVersionUID", type := .long, accessFlags := 26, slot := 0, constantValue := 0 }, { name := "COMPACT_STRINGS", type := .boolean, accessFlags := 24, slot := 1, constantValue := 0 }, { name := "serialPersistentFields", type := (.array (.object "java/io/ObjectStreamField")), accessFlags := 26, slot := 2, constantValue := 0 }, { name := "REPL", type := .char, accessFlags := 26, slot := 3, constantValue := 0 }, { name := "CASE_INSENSITIVE_ORDER", type := (.object "java/util/Comparator"), accessFlags := 25, slot := 4, constantValue := 0 }, { name := "LATIN1", type := .byte, accessFlags := 24, slot := 5, constantValue := 0 }, { name := "UTF16", type := .byte, accessFlags := 24, slot := 6, constantValue := 0 }]
  methods := #[k7m0, k7m1, k7m2, k7m3, k7m4, k7m5, k7m6, k7m7]
  instanceTypes := #[(.array .byte), .byte, .int, .boolean]
  staticTypes := #[.long, .boolean, (.array (.object "java/io/ObjectStreamField")), .char, (.object "java/util/Comparator"), .byte, .byte]
  resolved := Array.replicate 1451 none
  statics := some 0 }

def pool8 : Array CpInfo := pool [(2, .class_ 4), (1, u "com/example/usher/usher/gateway/http/Http1Input"), (3, .class_ 10), (1, u "java/lang/Object"), (3, u "in"), (0, u "Ljava/io/InputStream;"), (2, u "buffer"), (0, u "[B"), (2, u "position"), (0, u "I"), (2, u "limit"), (6, .methodref 34 35), (0, .class_ 36), (0, .nameAndType 37 38), (0, u "java/lang/String"), (0, u "length"), (0, u "()I"), (27, u "(Ljava/lang/String;)Z"), (2, u "isFieldValue"), (18, .class_ 89), (0, u "com/example/usher/usher/gateway/http/Http1Input$Head"), (17, .nameAndType 108 109), (0, u "charAt"), (0, u "(I)C"), (49, .class_ 160), (0, u "com/example/usher/usher/gateway/http/Http1Input$Body"), (10, .methodref 34 107), (10, u "MOST_DECIMAL_DIGITS"), (2, u "MOST_HEX_DIGITS"), (1, u "HEAD"), (0, u "Ljava/lang/String;"), (0, u "CHUNK_LINE"), (2, u "TRAILERS")] 56

def k8c0 : Code := { maxStack := 2, maxLocals := 3, code := prog_2_method_17_code, exceptionTable := #[], attributes := #[] }
def k8m0 : Method := { name := "isFieldValue", desc := "(Ljava/lang/String;)Z", sig := { parameters := [(.object "java/lang/String")], returnType := some .boolean }, accessFlags := 8, code := some k8c0 }
/-- com/example/usher/usher/gateway/http/Http1Input -/
def k8 : Class := { plain "com/example/usher/usher/gateway/http/Http1Input" (some 0) with
  accessFlags := 49
  interfaces := #[]
  cf := some (fileOf pool8 2 #[.nestMembers #[159, 88]] #[{ accessFlags := 8, nameIndex := 69, descriptorIndex := 66, attributes := #[] }] 49 8 #[] #[{ accessFlags := 25, nameIndex := 182, descriptorIndex := 23, attributes := #[] }, { accessFlags := 26, nameIndex := 185, descriptorIndex := 23, attributes := #[] }, { accessFlags := 26, nameIndex := 187, descriptorIndex := 188, attributes := #[] }, { accessFlags := 26, nameIndex := 189, descriptorIndex := 188, attributes := #[] }, { accessFlags := 26, nameIndex := 192, descriptorIndex := 188, attributes := #[] }, { accessFlags := 18, nameIndex := 14, descriptorIndex := 15, attributes := #[] }, { accessFlags := 2, nameIndex := 18, descriptorIndex := 19, attributes := #[] }, { accessFlags := 2, nameIndex := 22, descriptorIndex := 23, attributes := #[] }, { accessFlags := 2, nameIndex := 26, descriptorIndex := 23, attributes := #[] }])
  fields := #[{ name := "MOST_DECIMAL_DIGITS", type := .int, accessFlags := 25, slot := 0, constantValue := 0 }, { name := "MOST_HEX_DIGITS", type := .int, accessFlags := 26, slot := 1, constantValue := 0 }, { name := "HEAD", type := (.object "java/lang/String"), accessFlags := 26, slot := 2, constantValue := 0 }, { name := "CHUNK_LINE", type := (.object "java/lang/String"), accessFlags := 26, slot := 3, constantValue := 0 }, { name := "TRAILERS", type := (.object "java/lang/String"), accessFlags := 26, slot := 4, constantValue := 0 }, { name := "in", type := (.object "java/io/InputStream"), accessFlags := 18, slot := 0, constantValue := 0 }, { name := "buffer", type := (.array .byte), accessFlags := 2, slot := 1, constantValue := 0 }, { name := "position", type := .int, accessFlags := 2, slot := 2, constantValue := 0 }, { name := "limit", type := .int, accessFlags := 2, slot := 3, constantValue := 0 }]
  methods := #[k8m0]
  instanceTypes := #[(.object "java/io/InputStream"), (.array .byte), .int, .int]
  staticTypes := #[.int, .int, (.object "java/lang/String"), (.object "java/lang/String"), (.object "java/lang/String")]
  resolved := Array.replicate 249 none
  statics := none }

def pool9 : Array CpInfo := pool [(3, .class_ 4), (0, u "java/lang/String"), (1, .class_ 8), (1, u "java/lang/Object"), (0, u "<init>"), (0, u "()V"), (0, .methodref 12 13), (0, .class_ 14), (0, .nameAndType 15 16), (0, u "java/lang/StringUTF16"), (0, u "newBytesLength"), (0, u "(I)I"), (3, .integer 1073741823), (23, .fieldref 12 45), (0, .nameAndType 46 47), (0, u "$assertionsDisabled"), (0, u "Z"), (0, .methodref 12 49), (0, .nameAndType 50 51), (0, u "length"), (0, u "([B)I"), (7, .fieldref 12 60), (0, .nameAndType 61 62), (0, u "HI_BYTE_SHIFT"), (0, u "I"), (0, .fieldref 12 64), (0, .nameAndType 65 62), (0, u "LO_BYTE_SHIFT"), (1, .methodref 12 68), (0, .nameAndType 69 70), (0, u "checkIndex"), (0, u "(I[B)V"), (0, .methodref 12 72), (0, .nameAndType 73 74), (0, u "getChar"), (0, u "([BI)C"), (32, .methodref 12 108), (0, .nameAndType 109 110), (0, u "newBytesFor"), (0, u "(I)[B"), (0, .methodref 12 112), (0, .nameAndType 113 114), (0, u "putChar"), (0, u "([BII)V"), (0, .methodref 12 116), (0, .nameAndType 117 118), (0, u "compress"), (0, u "([CI[BII)I"), (0, .methodref 12 120), (0, .nameAndType 121 122), (0, u "toBytes"), (0, u "([CII)[B"), (138, u "coderFromArrayLen"), (0, u "([BI)B"), (106, .class_ 371), (1, u "java/lang/StringUTF16$LinesSpliterator"), (20, u "charAt"), (21, .methodref 3 415), (0, .nameAndType 69 416), (0, u "(II)V"), (13, u "MAX_LENGTH"), (196, .class_ 628), (0, u "java/lang/StringUTF16$CodePointsSpliterator"), (0, .class_ 630), (0, u "java/lang/StringUTF16$CharsSpliterator")] 4

def k9m0 : Method := { name := "<init>", desc := "()V", sig := { parameters := [], returnType := none }, accessFlags := 0, code := none }
def k9c1 : Code := { maxStack := 1, maxLocals := 1, code := jdk_52_method_2_code, exceptionTable := #[], attributes := #[] }
def k9m1 : Method := { name := "newBytesFor", desc := "(I)[B", sig := { parameters := [.int], returnType := some (.array .byte) }, accessFlags := 9, code := some k9c1 }
def k9c2 : Code := { maxStack := 4, maxLocals := 1, code := jdk_52_method_3_code, exceptionTable := #[], attributes := #[] }
def k9m2 : Method := { name := "newBytesLength", desc := "(I)I", sig := { parameters := [.int], returnType := some .int }, accessFlags := 9, code := some k9c2 }
def k9c3 : Code := { maxStack := 4, maxLocals := 3, code := jdk_52_method_4_code, exceptionTable := #[], attributes := #[] }
def k9m3 : Method := { name := "putChar", desc := "([BII)V", sig := { parameters := [(.array .byte), .int, .int], returnType := none }, accessFlags := 8, code := some k9c3 }
def k9c4 : Code := { maxStack := 3, maxLocals := 2, code := jdk_52_method_5_code, exceptionTable := #[], attributes := #[] }
def k9m4 : Method := { name := "getChar", desc := "([BI)C", sig := { parameters := [(.array .byte), .int], returnType := some .char }, accessFlags := 8, code := some k9c4 }
def k9c5 : Code := { maxStack := 2, maxLocals := 1, code := jdk_52_method_6_code, exceptionTable := #[], attributes := #[] }
def k9m5 : Method := { name := "length", desc := "([B)I", sig := { parameters := [(.array .byte)], returnType := some .int }, accessFlags := 9, code := some k9c5 }
def k9c6 : Code := { maxStack := 4, maxLocals := 5, code := jdk_52_method_14_code, exceptionTable := #[], attributes := #[] }
def k9m6 : Method := { name := "toBytes", desc := "([CII)[B", sig := { parameters := [(.array .char), .int, .int], returnType := some (.array .byte) }, accessFlags := 9, code := some k9c6 }
def k9c7 : Code := { maxStack := 2, maxLocals := 2, code := jdk_52_method_15_code, exceptionTable := #[], attributes := #[] }
def k9m7 : Method := { name := "coderFromArrayLen", desc := "([BI)B", sig := { parameters := [(.array .byte), .int], returnType := some .byte }, accessFlags := 8, code := some k9c7 }
def k9c8 : Code := { maxStack := 5, maxLocals := 6, code := jdk_52_method_16_code, exceptionTable := #[], attributes := #[] }
def k9m8 : Method := { name := "compress", desc := "([CII)[B", sig := { parameters := [(.array .char), .int, .int], returnType := some (.array .byte) }, accessFlags := 9, code := some k9c8 }
def k9c9 : Code := { maxStack := 3, maxLocals := 7, code := jdk_52_method_21_code, exceptionTable := #[], attributes := #[] }
def k9m9 : Method := { name := "compress", desc := "([CI[BII)I", sig := { parameters := [(.array .char), .int, (.array .byte), .int, .int], returnType := some .int }, accessFlags := 9, code := some k9c9 }
def k9c10 : Code := { maxStack := 2, maxLocals := 2, code := jdk_52_method_83_code, exceptionTable := #[], attributes := #[] }
def k9m10 : Method := { name := "charAt", desc := "([BI)C", sig := { parameters := [(.array .byte), .int], returnType := some .char }, accessFlags := 9, code := some k9c10 }
def k9c11 : Code := { maxStack := 2, maxLocals := 2, code := jdk_52_method_91_code, exceptionTable := #[], attributes := #[] }
def k9m11 : Method := { name := "checkIndex", desc := "(I[B)V", sig := { parameters := [.int, (.array .byte)], returnType := none }, accessFlags := 9, code := some k9c11 }
/-- java/lang/StringUTF16 -/
def k9 : Class := { plain "java/lang/StringUTF16" (some 0) with
  accessFlags := 48
  interfaces := #[]
  cf := some (fileOf pool9 12 #[.nestMembers #[627, 629, 369]] #[{ accessFlags := 0, nameIndex := 9, descriptorIndex := 10, attributes := #[] }, { accessFlags := 9, nameIndex := 109, descriptorIndex := 110, attributes := #[] }, { accessFlags := 9, nameIndex := 15, descriptorIndex := 16, attributes := #[] }, { accessFlags := 8, nameIndex := 113, descriptorIndex := 114, attributes := #[] }, { accessFlags := 8, nameIndex := 73, descriptorIndex := 74, attributes := #[] }, { accessFlags := 9, nameIndex := 50, descriptorIndex := 51, attributes := #[] }, { accessFlags := 9, nameIndex := 121, descriptorIndex := 122, attributes := #[] }, { accessFlags := 8, nameIndex := 261, descriptorIndex := 262, attributes := #[] }, { accessFlags := 9, nameIndex := 117, descriptorIndex := 122, attributes := #[] }, { accessFlags := 9, nameIndex := 117, descriptorIndex := 118, attributes := #[] }, { accessFlags := 9, nameIndex := 392, descriptorIndex := 74, attributes := #[] }, { accessFlags := 9, nameIndex := 69, descriptorIndex := 70, attributes := #[] }] 48 6 #[] #[{ accessFlags := 26, nameIndex := 61, descriptorIndex := 62, attributes := #[] }, { accessFlags := 26, nameIndex := 65, descriptorIndex := 62, attributes := #[] }, { accessFlags := 24, nameIndex := 430, descriptorIndex := 62, attributes := #[] }, { accessFlags := 4120, nameIndex := 46, descriptorIndex := 47, attributes := #[] }])
  fields := #[{ name := "HI_BYTE_SHIFT", type := .int, accessFlags := 26, slot := 0, constantValue := 0 }, { name := "LO_BYTE_SHIFT", type := .int, accessFlags := 26, slot := 1, constantValue := 0 }, { name := "MAX_LENGTH", type := .int, accessFlags := 24, slot := 2, constantValue := 0 }, { name := "$assertionsDisabled", type := .boolean, accessFlags := 4120, slot := 3, constantValue := 0 }]
  methods := #[k9m0, k9m1, k9m2, k9m3, k9m4, k9m5, k9m6, k9m7, k9m8, k9m9, k9m10, k9m11]
  instanceTypes := #[]
  staticTypes := #[.int, .int, .int, .boolean]
  resolved := Array.replicate 635 none
  statics := some 1 }

def pool10 : Array CpInfo := pool [(1, .class_ 2), (0, u "java/lang/String"), (1, .class_ 6), (1, u "java/lang/Object"), (0, u "<init>"), (0, u "()V"), (0, .methodref 1 10), (0, .nameAndType 11 12), (0, u "checkIndex"), (0, u "(II)V"), (1, .class_ 16), (1, u "java/lang/StringLatin1"), (36, u "([BI)C"), (67, u "$assertionsDisabled"), (0, u "Z"), (98, .class_ 223), (1, u "java/lang/StringLatin1$LinesSpliterator"), (28, u "charAt"), (137, .class_ 391), (0, u "java/lang/StringLatin1$CharsSpliterator")] 3

def k10m0 : Method := { name := "<init>", desc := "()V", sig := { parameters := [], returnType := none }, accessFlags := 0, code := none }
def k10c1 : Code := { maxStack := 2, maxLocals := 2, code := jdk_43_method_2_code, exceptionTable := #[], attributes := #[] }
def k10m1 : Method := { name := "charAt", desc := "([BI)C", sig := { parameters := [(.array .byte), .int], returnType := some .char }, accessFlags := 9, code := some k10c1 }
/-- java/lang/StringLatin1 -/
def k10 : Class := { plain "java/lang/StringLatin1" (some 0) with
  accessFlags := 48
  interfaces := #[]
  cf := some (fileOf pool10 14 #[.nestMembers #[390, 221]] #[{ accessFlags := 0, nameIndex := 7, descriptorIndex := 8, attributes := #[] }, { accessFlags := 9, nameIndex := 252, descriptorIndex := 53, attributes := #[] }] 48 4 #[] #[{ accessFlags := 4120, nameIndex := 121, descriptorIndex := 122, attributes := #[] }])
  fields := #[{ name := "$assertionsDisabled", type := .boolean, accessFlags := 4120, slot := 0, constantValue := 0 }]
  methods := #[k10m0, k10m1]
  instanceTypes := #[]
  staticTypes := #[.boolean]
  resolved := Array.replicate 395 none
  statics := none }

def pool11 : Array CpInfo := pool [(2, .class_ 4), (1, u "java/lang/Object"), (0, u "<init>"), (0, u "()V"), (17, .class_ 26), (1, u "jdk/internal/util/Preconditions"), (6, u "checkIndex"), (21, .class_ 56), (0, u "jdk/internal/util/Preconditions$4"), (57, .class_ 115), (0, u "jdk/internal/util/Preconditions$1"), (7, u "SIOOBE_FORMATTER"), (0, u "Ljava/util/function/BiFunction;"), (0, .class_ 126), (0, u "jdk/internal/util/Preconditions$2"), (3, u "AIOOBE_FORMATTER"), (0, .class_ 132), (0, u "jdk/internal/util/Preconditions$3"), (3, u "IOOBE_FORMATTER"), (41, u "(IILjava/util/function/BiFunction;)I")] 15

def k11m0 : Method := { name := "<init>", desc := "()V", sig := { parameters := [], returnType := none }, accessFlags := 1, code := none }
def k11c1 : Code := { maxStack := 3, maxLocals := 3, code := jdk_41_method_11_code, exceptionTable := #[], attributes := #[] }
def k11m1 : Method := { name := "checkIndex", desc := "(IILjava/util/function/BiFunction;)I", sig := { parameters := [.int, .int, (.object "java/util/function/BiFunction")], returnType := some .int }, accessFlags := 9, code := some k11c1 }
/-- jdk/internal/util/Preconditions -/
def k11 : Class := { plain "jdk/internal/util/Preconditions" (some 0) with
  accessFlags := 33
  interfaces := #[]
  cf := some (fileOf pool11 24 #[.nestMembers #[55, 131, 125, 114]] #[{ accessFlags := 1, nameIndex := 5, descriptorIndex := 6, attributes := #[] }, { accessFlags := 9, nameIndex := 33, descriptorIndex := 178, attributes := #[] }] 33 2 #[] #[{ accessFlags := 25, nameIndex := 123, descriptorIndex := 124, attributes := #[] }, { accessFlags := 25, nameIndex := 130, descriptorIndex := 124, attributes := #[] }, { accessFlags := 25, nameIndex := 136, descriptorIndex := 124, attributes := #[] }])
  fields := #[{ name := "SIOOBE_FORMATTER", type := (.object "java/util/function/BiFunction"), accessFlags := 25, slot := 0, constantValue := 0 }, { name := "AIOOBE_FORMATTER", type := (.object "java/util/function/BiFunction"), accessFlags := 25, slot := 1, constantValue := 0 }, { name := "IOOBE_FORMATTER", type := (.object "java/util/function/BiFunction"), accessFlags := 25, slot := 2, constantValue := 0 }]
  methods := #[k11m0, k11m1]
  instanceTypes := #[]
  staticTypes := #[(.object "java/util/function/BiFunction"), (.object "java/util/function/BiFunction"), (.object "java/util/function/BiFunction")]
  resolved := Array.replicate 194 none
  statics := some 2 }

def pool12 : Array CpInfo := pool [(9, u "<init>"), (6, .class_ 18), (1, u "java/lang/Object"), (0, u "()V"), (1, .class_ 23), (1, u "jdk/internal/util/ArraysSupport"), (0, u "LOG2_ARRAY_LONG_INDEX_SCALE"), (0, u "I"), (2, u "U"), (0, u "Ljdk/internal/misc/Unsafe;"), (8, u "BIG_ENDIAN"), (0, u "Z"), (8, u "LOG2_BYTE_BIT_SIZE"), (4, u "LOG2_ARRAY_INT_INDEX_SCALE"), (54, u "JLA"), (0, u "Ljdk/internal/access/JavaLangAccess;"), (11, u "LOG2_ARRAY_BOOLEAN_INDEX_SCALE"), (9, u "LOG2_ARRAY_BYTE_INDEX_SCALE"), (5, u "LOG2_ARRAY_CHAR_INDEX_SCALE"), (5, u "LOG2_ARRAY_SHORT_INDEX_SCALE"), (18, u "LOG2_ARRAY_FLOAT_INDEX_SCALE"), (24, u "LOG2_ARRAY_DOUBLE_INDEX_SCALE"), (89, u "T_BOOLEAN"), (2, u "T_CHAR"), (1, u "T_FLOAT"), (1, u "T_DOUBLE"), (1, u "T_BYTE"), (1, u "T_SHORT"), (1, u "T_INT"), (1, u "T_LONG"), (1, u "SOFT_MAX_ARRAY_LENGTH")] 83

def k12m0 : Method := { name := "<init>", desc := "()V", sig := { parameters := [], returnType := none }, accessFlags := 2, code := none }
/-- jdk/internal/util/ArraysSupport -/
def k12 : Class := { plain "jdk/internal/util/ArraysSupport" (some 0) with
  accessFlags := 33
  interfaces := #[]
  cf := some (fileOf pool12 21 #[] #[{ accessFlags := 2, nameIndex := 9, descriptorIndex := 19, attributes := #[] }] 33 16 #[] #[{ accessFlags := 24, nameIndex := 28, descriptorIndex := 29, attributes := #[] }, { accessFlags := 26, nameIndex := 38, descriptorIndex := 39, attributes := #[] }, { accessFlags := 25, nameIndex := 121, descriptorIndex := 25, attributes := #[] }, { accessFlags := 25, nameIndex := 131, descriptorIndex := 25, attributes := #[] }, { accessFlags := 25, nameIndex := 137, descriptorIndex := 25, attributes := #[] }, { accessFlags := 25, nameIndex := 143, descriptorIndex := 25, attributes := #[] }, { accessFlags := 25, nameIndex := 53, descriptorIndex := 25, attributes := #[] }, { accessFlags := 25, nameIndex := 24, descriptorIndex := 25, attributes := #[] }, { accessFlags := 25, nameIndex := 162, descriptorIndex := 25, attributes := #[] }, { accessFlags := 25, nameIndex := 187, descriptorIndex := 25, attributes := #[] }, { accessFlags := 26, nameIndex := 48, descriptorIndex := 25, attributes := #[] }, { accessFlags := 25, nameIndex := 277, descriptorIndex := 25, attributes := #[] }, { accessFlags := 25, nameIndex := 280, descriptorIndex := 25, attributes := #[] }, { accessFlags := 25, nameIndex := 282, descriptorIndex := 25, attributes := #[] }, { accessFlags := 25, nameIndex := 284, descriptorIndex := 25, attributes := #[] }, { accessFlags := 25, nameIndex := 286, descriptorIndex := 25, attributes := #[] }, { accessFlags := 25, nameIndex := 288, descriptorIndex := 25, attributes := #[] }, { accessFlags := 25, nameIndex := 290, descriptorIndex := 25, attributes := #[] }, { accessFlags := 25, nameIndex := 292, descriptorIndex := 25, attributes := #[] }, { accessFlags := 26, nameIndex := 108, descriptorIndex := 109, attributes := #[] }, { accessFlags := 25, nameIndex := 294, descriptorIndex := 25, attributes := #[] }])
  fields := #[{ name := "U", type := (.object "jdk/internal/misc/Unsafe"), accessFlags := 24, slot := 0, constantValue := 0 }, { name := "BIG_ENDIAN", type := .boolean, accessFlags := 26, slot := 1, constantValue := 0 }, { name := "LOG2_ARRAY_BOOLEAN_INDEX_SCALE", type := .int, accessFlags := 25, slot := 2, constantValue := 0 }, { name := "LOG2_ARRAY_BYTE_INDEX_SCALE", type := .int, accessFlags := 25, slot := 3, constantValue := 0 }, { name := "LOG2_ARRAY_CHAR_INDEX_SCALE", type := .int, accessFlags := 25, slot := 4, constantValue := 0 }, { name := "LOG2_ARRAY_SHORT_INDEX_SCALE", type := .int, accessFlags := 25, slot := 5, constantValue := 0 }, { name := "LOG2_ARRAY_INT_INDEX_SCALE", type := .int, accessFlags := 25, slot := 6, constantValue := 0 }, { name := "LOG2_ARRAY_LONG_INDEX_SCALE", type := .int, accessFlags := 25, slot := 7, constantValue := 0 }, { name := "LOG2_ARRAY_FLOAT_INDEX_SCALE", type := .int, accessFlags := 25, slot := 8, constantValue := 0 }, { name := "LOG2_ARRAY_DOUBLE_INDEX_SCALE", type := .int, accessFlags := 25, slot := 9, constantValue := 0 }, { name := "LOG2_BYTE_BIT_SIZE", type := .int, accessFlags := 26, slot := 10, constantValue := 0 }, { name := "T_BOOLEAN", type := .int, accessFlags := 25, slot := 11, constantValue := 0 }, { name := "T_CHAR", type := .int, accessFlags := 25, slot := 12, constantValue := 0 }, { name := "T_FLOAT", type := .int, accessFlags := 25, slot := 13, constantValue := 0 }, { name := "T_DOUBLE", type := .int, accessFlags := 25, slot := 14, constantValue := 0 }, { name := "T_BYTE", type := .int, accessFlags := 25, slot := 15, constantValue := 0 }, { name := "T_SHORT", type := .int, accessFlags := 25, slot := 16, constantValue := 0 }, { name := "T_INT", type := .int, accessFlags := 25, slot := 17, constantValue := 0 }, { name := "T_LONG", type := .int, accessFlags := 25, slot := 18, constantValue := 0 }, { name := "JLA", type := (.object "jdk/internal/access/JavaLangAccess"), accessFlags := 26, slot := 19, constantValue := 0 }, { name := "SOFT_MAX_ARRAY_LENGTH", type := .int, accessFlags := 25, slot := 20, constantValue := 0 }]
  methods := #[k12m0]
  instanceTypes := #[]
  staticTypes := #[(.object "jdk/internal/misc/Unsafe"), .boolean, .int, .int, .int, .int, .int, .int, .int, .int, .int, .int, .int, .int, .int, .int, .int, .int, .int, (.object "jdk/internal/access/JavaLangAccess"), .int]
  resolved := Array.replicate 378 none
  statics := none }

def pool13 : Array CpInfo := pool [(1, u "java/lang/Cloneable"), (0, .class_ 1), (0, u "java/lang/Object"), (0, .class_ 3)] 3

/-- java/lang/Cloneable -/
def k13 : Class := { plain "java/lang/Cloneable" (some 0) with
  accessFlags := 1537
  interfaces := #[]
  cf := some (fileOf pool13 2 #[] #[] 1537 4 #[] #[])
  fields := #[]
  methods := #[]
  instanceTypes := #[]
  staticTypes := #[]
  resolved := Array.replicate 8 none
  statics := none }

/-- the primitive byte -/
def k14 : Class := { plain "byte" none with kind := .primitive 'B', accessFlags := 0x411 }
/-- [B -/
def k15 : Class := { plain "[B" (some 0) with kind := .array 14 .byte, interfaces := #[13, 2], accessFlags := 1041 }

/-- the primitive char -/
def k16 : Class := { plain "char" none with kind := .primitive 'C', accessFlags := 0x411 }
/-- [C -/
def k17 : Class := { plain "[C" (some 0) with kind := .array 16 .char, interfaces := #[13, 2], accessFlags := 1041 }

/-- the primitive int -/
def k18 : Class := { plain "int" none with kind := .primitive 'I', accessFlags := 0x411 }
/-- [I -/
def k19 : Class := { plain "[I" (some 0) with kind := .array 18 .int, interfaces := #[13, 2], accessFlags := 1041 }

def heap : Heap := #[{ cls := 7, slots := #[.long 0, .int 1, .null, .int 0, .null, .int 0, .int 0], vm := .statics 7 },
  { cls := 9, slots := #[.int 0, .int 8, .int 0, .int 1], vm := .statics 9 },
  { cls := 11, slots := #[.null, .null, .null], vm := .statics 11 }]
def classes : Array Class := #[k0, k1, k2, k3, k4, k5, k6, k7, k8, k9, k10, k11, k12, k13, k14, k15, k16, k17, k18, k19]
def interned : List (Array UInt16 × Addr) := []
def slotsUsed : Nat := 14
def theMethod : MethodId := ⟨1, 1⟩
def args0 : Array Value := #[.int 5, .int 1, .int 3, .int 4]
def aboutOver (below : List Frame) : State where
  vm := { classes := classes, interned := interned.toArray }
  heap := heap
  slotsUsed := slotsUsed
  threads := #[{ frames := .invoking theMethod args0 :: below }]
def below0 : List Frame := [.native { method := ⟨0, 0⟩, args := #[] }]
def about1 : State := aboutOver below0
def p0 : Program := .bare "" "" ""
def e0 : Env := launch0.env 0 0 0
theorem w_frames : about1.frames = Frame.invoking theMethod args0 :: below0 := rfl
set_option maxRecDepth 65536 in
theorem w_args : argsFit about1.vm theMethod args0 = true := by decide +kernel
set_option maxRecDepth 65536 in
theorem w_heap : heapFits about1 = true := by decide +kernel
set_option maxRecDepth 65536 in
theorem w_runnable : about1.curStatus? = some .runnable := by decide +kernel
set_option maxRecDepth 65536 in
theorem w_alone : about1.alone = true := by decide +kernel
set_option maxRecDepth 65536 in
theorem w_named : about1.methodNamed? x = some theMethod := by decide +kernel
set_option maxRecDepth 65536 in
theorem w_hears : about1.hears theMethod below0 = true := by decide +kernel
set_option maxRecDepth 65536 in
theorem w_ripe : about1.ripe theMethod args0 below0 = true := by decide +kernel
theorem w_running : about1.status = .running := rfl
set_option maxRecDepth 65536 in
theorem w_room : about1.hasRoom e0.platform room_1 = true :=
  launch0.hasRoom_least _ room_1 (by decide +kernel) (by decide +kernel) (by decide +kernel) (by decide +kernel) (by decide +kernel) (by decide +kernel)
theorem allAtoms_all (ts : List Jvm.Cond) (a : Array Jvm.Value) (st : Jvm.State) : (allAtoms ts).before a st = ts.all (fun c => c.before a st) := by
  induction ts with
  | nil => rfl
  | cons c t ih =>
    show (Jvm.Cond.and c (allAtoms t)).before a st = _
    rw [Jvm.Cond.before_and, ih, List.all_cons]
def words1 : List Jvm.Cond := Jvm.Cond.code x code maxLocals ret :: tables_1
/-- a 'code' word, met by the world's own term for the bytes: nothing is compared byte by byte -/
theorem code_word {y : MethodName} {bytes : ByteArray} {mx : Nat} {rt : Option FieldType} {a : Array Value} {s : State} {m : MethodId} {meth : Method} {c : Code} (h1 : s.methodNamed? y = some m) (h2 : s.vm.method? m = some meth) (h3 : meth.code = some c) (h4 : c.code = bytes)
    (h5 : (c.maxLocals == mx && c.exceptionTable.isEmpty && decide (c.maxStack ≤ mostOperands) && decide (meth.sig.returnType = rt) && !meth.locks && decide (parseMethodDescriptor y.desc = some meth.sig)) = true) : (Jvm.Cond.code y bytes mx rt).before a s = true := by
  simp only [Bool.and_eq_true, beq_iff_eq, Bool.not_eq_true', decide_eq_true_eq] at h5
  obtain ⟨⟨⟨⟨⟨g1, g2⟩, g3⟩, g4⟩, g5⟩, g6⟩ := h5
  simp [Cond.before, Cond.holds, Cond.value, h1, h2, h3, h4, g1, g2, g3, g4, g5, g6]
def isCode : Jvm.Cond → Bool
  | .code _ _ _ _ => true
  | _ => false
theorem all_split {L : List Jvm.Cond} {P : Jvm.Cond → Bool} (h1 : L.all (fun c => isCode c || P c) = true) (h2 : ∀ c ∈ L.filter isCode, P c = true) : L.all P = true := by
  refine List.all_eq_true.mpr fun c hc => ?_
  have h := List.all_eq_true.mp h1 c hc
  rcases Bool.eq_false_or_eq_true (isCode c) with hi | hi
  · exact h2 c (List.mem_filter.mpr ⟨hc, hi⟩)
  · simpa [hi] using h
set_option maxRecDepth 65536 in
theorem w_c0 : (Jvm.Cond.code x code maxLocals ret).before args0 about1 = true := code_word (m := ⟨1, 1⟩) (meth := k1m1) (c := k1c1) (by decide +kernel) rfl rfl rfl (by decide +kernel)
set_option maxRecDepth 65536 in
theorem w_c1 : (Jvm.Cond.code ({ cls := "java/lang/String", name := "<init>", desc := "([C)V" } : Jvm.MethodName) jdk_42_method_3_code (2 : Nat) (Option.none : Option Jvm.ClassFile.FieldType)).before args0 about1 = true := code_word (m := ⟨7, 1⟩) (meth := k7m1) (c := k7c1) (by decide +kernel) rfl rfl rfl (by decide +kernel)
set_option maxRecDepth 65536 in
theorem w_c2 : (Jvm.Cond.code ({ cls := "java/lang/String", name := "<init>", desc := "([CIILjava/lang/Void;)V" } : Jvm.MethodName) jdk_42_method_149_code (6 : Nat) (Option.none : Option Jvm.ClassFile.FieldType)).before args0 about1 = true := code_word (m := ⟨7, 4⟩) (meth := k7m4) (c := k7c4) (by decide +kernel) rfl rfl rfl (by decide +kernel)
set_option maxRecDepth 65536 in
theorem w_c3 : (Jvm.Cond.code ({ cls := "java/lang/Object", name := "<init>", desc := "()V" } : Jvm.MethodName) object_method_1_code (1 : Nat) (Option.none : Option Jvm.ClassFile.FieldType)).before args0 about1 = true := code_word (m := ⟨0, 0⟩) (meth := k0m0) (c := k0c0) (by decide +kernel) rfl rfl rfl (by decide +kernel)
set_option maxRecDepth 65536 in
theorem w_c4 : (Jvm.Cond.code ({ cls := "com/example/usher/usher/gateway/http/Http1Input", name := "isFieldValue", desc := "(Ljava/lang/String;)Z" } : Jvm.MethodName) prog_2_method_17_code (3 : Nat) (Option.some Jvm.ClassFile.FieldType.boolean)).before args0 about1 = true := code_word (m := ⟨8, 0⟩) (meth := k8m0) (c := k8c0) (by decide +kernel) rfl rfl rfl (by decide +kernel)
set_option maxRecDepth 65536 in
theorem w_c5 : (Jvm.Cond.code ({ cls := "java/lang/String", name := "length", desc := "()I" } : Jvm.MethodName) jdk_42_method_54_code (1 : Nat) (Option.some Jvm.ClassFile.FieldType.int)).before args0 about1 = true := code_word (m := ⟨7, 2⟩) (meth := k7m2) (c := k7c2) (by decide +kernel) rfl rfl rfl (by decide +kernel)
set_option maxRecDepth 65536 in
theorem w_c6 : (Jvm.Cond.code ({ cls := "java/lang/String", name := "coder", desc := "()B" } : Jvm.MethodName) jdk_42_method_152_code (1 : Nat) (Option.some Jvm.ClassFile.FieldType.byte)).before args0 about1 = true := code_word (m := ⟨7, 5⟩) (meth := k7m5) (c := k7c5) (by decide +kernel) rfl rfl rfl (by decide +kernel)
set_option maxRecDepth 65536 in
theorem w_c7 : (Jvm.Cond.code ({ cls := "java/lang/StringUTF16", name := "compress", desc := "([CII)[B" } : Jvm.MethodName) jdk_52_method_16_code (6 : Nat) (Option.some (Jvm.ClassFile.FieldType.array Jvm.ClassFile.FieldType.byte))).before args0 about1 = true := code_word (m := ⟨9, 8⟩) (meth := k9m8) (c := k9c8) (by decide +kernel) rfl rfl rfl (by decide +kernel)
set_option maxRecDepth 65536 in
theorem w_c8 : (Jvm.Cond.code ({ cls := "java/lang/StringUTF16", name := "compress", desc := "([CI[BII)I" } : Jvm.MethodName) jdk_52_method_21_code (7 : Nat) (Option.some Jvm.ClassFile.FieldType.int)).before args0 about1 = true := code_word (m := ⟨9, 9⟩) (meth := k9m9) (c := k9c9) (by decide +kernel) rfl rfl rfl (by decide +kernel)
set_option maxRecDepth 65536 in
theorem w_c9 : (Jvm.Cond.code ({ cls := "java/lang/StringUTF16", name := "coderFromArrayLen", desc := "([BI)B" } : Jvm.MethodName) jdk_52_method_15_code (2 : Nat) (Option.some Jvm.ClassFile.FieldType.byte)).before args0 about1 = true := code_word (m := ⟨9, 7⟩) (meth := k9m7) (c := k9c7) (by decide +kernel) rfl rfl rfl (by decide +kernel)
set_option maxRecDepth 65536 in
theorem w_c10 : (Jvm.Cond.code ({ cls := "com/example/usher/usher/gateway/http/Http1InputIsFieldValuePinLaw", name := "allowed", desc := "(C)Z" } : Jvm.MethodName) method_3_code (1 : Nat) (Option.some Jvm.ClassFile.FieldType.boolean)).before args0 about1 = true := code_word (m := ⟨1, 2⟩) (meth := k1m2) (c := k1c2) (by decide +kernel) rfl rfl rfl (by decide +kernel)
set_option maxRecDepth 65536 in
theorem w_c11 : (Jvm.Cond.code ({ cls := "java/lang/String", name := "charAt", desc := "(I)C" } : Jvm.MethodName) jdk_42_method_56_code (2 : Nat) (Option.some Jvm.ClassFile.FieldType.char)).before args0 about1 = true := code_word (m := ⟨7, 3⟩) (meth := k7m3) (c := k7c3) (by decide +kernel) rfl rfl rfl (by decide +kernel)
set_option maxRecDepth 65536 in
theorem w_c12 : (Jvm.Cond.code ({ cls := "java/lang/String", name := "isLatin1", desc := "()Z" } : Jvm.MethodName) jdk_42_method_154_code (1 : Nat) (Option.some Jvm.ClassFile.FieldType.boolean)).before args0 about1 = true := code_word (m := ⟨7, 6⟩) (meth := k7m6) (c := k7c6) (by decide +kernel) rfl rfl rfl (by decide +kernel)
set_option maxRecDepth 65536 in
theorem w_c13 : (Jvm.Cond.code ({ cls := "java/lang/StringLatin1", name := "charAt", desc := "([BI)C" } : Jvm.MethodName) jdk_43_method_2_code (2 : Nat) (Option.some Jvm.ClassFile.FieldType.char)).before args0 about1 = true := code_word (m := ⟨10, 1⟩) (meth := k10m1) (c := k10c1) (by decide +kernel) rfl rfl rfl (by decide +kernel)
set_option maxRecDepth 65536 in
theorem w_c14 : (Jvm.Cond.code ({ cls := "java/lang/String", name := "checkIndex", desc := "(II)V" } : Jvm.MethodName) jdk_42_method_155_code (2 : Nat) (Option.none : Option Jvm.ClassFile.FieldType)).before args0 about1 = true := code_word (m := ⟨7, 7⟩) (meth := k7m7) (c := k7c7) (by decide +kernel) rfl rfl rfl (by decide +kernel)
set_option maxRecDepth 65536 in
theorem w_c15 : (Jvm.Cond.code ({ cls := "jdk/internal/util/Preconditions", name := "checkIndex", desc := "(IILjava/util/function/BiFunction;)I" } : Jvm.MethodName) jdk_41_method_11_code (3 : Nat) (Option.some Jvm.ClassFile.FieldType.int)).before args0 about1 = true := code_word (m := ⟨11, 1⟩) (meth := k11m1) (c := k11c1) (by decide +kernel) rfl rfl rfl (by decide +kernel)
set_option maxRecDepth 65536 in
theorem w_c16 : (Jvm.Cond.code ({ cls := "java/lang/StringUTF16", name := "toBytes", desc := "([CII)[B" } : Jvm.MethodName) jdk_52_method_14_code (5 : Nat) (Option.some (Jvm.ClassFile.FieldType.array Jvm.ClassFile.FieldType.byte))).before args0 about1 = true := code_word (m := ⟨9, 6⟩) (meth := k9m6) (c := k9c6) (by decide +kernel) rfl rfl rfl (by decide +kernel)
set_option maxRecDepth 65536 in
theorem w_c17 : (Jvm.Cond.code ({ cls := "java/lang/StringUTF16", name := "newBytesFor", desc := "(I)[B" } : Jvm.MethodName) jdk_52_method_2_code (1 : Nat) (Option.some (Jvm.ClassFile.FieldType.array Jvm.ClassFile.FieldType.byte))).before args0 about1 = true := code_word (m := ⟨9, 1⟩) (meth := k9m1) (c := k9c1) (by decide +kernel) rfl rfl rfl (by decide +kernel)
set_option maxRecDepth 65536 in
theorem w_c18 : (Jvm.Cond.code ({ cls := "java/lang/StringUTF16", name := "newBytesLength", desc := "(I)I" } : Jvm.MethodName) jdk_52_method_3_code (1 : Nat) (Option.some Jvm.ClassFile.FieldType.int)).before args0 about1 = true := code_word (m := ⟨9, 2⟩) (meth := k9m2) (c := k9c2) (by decide +kernel) rfl rfl rfl (by decide +kernel)
set_option maxRecDepth 65536 in
theorem w_c19 : (Jvm.Cond.code ({ cls := "java/lang/StringUTF16", name := "putChar", desc := "([BII)V" } : Jvm.MethodName) jdk_52_method_4_code (3 : Nat) (Option.none : Option Jvm.ClassFile.FieldType)).before args0 about1 = true := code_word (m := ⟨9, 3⟩) (meth := k9m3) (c := k9c3) (by decide +kernel) rfl rfl rfl (by decide +kernel)
set_option maxRecDepth 65536 in
theorem w_c20 : (Jvm.Cond.code ({ cls := "java/lang/StringUTF16", name := "getChar", desc := "([BI)C" } : Jvm.MethodName) jdk_52_method_5_code (2 : Nat) (Option.some Jvm.ClassFile.FieldType.char)).before args0 about1 = true := code_word (m := ⟨9, 4⟩) (meth := k9m4) (c := k9c4) (by decide +kernel) rfl rfl rfl (by decide +kernel)
set_option maxRecDepth 65536 in
theorem w_c21 : (Jvm.Cond.code ({ cls := "java/lang/StringUTF16", name := "charAt", desc := "([BI)C" } : Jvm.MethodName) jdk_52_method_83_code (2 : Nat) (Option.some Jvm.ClassFile.FieldType.char)).before args0 about1 = true := code_word (m := ⟨9, 10⟩) (meth := k9m10) (c := k9c10) (by decide +kernel) rfl rfl rfl (by decide +kernel)
set_option maxRecDepth 65536 in
theorem w_c22 : (Jvm.Cond.code ({ cls := "java/lang/StringUTF16", name := "checkIndex", desc := "(I[B)V" } : Jvm.MethodName) jdk_52_method_91_code (2 : Nat) (Option.none : Option Jvm.ClassFile.FieldType)).before args0 about1 = true := code_word (m := ⟨9, 11⟩) (meth := k9m11) (c := k9c11) (by decide +kernel) rfl rfl rfl (by decide +kernel)
set_option maxRecDepth 65536 in
theorem w_c23 : (Jvm.Cond.code ({ cls := "java/lang/StringUTF16", name := "length", desc := "([B)I" } : Jvm.MethodName) jdk_52_method_6_code (1 : Nat) (Option.some Jvm.ClassFile.FieldType.int)).before args0 about1 = true := code_word (m := ⟨9, 5⟩) (meth := k9m5) (c := k9c5) (by decide +kernel) rfl rfl rfl (by decide +kernel)
def codes1 : List Jvm.Cond := [Jvm.Cond.code x code maxLocals ret, Jvm.Cond.code ({ cls := "java/lang/String", name := "<init>", desc := "([C)V" } : Jvm.MethodName) jdk_42_method_3_code (2 : Nat) (Option.none : Option Jvm.ClassFile.FieldType), Jvm.Cond.code ({ cls := "java/lang/String", name := "<init>", desc := "([CIILjava/lang/Void;)V" } : Jvm.MethodName) jdk_42_method_149_code (6 : Nat) (Option.none : Option Jvm.ClassFile.FieldType), Jvm.Cond.code ({ cls := "java/lang/Object", name := "<init>", desc := "()V" } : Jvm.MethodName) object_method_1_code (1 : Nat) (Option.none : Option Jvm.ClassFile.FieldType), Jvm.Cond.code ({ cls := "com/example/usher/usher/gateway/http/Http1Input", name := "isFieldValue", desc := "(Ljava/lang/String;)Z" } : Jvm.MethodName) prog_2_method_17_code (3 : Nat) (Option.some Jvm.ClassFile.FieldType.boolean), Jvm.Cond.code ({ cls := "java/lang/String", name := "length", desc := "()I" } : Jvm.MethodName) jdk_42_method_54_code (1 : Nat) (Option.some Jvm.ClassFile.FieldType.int), Jvm.Cond.code ({ cls := "java/lang/String", name := "coder", desc := "()B" } : Jvm.MethodName) jdk_42_method_152_code (1 : Nat) (Option.some Jvm.ClassFile.FieldType.byte), Jvm.Cond.code ({ cls := "java/lang/StringUTF16", name := "compress", desc := "([CII)[B" } : Jvm.MethodName) jdk_52_method_16_code (6 : Nat) (Option.some (Jvm.ClassFile.FieldType.array Jvm.ClassFile.FieldType.byte)), Jvm.Cond.code ({ cls := "java/lang/StringUTF16", name := "compress", desc := "([CI[BII)I" } : Jvm.MethodName) jdk_52_method_21_code (7 : Nat) (Option.some Jvm.ClassFile.FieldType.int), Jvm.Cond.code ({ cls := "java/lang/StringUTF16", name := "coderFromArrayLen", desc := "([BI)B" } : Jvm.MethodName) jdk_52_method_15_code (2 : Nat) (Option.some Jvm.ClassFile.FieldType.byte), Jvm.Cond.code ({ cls := "com/example/usher/usher/gateway/http/Http1InputIsFieldValuePinLaw", name := "allowed", desc := "(C)Z" } : Jvm.MethodName) method_3_code (1 : Nat) (Option.some Jvm.ClassFile.FieldType.boolean), Jvm.Cond.code ({ cls := "java/lang/String", name := "charAt", desc := "(I)C" } : Jvm.MethodName) jdk_42_method_56_code (2 : Nat) (Option.some Jvm.ClassFile.FieldType.char), Jvm.Cond.code ({ cls := "java/lang/String", name := "isLatin1", desc := "()Z" } : Jvm.MethodName) jdk_42_method_154_code (1 : Nat) (Option.some Jvm.ClassFile.FieldType.boolean), Jvm.Cond.code ({ cls := "java/lang/StringLatin1", name := "charAt", desc := "([BI)C" } : Jvm.MethodName) jdk_43_method_2_code (2 : Nat) (Option.some Jvm.ClassFile.FieldType.char), Jvm.Cond.code ({ cls := "java/lang/String", name := "checkIndex", desc := "(II)V" } : Jvm.MethodName) jdk_42_method_155_code (2 : Nat) (Option.none : Option Jvm.ClassFile.FieldType), Jvm.Cond.code ({ cls := "jdk/internal/util/Preconditions", name := "checkIndex", desc := "(IILjava/util/function/BiFunction;)I" } : Jvm.MethodName) jdk_41_method_11_code (3 : Nat) (Option.some Jvm.ClassFile.FieldType.int), Jvm.Cond.code ({ cls := "java/lang/StringUTF16", name := "toBytes", desc := "([CII)[B" } : Jvm.MethodName) jdk_52_method_14_code (5 : Nat) (Option.some (Jvm.ClassFile.FieldType.array Jvm.ClassFile.FieldType.byte)), Jvm.Cond.code ({ cls := "java/lang/StringUTF16", name := "newBytesFor", desc := "(I)[B" } : Jvm.MethodName) jdk_52_method_2_code (1 : Nat) (Option.some (Jvm.ClassFile.FieldType.array Jvm.ClassFile.FieldType.byte)), Jvm.Cond.code ({ cls := "java/lang/StringUTF16", name := "newBytesLength", desc := "(I)I" } : Jvm.MethodName) jdk_52_method_3_code (1 : Nat) (Option.some Jvm.ClassFile.FieldType.int), Jvm.Cond.code ({ cls := "java/lang/StringUTF16", name := "putChar", desc := "([BII)V" } : Jvm.MethodName) jdk_52_method_4_code (3 : Nat) (Option.none : Option Jvm.ClassFile.FieldType), Jvm.Cond.code ({ cls := "java/lang/StringUTF16", name := "getChar", desc := "([BI)C" } : Jvm.MethodName) jdk_52_method_5_code (2 : Nat) (Option.some Jvm.ClassFile.FieldType.char), Jvm.Cond.code ({ cls := "java/lang/StringUTF16", name := "charAt", desc := "([BI)C" } : Jvm.MethodName) jdk_52_method_83_code (2 : Nat) (Option.some Jvm.ClassFile.FieldType.char), Jvm.Cond.code ({ cls := "java/lang/StringUTF16", name := "checkIndex", desc := "(I[B)V" } : Jvm.MethodName) jdk_52_method_91_code (2 : Nat) (Option.none : Option Jvm.ClassFile.FieldType), Jvm.Cond.code ({ cls := "java/lang/StringUTF16", name := "length", desc := "([B)I" } : Jvm.MethodName) jdk_52_method_6_code (1 : Nat) (Option.some Jvm.ClassFile.FieldType.int)]
set_option maxRecDepth 65536 in
theorem codes_eq : words1.filter isCode = codes1 := rfl
theorem w_codes : ∀ c ∈ words1.filter isCode, c.before args0 about1 = true := by
  rw [codes_eq]
  intro c hc
  simp only [codes1, List.mem_cons, List.not_mem_nil, or_false] at hc
  rcases hc with rfl | rfl | rfl | rfl | rfl | rfl | rfl | rfl | rfl | rfl | rfl | rfl | rfl | rfl | rfl | rfl | rfl | rfl | rfl | rfl | rfl | rfl | rfl | rfl
  · exact w_c0
  · exact w_c1
  · exact w_c2
  · exact w_c3
  · exact w_c4
  · exact w_c5
  · exact w_c6
  · exact w_c7
  · exact w_c8
  · exact w_c9
  · exact w_c10
  · exact w_c11
  · exact w_c12
  · exact w_c13
  · exact w_c14
  · exact w_c15
  · exact w_c16
  · exact w_c17
  · exact w_c18
  · exact w_c19
  · exact w_c20
  · exact w_c21
  · exact w_c22
  · exact w_c23
set_option maxRecDepth 65536 in
theorem w_t1 : (words1.take 24).all (fun c => isCode c || c.before args0 about1) = true := by decide +kernel
set_option maxRecDepth 65536 in
theorem w_t2 : ((words1.drop 24).take 24).all (fun c => isCode c || c.before args0 about1) = true := by decide +kernel
set_option maxRecDepth 65536 in
theorem w_t3 : (((words1.drop 24).drop 24).take 24).all (fun c => isCode c || c.before args0 about1) = true := by decide +kernel
set_option maxRecDepth 65536 in
theorem w_t4 : ((((words1.drop 24).drop 24).drop 24).take 24).all (fun c => isCode c || c.before args0 about1) = true := by decide +kernel
set_option maxRecDepth 65536 in
theorem w_t5 : ((((words1.drop 24).drop 24).drop 24).drop 24).all (fun c => isCode c || c.before args0 about1) = true := by decide +kernel
theorem w_tables : (allAtoms (Jvm.Cond.code x code maxLocals ret :: tables_1)).before args0 about1 = true := by
  rw [allAtoms_all]
  show words1.all (fun c => c.before args0 about1) = true
  refine all_split ?_ w_codes
  rw [← List.take_append_drop 24 words1, List.all_append, w_t1, ← List.take_append_drop 24 (words1.drop 24), List.all_append, w_t2, ← List.take_append_drop 24 ((words1.drop 24).drop 24), List.all_append, w_t3, ← List.take_append_drop 24 (((words1.drop 24).drop 24).drop 24), List.all_append, w_t4, w_t5]
  rfl
set_option maxRecDepth 65536 in
theorem w_rest : rest_1_c.before args0 about1 = true := by decide +kernel
set_option maxRecDepth 65536 in
theorem w_case : (Jvm.Cond.and given_1 narrow_1).before args0 about1 = true := by decide +kernel
set_option maxRecDepth 65536 in
theorem w_consts : constsHeld consts_1 about1 := Jvm.Lit.constsHeldB_iff.mp (by decide +kernel)
theorem w_applies : (headSpec (Jvm.Cond.code x code maxLocals ret :: tables_1) room_1).applies x e0.platform about1 = true :=
  (Spec.applies_iff w_frames).mpr ⟨w_running, w_runnable, w_alone, w_named, w_hears, w_ripe, w_room, w_tables⟩
theorem atStart : AtStart classFile x code maxLocals ret World_1 tables_1 room_1 Calls_1 rest_1 Pre_1 launch0 p0 e0 about1 theMethod args0 below0 :=
  ⟨lists_1, trivial, launch0.admits_env _ _ _, launch0.least_env, fairChoices_fair.cas, fairChoices_fair.clock, w_frames, w_args, w_heap, w_applies, ⟨w_consts, trivial⟩, w_rest, w_case⟩
end start1
theorem witness_1 : WitnessClaimed_1 := ⟨start1.p0, start1.e0, start1.about1, start1.theMethod, start1.args0, start1.below0, start1.atStart⟩
end Jvm.Pilot.@@N@@
