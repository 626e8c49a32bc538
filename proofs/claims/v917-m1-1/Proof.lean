import JvmDerived
import JvmDerived.Pilot.@@N@@Statement
import JvmDerived.Pilot.@@N@@Code
set_option linter.unusedVariables false
set_option linter.unusedSimpArgs false

namespace Jvm.Own
open Sem ClassFile Op Lib Jvm.Stand Jvm.Free Jvm.LawKit Jvm.RoadKit
def Go (p : Program) (e : Env) (below : List Frame) (G : State → Outcome → Prop) (σ : State) : Prop := ∃ s₂ o, Steps p.tables e below σ s₂ ∧ s₂.status = .running ∧ Ended s₂ below o ∧ G s₂ o
theorem Go.step {p : Program} {e : Env} {below : List Frame} {G : State → Outcome → Prop} {σ σ' : State} (h : ∀ t, Steps p.tables e below σ' t → Steps p.tables e below σ t) (k : Go p e below G σ') : Go p e below G σ := by
  obtain ⟨s₂, o, h1, h2⟩ := k
  exact ⟨s₂, o, h _ h1, h2⟩
def RetG (s : State) (Q : Option Value → Heap → List Loc → Prop) (cells slots : Nat) (s₂ : State) (o : Outcome) : Prop := ∃ v L, o = .returned v ∧ Q v s₂.heap L ∧ FrameEnd s o s₂ L cells slots
section
variable {p : Program} {l : Launch} {e : Env} {R : Room} {s : State} {m : MethodId} {args : Array Value} {below : List Frame} {meth : Method} {c : Code} {T : State} {locs : List Loc} {k n : Nat} {G : State → Outcome → Prop} {code : ByteArray} {pc : Nat} {Ls : Array Slot} {st : List Value} {Z : State} {a0 : Array Value} {h : Heap} {n0 : Nat}
theorem Go.leave (X : Stand p l e R s m args below meth c T locs k n) {v : Option Value} (hv : meth.sig.returnType = none → v = none) (hlocks : meth.locks = false) {Q : Option Value → Heap → List Loc → Prop} {cells slots : Nat} {σ : State} (eT : T.heap = h) (hq : Q v h locs) (hk : k ≤ cells) (hn : n ≤ slots)
    (st : ∀ fs, (∀ (f : JFrame) (acts : List Action), f.method = m → f.locked = none → f.entered = [] → (doReturn e (T.setTop f) acts v).1 = T.setFrames fs) → Steps p.tables e below σ (T.setFrames fs)) : Go p e below (RetG s Q cells slots) σ := by
  obtain ⟨fs, hr, hrun, hended, hW, hsame⟩ := X.leave (v := v) hv hlocks
  subst eT
  exact ⟨_, _, st fs hr, hrun, hended, _, _, rfl, hq, ⟨_, rfl⟩, hW, hsame.mono hk hn⟩
/-- null or some object -/
def Rf (v : Value) : Prop := v = .null ∨ ∃ a, v = .ref a
theorem Rf.is {v : Value} (r : Rf v) : v.isRef = true := by rcases r with rfl | ⟨a, rfl⟩ <;> rfl
theorem Rf.cat {v : Value} (r : Rf v) : v.category = 1 := by rcases r with rfl | ⟨a, rfl⟩ <;> rfl
theorem Rf.nar {v : Value} (r : Rf v) {c : String} : narrow (.object c) v = v := by rcases r with rfl | ⟨a, rfl⟩ <;> rfl
theorem Rf.fit {v : Value} (r : Rf v) {c : String} : fits (.object c) v = true := by rcases r with rfl | ⟨a, rfl⟩ <;> rfl
theorem Rf.store {v : Value} (r : Rf v) {ls ls' : Array Slot} {i : Nat} {o : Slot} (hold : ls[i]? = some o) (ho : One o) (hl : ls.setIfInBounds i (.val v) = ls') : storeLocals ls i v = some ls' := by rw [XS.store1 hold ho r.cat, hl]
theorem Rf.of {v : Value} (h : v.isRef = true) : Rf v := ref_cases h
theorem selOf {U : State} {as : Array Value} {y : MethodName} {n : Nat} (wi : (Cond.instantiable y.cls n).before as U = true) (wp : (Cond.privateMethod y).before #[] U = true) (wm : (Cond.instanceMethod y).before as U = true) (hy : y.cls ≠ "java/lang/invoke/MethodHandle" ∧ y.cls ≠ "java/lang/invoke/VarHandle") : (Cond.selects y.cls y y).before as U = true := by
  obtain ⟨c, k, h1, h2, -, h4, -⟩ := Cond.instantiable_spec wi
  exact selects_self_of_private h1 h2 (Bool.or_eq_false_iff.mp h4).1 (Cond.privateMethod_at wp) wm hy
theorem g_iload (X : Stand p l e R s m args below meth c T locs k n) (hx : p.tables.exec = Jvm.exec) (hby : c.code = code) {j : Nat} {v : Int32} (hd : decode code pc = .ok (.iload j, 2)) (hl : Ls[j]? = some (.val (.int v))) (K : Go p e below G (T.setTop (mkF m (pc + 2) Ls (.int v :: st)))) : Go p e below G (T.setTop (mkF m pc Ls st)) := Go.step (fun t q => XS.iload X.here hx rfl (hb hby hd) hl q) K
theorem g_iloadN (X : Stand p l e R s m args below meth c T locs k n) (hx : p.tables.exec = Jvm.exec) (hby : c.code = code) {j : Fin 4} {v : Int32} (hd : decode code pc = .ok (.iload_n j, 1)) (hl : Ls[j.val]? = some (.val (.int v))) (K : Go p e below G (T.setTop (mkF m (pc + 1) Ls (.int v :: st)))) : Go p e below G (T.setTop (mkF m pc Ls st)) := Go.step (fun t q => XS.iloadN X.here hx rfl (hb hby hd) hl q) K
theorem g_lload (X : Stand p l e R s m args below meth c T locs k n) (hx : p.tables.exec = Jvm.exec) (hby : c.code = code) {j : Nat} {v : Int64} (hd : decode code pc = .ok (.lload j, 2)) (hl : Ls[j]? = some (.val (.long v))) (K : Go p e below G (T.setTop (mkF m (pc + 2) Ls (.long v :: st)))) : Go p e below G (T.setTop (mkF m pc Ls st)) := Go.step (fun t q => XS.lload X.here hx rfl (hb hby hd) hl q) K
theorem g_lloadN (X : Stand p l e R s m args below meth c T locs k n) (hx : p.tables.exec = Jvm.exec) (hby : c.code = code) {j : Fin 4} {v : Int64} (hd : decode code pc = .ok (.lload_n j, 1)) (hl : Ls[j.val]? = some (.val (.long v))) (K : Go p e below G (T.setTop (mkF m (pc + 1) Ls (.long v :: st)))) : Go p e below G (T.setTop (mkF m pc Ls st)) := Go.step (fun t q => XS.lloadN X.here hx rfl (hb hby hd) hl q) K
theorem g_aload (X : Stand p l e R s m args below meth c T locs k n) (hx : p.tables.exec = Jvm.exec) (hby : c.code = code) {j : Nat} {v : Value} (hd : decode code pc = .ok (.aload j, 2)) (hl : Ls[j]? = some (.val v)) (hv : v.isRef = true) (K : Go p e below G (T.setTop (mkF m (pc + 2) Ls (v :: st)))) : Go p e below G (T.setTop (mkF m pc Ls st)) := Go.step (fun t q => XS.aload X.here hx rfl (hb hby hd) hl hv q) K
theorem g_aloadN (X : Stand p l e R s m args below meth c T locs k n) (hx : p.tables.exec = Jvm.exec) (hby : c.code = code) {j : Fin 4} {v : Value} (hd : decode code pc = .ok (.aload_n j, 1)) (hl : Ls[j.val]? = some (.val v)) (hv : v.isRef = true) (K : Go p e below G (T.setTop (mkF m (pc + 1) Ls (v :: st)))) : Go p e below G (T.setTop (mkF m pc Ls st)) := Go.step (fun t q => XS.aloadN X.here hx rfl (hb hby hd) hl hv q) K
theorem g_istore (X : Stand p l e R s m args below meth c T locs k n) (hx : p.tables.exec = Jvm.exec) (hby : c.code = code) {j : Nat} {x : Int32} {rest : List Value} {l' : Array Slot} (hd : decode code pc = .ok (.istore j, 2)) (hl : storeLocals Ls j (.int x) = some l') (K : Go p e below G (T.setTop (mkF m (pc + 2) l' rest))) : Go p e below G (T.setTop (mkF m pc Ls (.int x :: rest))) := Go.step (fun t q => XS.istore X.here hx rfl (hb hby hd) rfl hl q) K
theorem g_istoreN (X : Stand p l e R s m args below meth c T locs k n) (hx : p.tables.exec = Jvm.exec) (hby : c.code = code) {j : Fin 4} {x : Int32} {rest : List Value} {l' : Array Slot} (hd : decode code pc = .ok (.istore_n j, 1)) (hl : storeLocals Ls j.val (.int x) = some l') (K : Go p e below G (T.setTop (mkF m (pc + 1) l' rest))) : Go p e below G (T.setTop (mkF m pc Ls (.int x :: rest))) := Go.step (fun t q => XS.istoreN X.here hx rfl (hb hby hd) rfl hl q) K
theorem g_lstore (X : Stand p l e R s m args below meth c T locs k n) (hx : p.tables.exec = Jvm.exec) (hby : c.code = code) {j : Nat} {x : Int64} {rest : List Value} {l' : Array Slot} (hd : decode code pc = .ok (.lstore j, 2)) (hl : storeLocals Ls j (.long x) = some l') (K : Go p e below G (T.setTop (mkF m (pc + 2) l' rest))) : Go p e below G (T.setTop (mkF m pc Ls (.long x :: rest))) := Go.step (fun t q => XS.lstore X.here hx rfl (hb hby hd) rfl hl q) K
theorem g_lstoreN (X : Stand p l e R s m args below meth c T locs k n) (hx : p.tables.exec = Jvm.exec) (hby : c.code = code) {j : Fin 4} {x : Int64} {rest : List Value} {l' : Array Slot} (hd : decode code pc = .ok (.lstore_n j, 1)) (hl : storeLocals Ls j.val (.long x) = some l') (K : Go p e below G (T.setTop (mkF m (pc + 1) l' rest))) : Go p e below G (T.setTop (mkF m pc Ls (.long x :: rest))) := Go.step (fun t q => XS.lstoreN X.here hx rfl (hb hby hd) rfl hl q) K
theorem g_astore (X : Stand p l e R s m args below meth c T locs k n) (hx : p.tables.exec = Jvm.exec) (hby : c.code = code) {j : Nat} {x : Value} {rest : List Value} {l' : Array Slot} (hd : decode code pc = .ok (.astore j, 2)) (hv : x.isRef = true) (hl : storeLocals Ls j x = some l') (K : Go p e below G (T.setTop (mkF m (pc + 2) l' rest))) : Go p e below G (T.setTop (mkF m pc Ls (x :: rest))) := Go.step (fun t q => XS.astore X.here hx rfl (hb hby hd) rfl hv hl q) K
theorem g_astoreN (X : Stand p l e R s m args below meth c T locs k n) (hx : p.tables.exec = Jvm.exec) (hby : c.code = code) {j : Fin 4} {x : Value} {rest : List Value} {l' : Array Slot} (hd : decode code pc = .ok (.astore_n j, 1)) (hv : x.isRef = true) (hl : storeLocals Ls j.val x = some l') (K : Go p e below G (T.setTop (mkF m (pc + 1) l' rest))) : Go p e below G (T.setTop (mkF m pc Ls (x :: rest))) := Go.step (fun t q => XS.astoreN X.here hx rfl (hb hby hd) rfl hv hl q) K
theorem g_iconst (X : Stand p l e R s m args below meth c T locs k n) (hx : p.tables.exec = Jvm.exec) (hby : c.code = code) {i : Int} (v : Int32) (hd : decode code pc = .ok (.iconst i, 1)) (hv : Int32.ofInt i = v) (K : Go p e below G (T.setTop (mkF m (pc + 1) Ls (.int v :: st)))) : Go p e below G (T.setTop (mkF m pc Ls st)) := Go.step (fun t q => XS.iconst X.here hx rfl (hb hby hd) (by rw [hv]; exact q)) K
theorem g_bipush (X : Stand p l e R s m args below meth c T locs k n) (hx : p.tables.exec = Jvm.exec) (hby : c.code = code) {i : Int} (v : Int32) (hd : decode code pc = .ok (.bipush i, 2)) (hv : (Int8.ofInt i).toInt32 = v) (K : Go p e below G (T.setTop (mkF m (pc + 2) Ls (.int v :: st)))) : Go p e below G (T.setTop (mkF m pc Ls st)) := Go.step (fun t q => XS.bipush X.here hx rfl (hb hby hd) (by rw [hv]; exact q)) K
theorem g_sipush (X : Stand p l e R s m args below meth c T locs k n) (hx : p.tables.exec = Jvm.exec) (hby : c.code = code) {i : Int} (v : Int32) (hd : decode code pc = .ok (.sipush i, 3)) (hv : (Int16.ofInt i).toInt32 = v) (K : Go p e below G (T.setTop (mkF m (pc + 3) Ls (.int v :: st)))) : Go p e below G (T.setTop (mkF m pc Ls st)) := Go.step (fun t q => XS.sipush X.here hx rfl (hb hby hd) (by rw [hv]; exact q)) K
theorem g_lconst (X : Stand p l e R s m args below meth c T locs k n) (hx : p.tables.exec = Jvm.exec) (hby : c.code = code) {j : Fin 2} (v : Int64) (hd : decode code pc = .ok (.lconst j, 1)) (hv : Int64.ofNat j = v) (K : Go p e below G (T.setTop (mkF m (pc + 1) Ls (.long v :: st)))) : Go p e below G (T.setTop (mkF m pc Ls st)) := Go.step (fun t q => XS.lconst X.here hx rfl (hb hby hd) (by rw [hv]; exact q)) K
theorem g_topI {x : Int32} (y : Int32) (q : x = y) {rest : List Value} (K : Go p e below G (T.setTop (mkF m pc Ls (.int y :: rest)))) : Go p e below G (T.setTop (mkF m pc Ls (.int x :: rest))) := q ▸ K
theorem g_topJ {x : Int64} (y : Int64) (q : x = y) {rest : List Value} (K : Go p e below G (T.setTop (mkF m pc Ls (.long y :: rest)))) : Go p e below G (T.setTop (mkF m pc Ls (.long x :: rest))) := q ▸ K
theorem g_at {ls ls' : Array Slot} {st' : List Value} (pc' : Nat) (h1 : pc = pc') (h2 : ls = ls') (h3 : st = st') (K : Go p e below G (T.setTop (mkF m pc' ls' st'))) : Go p e below G (T.setTop (mkF m pc ls st)) := h1 ▸ h2 ▸ h3 ▸ K
theorem g_aconst_null (X : Stand p l e R s m args below meth c T locs k n) (hx : p.tables.exec = Jvm.exec) (hby : c.code = code)  (hd : decode code pc = .ok (.aconst_null, 1)) (K : Go p e below G (T.setTop (mkF m (pc + 1) Ls (.null :: st)))) : Go p e below G (T.setTop (mkF m pc Ls st)) := Go.step (fun t q => XS.aconstNull X.here hx rfl (hb hby hd)  q) K
theorem g_iadd (X : Stand p l e R s m args below meth c T locs k n) (hx : p.tables.exec = Jvm.exec) (hby : c.code = code) {x y : Int32} {rest : List Value} (hd : decode code pc = .ok (.iadd, 1)) (K : Go p e below G (T.setTop (mkF m (pc + 1) Ls (.int (x + y) :: rest)))) : Go p e below G (T.setTop (mkF m pc Ls (.int y :: .int x :: rest))) := Go.step (fun t q => XS.iadd X.here hx rfl (hb hby hd) rfl q) K
theorem g_ladd (X : Stand p l e R s m args below meth c T locs k n) (hx : p.tables.exec = Jvm.exec) (hby : c.code = code) {x y : Int64} {rest : List Value} (hd : decode code pc = .ok (.ladd, 1)) (K : Go p e below G (T.setTop (mkF m (pc + 1) Ls (.long (x + y) :: rest)))) : Go p e below G (T.setTop (mkF m pc Ls (.long y :: .long x :: rest))) := Go.step (fun t q => XS.ladd X.here hx rfl (hb hby hd) rfl q) K
theorem g_isub (X : Stand p l e R s m args below meth c T locs k n) (hx : p.tables.exec = Jvm.exec) (hby : c.code = code) {x y : Int32} {rest : List Value} (hd : decode code pc = .ok (.isub, 1)) (K : Go p e below G (T.setTop (mkF m (pc + 1) Ls (.int (x - y) :: rest)))) : Go p e below G (T.setTop (mkF m pc Ls (.int y :: .int x :: rest))) := Go.step (fun t q => XS.isub X.here hx rfl (hb hby hd) rfl q) K
theorem g_lsub (X : Stand p l e R s m args below meth c T locs k n) (hx : p.tables.exec = Jvm.exec) (hby : c.code = code) {x y : Int64} {rest : List Value} (hd : decode code pc = .ok (.lsub, 1)) (K : Go p e below G (T.setTop (mkF m (pc + 1) Ls (.long (x - y) :: rest)))) : Go p e below G (T.setTop (mkF m pc Ls (.long y :: .long x :: rest))) := Go.step (fun t q => XS.lsub X.here hx rfl (hb hby hd) rfl q) K
theorem g_imul (X : Stand p l e R s m args below meth c T locs k n) (hx : p.tables.exec = Jvm.exec) (hby : c.code = code) {x y : Int32} {rest : List Value} (hd : decode code pc = .ok (.imul, 1)) (K : Go p e below G (T.setTop (mkF m (pc + 1) Ls (.int (x * y) :: rest)))) : Go p e below G (T.setTop (mkF m pc Ls (.int y :: .int x :: rest))) := Go.step (fun t q => XS.imul X.here hx rfl (hb hby hd) rfl q) K
theorem g_lmul (X : Stand p l e R s m args below meth c T locs k n) (hx : p.tables.exec = Jvm.exec) (hby : c.code = code) {x y : Int64} {rest : List Value} (hd : decode code pc = .ok (.lmul, 1)) (K : Go p e below G (T.setTop (mkF m (pc + 1) Ls (.long (x * y) :: rest)))) : Go p e below G (T.setTop (mkF m pc Ls (.long y :: .long x :: rest))) := Go.step (fun t q => XS.lmul X.here hx rfl (hb hby hd) rfl q) K
theorem g_iand (X : Stand p l e R s m args below meth c T locs k n) (hx : p.tables.exec = Jvm.exec) (hby : c.code = code) {x y : Int32} {rest : List Value} (hd : decode code pc = .ok (.iand, 1)) (K : Go p e below G (T.setTop (mkF m (pc + 1) Ls (.int (x &&& y) :: rest)))) : Go p e below G (T.setTop (mkF m pc Ls (.int y :: .int x :: rest))) := Go.step (fun t q => XS.iand X.here hx rfl (hb hby hd) rfl q) K
theorem g_land (X : Stand p l e R s m args below meth c T locs k n) (hx : p.tables.exec = Jvm.exec) (hby : c.code = code) {x y : Int64} {rest : List Value} (hd : decode code pc = .ok (.land, 1)) (K : Go p e below G (T.setTop (mkF m (pc + 1) Ls (.long (x &&& y) :: rest)))) : Go p e below G (T.setTop (mkF m pc Ls (.long y :: .long x :: rest))) := Go.step (fun t q => XS.land X.here hx rfl (hb hby hd) rfl q) K
theorem g_ior (X : Stand p l e R s m args below meth c T locs k n) (hx : p.tables.exec = Jvm.exec) (hby : c.code = code) {x y : Int32} {rest : List Value} (hd : decode code pc = .ok (.ior, 1)) (K : Go p e below G (T.setTop (mkF m (pc + 1) Ls (.int (x ||| y) :: rest)))) : Go p e below G (T.setTop (mkF m pc Ls (.int y :: .int x :: rest))) := Go.step (fun t q => XS.ior X.here hx rfl (hb hby hd) rfl q) K
theorem g_lor (X : Stand p l e R s m args below meth c T locs k n) (hx : p.tables.exec = Jvm.exec) (hby : c.code = code) {x y : Int64} {rest : List Value} (hd : decode code pc = .ok (.lor, 1)) (K : Go p e below G (T.setTop (mkF m (pc + 1) Ls (.long (x ||| y) :: rest)))) : Go p e below G (T.setTop (mkF m pc Ls (.long y :: .long x :: rest))) := Go.step (fun t q => XS.lor X.here hx rfl (hb hby hd) rfl q) K
theorem g_ixor (X : Stand p l e R s m args below meth c T locs k n) (hx : p.tables.exec = Jvm.exec) (hby : c.code = code) {x y : Int32} {rest : List Value} (hd : decode code pc = .ok (.ixor, 1)) (K : Go p e below G (T.setTop (mkF m (pc + 1) Ls (.int (x ^^^ y) :: rest)))) : Go p e below G (T.setTop (mkF m pc Ls (.int y :: .int x :: rest))) := Go.step (fun t q => XS.ixor X.here hx rfl (hb hby hd) rfl q) K
theorem g_lxor (X : Stand p l e R s m args below meth c T locs k n) (hx : p.tables.exec = Jvm.exec) (hby : c.code = code) {x y : Int64} {rest : List Value} (hd : decode code pc = .ok (.lxor, 1)) (K : Go p e below G (T.setTop (mkF m (pc + 1) Ls (.long (x ^^^ y) :: rest)))) : Go p e below G (T.setTop (mkF m pc Ls (.long y :: .long x :: rest))) := Go.step (fun t q => XS.lxor X.here hx rfl (hb hby hd) rfl q) K
theorem g_ishl (X : Stand p l e R s m args below meth c T locs k n) (hx : p.tables.exec = Jvm.exec) (hby : c.code = code) {x y : Int32} {rest : List Value} (hd : decode code pc = .ok (.ishl, 1)) (K : Go p e below G (T.setTop (mkF m (pc + 1) Ls (.int (x <<< (y &&& 31)) :: rest)))) : Go p e below G (T.setTop (mkF m pc Ls (.int y :: .int x :: rest))) := Go.step (fun t q => XS.ishl X.here hx rfl (hb hby hd) rfl q) K
theorem g_ishr (X : Stand p l e R s m args below meth c T locs k n) (hx : p.tables.exec = Jvm.exec) (hby : c.code = code) {x y : Int32} {rest : List Value} (hd : decode code pc = .ok (.ishr, 1)) (K : Go p e below G (T.setTop (mkF m (pc + 1) Ls (.int (x >>> (y &&& 31)) :: rest)))) : Go p e below G (T.setTop (mkF m pc Ls (.int y :: .int x :: rest))) := Go.step (fun t q => XS.ishr X.here hx rfl (hb hby hd) rfl q) K
theorem g_iushr (X : Stand p l e R s m args below meth c T locs k n) (hx : p.tables.exec = Jvm.exec) (hby : c.code = code) {x y : Int32} {rest : List Value} (hd : decode code pc = .ok (.iushr, 1)) (K : Go p e below G (T.setTop (mkF m (pc + 1) Ls (.int ((x.toUInt32 >>> (y &&& 31).toUInt32).toInt32) :: rest)))) : Go p e below G (T.setTop (mkF m pc Ls (.int y :: .int x :: rest))) := Go.step (fun t q => XS.iushr X.here hx rfl (hb hby hd) rfl q) K
theorem g_lshl (X : Stand p l e R s m args below meth c T locs k n) (hx : p.tables.exec = Jvm.exec) (hby : c.code = code) {x : Int64} {y : Int32} {rest : List Value} (hd : decode code pc = .ok (.lshl, 1)) (K : Go p e below G (T.setTop (mkF m (pc + 1) Ls (.long (x <<< (y &&& 0x3f).toInt64) :: rest)))) : Go p e below G (T.setTop (mkF m pc Ls (.int y :: .long x :: rest))) := Go.step (fun t q => XS.lshl X.here hx rfl (hb hby hd) rfl q) K
theorem g_lshr (X : Stand p l e R s m args below meth c T locs k n) (hx : p.tables.exec = Jvm.exec) (hby : c.code = code) {x : Int64} {y : Int32} {rest : List Value} (hd : decode code pc = .ok (.lshr, 1)) (K : Go p e below G (T.setTop (mkF m (pc + 1) Ls (.long (x >>> (y &&& 0x3f).toInt64) :: rest)))) : Go p e below G (T.setTop (mkF m pc Ls (.int y :: .long x :: rest))) := Go.step (fun t q => XS.lshr X.here hx rfl (hb hby hd) rfl q) K
theorem g_lushr (X : Stand p l e R s m args below meth c T locs k n) (hx : p.tables.exec = Jvm.exec) (hby : c.code = code) {x : Int64} {y : Int32} {rest : List Value} (hd : decode code pc = .ok (.lushr, 1)) (K : Go p e below G (T.setTop (mkF m (pc + 1) Ls (.long ((x.toUInt64 >>> (y &&& 0x3f).toInt64.toUInt64).toInt64) :: rest)))) : Go p e below G (T.setTop (mkF m pc Ls (.int y :: .long x :: rest))) := Go.step (fun t q => XS.lushr X.here hx rfl (hb hby hd) rfl q) K
theorem g_ineg (X : Stand p l e R s m args below meth c T locs k n) (hx : p.tables.exec = Jvm.exec) (hby : c.code = code) {x : Int32} {rest : List Value} (hd : decode code pc = .ok (.ineg, 1)) (K : Go p e below G (T.setTop (mkF m (pc + 1) Ls (.int (-x) :: rest)))) : Go p e below G (T.setTop (mkF m pc Ls (.int x :: rest))) := Go.step (fun t q => XS.ineg X.here hx rfl (hb hby hd) rfl q) K
theorem g_lneg (X : Stand p l e R s m args below meth c T locs k n) (hx : p.tables.exec = Jvm.exec) (hby : c.code = code) {x : Int64} {rest : List Value} (hd : decode code pc = .ok (.lneg, 1)) (K : Go p e below G (T.setTop (mkF m (pc + 1) Ls (.long (-x) :: rest)))) : Go p e below G (T.setTop (mkF m pc Ls (.long x :: rest))) := Go.step (fun t q => XS.lneg X.here hx rfl (hb hby hd) rfl q) K
theorem g_i2l (X : Stand p l e R s m args below meth c T locs k n) (hx : p.tables.exec = Jvm.exec) (hby : c.code = code) {x : Int32} {rest : List Value} (hd : decode code pc = .ok (.i2l, 1)) (K : Go p e below G (T.setTop (mkF m (pc + 1) Ls (.long (x.toInt64) :: rest)))) : Go p e below G (T.setTop (mkF m pc Ls (.int x :: rest))) := Go.step (fun t q => XS.i2l X.here hx rfl (hb hby hd) rfl q) K
theorem g_l2i (X : Stand p l e R s m args below meth c T locs k n) (hx : p.tables.exec = Jvm.exec) (hby : c.code = code) {x : Int64} {rest : List Value} (hd : decode code pc = .ok (.l2i, 1)) (K : Go p e below G (T.setTop (mkF m (pc + 1) Ls (.int (x.toInt32) :: rest)))) : Go p e below G (T.setTop (mkF m pc Ls (.long x :: rest))) := Go.step (fun t q => XS.l2i X.here hx rfl (hb hby hd) rfl q) K
theorem g_i2b (X : Stand p l e R s m args below meth c T locs k n) (hx : p.tables.exec = Jvm.exec) (hby : c.code = code) {x : Int32} {rest : List Value} (hd : decode code pc = .ok (.i2b, 1)) (K : Go p e below G (T.setTop (mkF m (pc + 1) Ls (.int (x.toInt8.toInt32) :: rest)))) : Go p e below G (T.setTop (mkF m pc Ls (.int x :: rest))) := Go.step (fun t q => XS.i2b X.here hx rfl (hb hby hd) rfl q) K
theorem g_i2s (X : Stand p l e R s m args below meth c T locs k n) (hx : p.tables.exec = Jvm.exec) (hby : c.code = code) {x : Int32} {rest : List Value} (hd : decode code pc = .ok (.i2s, 1)) (K : Go p e below G (T.setTop (mkF m (pc + 1) Ls (.int (x.toInt16.toInt32) :: rest)))) : Go p e below G (T.setTop (mkF m pc Ls (.int x :: rest))) := Go.step (fun t q => XS.i2s X.here hx rfl (hb hby hd) rfl q) K
theorem g_i2c (X : Stand p l e R s m args below meth c T locs k n) (hx : p.tables.exec = Jvm.exec) (hby : c.code = code) {x : Int32} {rest : List Value} (hd : decode code pc = .ok (.i2c, 1)) (K : Go p e below G (T.setTop (mkF m (pc + 1) Ls (.int (x.toUInt32.toUInt16.toUInt32.toInt32) :: rest)))) : Go p e below G (T.setTop (mkF m pc Ls (.int x :: rest))) := Go.step (fun t q => XS.i2c X.here hx rfl (hb hby hd) rfl q) K
theorem g_lcmp (X : Stand p l e R s m args below meth c T locs k n) (hx : p.tables.exec = Jvm.exec) (hby : c.code = code) {x y : Int64} {rest : List Value} (hd : decode code pc = .ok (.lcmp, 1)) (K : Go p e below G (T.setTop (mkF m (pc + 1) Ls (.int (lcmpW x y) :: rest)))) : Go p e below G (T.setTop (mkF m pc Ls (.long y :: .long x :: rest))) := Go.step (fun t q => XS.lcmp X.here hx rfl (hb hby hd) rfl q) K
theorem g_idiv (X : Stand p l e R s m args below meth c T locs k n) (hx : p.tables.exec = Jvm.exec) (hby : c.code = code) {x y : Int32} {rest : List Value} (hd : decode code pc = .ok (.idiv, 1)) (hy : y ≠ 0) (K : Go p e below G (T.setTop (mkF m (pc + 1) Ls (.int (x / y) :: rest)))) : Go p e below G (T.setTop (mkF m pc Ls (.int y :: .int x :: rest))) := Go.step (fun t q => XS.idiv X.here hx rfl (hb hby hd) rfl hy q) K
theorem g_irem (X : Stand p l e R s m args below meth c T locs k n) (hx : p.tables.exec = Jvm.exec) (hby : c.code = code) {x y : Int32} {rest : List Value} (hd : decode code pc = .ok (.irem, 1)) (hy : y ≠ 0) (K : Go p e below G (T.setTop (mkF m (pc + 1) Ls (.int (x % y) :: rest)))) : Go p e below G (T.setTop (mkF m pc Ls (.int y :: .int x :: rest))) := Go.step (fun t q => iremM X hx rfl (hb hby hd) rfl hy q) K
theorem g_iinc (X : Stand p l e R s m args below meth c T locs k n) (hx : p.tables.exec = Jvm.exec) (hby : c.code = code) {j : Nat} {cst : Int} {x : Int32} {l' : Array Slot} (v : Int32) (hd : decode code pc = .ok (.iinc j cst, 3)) (hl : Ls[j]? = some (.val (.int x))) (hv : x + Int32.ofInt cst = v) (hl' : storeLocals Ls j (.int v) = some l') (K : Go p e below G (T.setTop (mkF m (pc + 3) l' st))) : Go p e below G (T.setTop (mkF m pc Ls st)) := Go.step (fun t q => XS.iinc X.here hx rfl (hb hby hd) hl (by rw [hv]; exact hl') q) K
theorem g_dup (X : Stand p l e R s m args below meth c T locs k n) (hx : p.tables.exec = Jvm.exec) (hby : c.code = code) {x : Value} {rest : List Value} (hd : decode code pc = .ok (.dup, 1)) (hc : x.category = 1) (K : Go p e below G (T.setTop (mkF m (pc + 1) Ls (x :: x :: rest)))) : Go p e below G (T.setTop (mkF m pc Ls (x :: rest))) := Go.step (fun t q => XS.dup X.here hx rfl (hb hby hd) rfl hc q) K
theorem g_dup_x1 (X : Stand p l e R s m args below meth c T locs k n) (hx : p.tables.exec = Jvm.exec) (hby : c.code = code) {x y : Value} {rest : List Value} (hd : decode code pc = .ok (.dup_x1, 1)) (hc : x.category = 1) (hc2 : y.category = 1) (K : Go p e below G (T.setTop (mkF m (pc + 1) Ls (x :: y :: x :: rest)))) : Go p e below G (T.setTop (mkF m pc Ls (x :: y :: rest))) := Go.step (fun t q => XS.dupX1 X.here hx rfl (hb hby hd) rfl hc hc2 q) K
theorem g_pop (X : Stand p l e R s m args below meth c T locs k n) (hx : p.tables.exec = Jvm.exec) (hby : c.code = code) {x : Value} {rest : List Value} (hd : decode code pc = .ok (.pop, 1)) (hc : x.category = 1) (K : Go p e below G (T.setTop (mkF m (pc + 1) Ls rest))) : Go p e below G (T.setTop (mkF m pc Ls (x :: rest))) := Go.step (fun t q => XS.pop X.here hx rfl (hb hby hd) rfl hc q) K
theorem g_dup2 (X : Stand p l e R s m args below meth c T locs k n) (hx : p.tables.exec = Jvm.exec) (hby : c.code = code) {x y : Value} {rest : List Value} (hd : decode code pc = .ok (.dup2, 1)) (hc : x.category = 1) (hc2 : y.category = 1) (K : Go p e below G (T.setTop (mkF m (pc + 1) Ls (x :: y :: x :: y :: rest)))) : Go p e below G (T.setTop (mkF m pc Ls (x :: y :: rest))) := Go.step (fun t q => XT.dup2 X.here hx rfl (hb hby hd) rfl hc hc2 q) K
theorem g_dup2L (X : Stand p l e R s m args below meth c T locs k n) (hx : p.tables.exec = Jvm.exec) (hby : c.code = code) {x : Int64} {rest : List Value} (hd : decode code pc = .ok (.dup2, 1)) (K : Go p e below G (T.setTop (mkF m (pc + 1) Ls (.long x :: .long x :: rest)))) : Go p e below G (T.setTop (mkF m pc Ls (.long x :: rest))) := Go.step (fun t q => XT.dup2L X.here hx rfl (hb hby hd) rfl q) K
theorem g_pop2J (X : Stand p l e R s m args below meth c T locs k n) (hx : p.tables.exec = Jvm.exec) (hby : c.code = code) {x : Int64} {rest : List Value} (hd : decode code pc = .ok (.pop2, 1)) (K : Go p e below G (T.setTop (mkF m (pc + 1) Ls rest))) : Go p e below G (T.setTop (mkF m pc Ls (.long x :: rest))) := Go.step (fun t q => by
  have hd' := hb hby hd
  show Steps p.tables e below (T.setTop { method := m, pc := pc, locals := Ls, stack := .long x :: rest, locked := none }) t
  jvm_step X.here [X.here.top, hx, hd', Value.category]
  exact q) K
theorem g_goto (X : Stand p l e R s m args below meth c T locs k n) (hx : p.tables.exec = Jvm.exec) (hby : c.code = code) {d : Int} (pc' : Nat) (hd : decode code pc = .ok (.goto d, 3)) (ho : 0 ≤ (pc : Int) + d) (hp : ((pc : Int) + d).toNat = pc') (K : Go p e below G (T.setTop (mkF m pc' Ls st))) : Go p e below G (T.setTop (mkF m pc Ls st)) := Go.step (fun t q => XS.goto X.here hx rfl (pc0 := pc) (pc' := pc') rfl (hb hby hd) ho hp q) K
theorem g_ifY (X : Stand p l e R s m args below meth c T locs k n) (hx : p.tables.exec = Jvm.exec) (hby : c.code = code) {cd : ClassFile.Cond} {x : Int32} {rest : List Value} {d : Int} (pc' : Nat) (hd : decode code pc = .ok (.ifCond cd d, 3)) (hc : if_icmp.holds cd x 0 = true) (ho : 0 ≤ (pc : Int) + d) (hp : ((pc : Int) + d).toNat = pc') (K : Go p e below G (T.setTop (mkF m pc' Ls rest))) : Go p e below G (T.setTop (mkF m pc Ls (.int x :: rest))) := Go.step (fun t q => XS.ifYes X.here hx rfl (pc0 := pc) (pc' := pc') rfl (hb hby hd) rfl ((if0 _ _).trans hc) ho hp q) K
theorem g_ifN (X : Stand p l e R s m args below meth c T locs k n) (hx : p.tables.exec = Jvm.exec) (hby : c.code = code) {cd : ClassFile.Cond} {x : Int32} {rest : List Value} {d : Int} (hd : decode code pc = .ok (.ifCond cd d, 3)) (hc : if_icmp.holds cd x 0 = false) (K : Go p e below G (T.setTop (mkF m (pc + 3) Ls rest))) : Go p e below G (T.setTop (mkF m pc Ls (.int x :: rest))) := Go.step (fun t q => XS.ifNo X.here hx rfl (hb hby hd) rfl ((if0 _ _).trans hc) q) K
theorem g_icY (X : Stand p l e R s m args below meth c T locs k n) (hx : p.tables.exec = Jvm.exec) (hby : c.code = code) {cd : ClassFile.Cond} {x y : Int32} {rest : List Value} {d : Int} (pc' : Nat) (hd : decode code pc = .ok (.if_icmp cd d, 3)) (hc : if_icmp.holds cd x y = true) (ho : 0 ≤ (pc : Int) + d) (hp : ((pc : Int) + d).toNat = pc') (K : Go p e below G (T.setTop (mkF m pc' Ls rest))) : Go p e below G (T.setTop (mkF m pc Ls (.int y :: .int x :: rest))) := Go.step (fun t q => XS.icmpYes X.here hx rfl (pc0 := pc) (pc' := pc') rfl (hb hby hd) rfl hc ho hp q) K
theorem g_icN (X : Stand p l e R s m args below meth c T locs k n) (hx : p.tables.exec = Jvm.exec) (hby : c.code = code) {cd : ClassFile.Cond} {x y : Int32} {rest : List Value} {d : Int} (hd : decode code pc = .ok (.if_icmp cd d, 3)) (hc : if_icmp.holds cd x y = false) (K : Go p e below G (T.setTop (mkF m (pc + 3) Ls rest))) : Go p e below G (T.setTop (mkF m pc Ls (.int y :: .int x :: rest))) := Go.step (fun t q => XS.icmpNo X.here hx rfl (hb hby hd) rfl hc q) K
theorem g_acmp (X : Stand p l e R s m args below meth c T locs k n) (hx : p.tables.exec = Jvm.exec) (hby : c.code = code) {cd : ACond} {x y : Value} (h1 : x.isRef = true) (h2 : y.isRef = true) {rest : List Value} {d : Int} (pc' : Nat) (same : Bool) (hd : decode code pc = .ok (.if_acmp cd d, 3)) (hq : decide (x = y) = same) (ho : 0 ≤ (pc : Int) + d) (hp : pc' = if acV cd same = true then ((pc : Int) + d).toNat else pc + 3) (K : Go p e below G (T.setTop (mkF m pc' Ls rest))) : Go p e below G (T.setTop (mkF m pc Ls (y :: x :: rest))) := Go.step (fun t q => Jvm.RoadKit.acmp (g := mkF m pc Ls (y :: x :: rest)) X hx rfl h1 h2 (pc0 := pc) (pc' := pc') (same := same) rfl (hb hby hd) rfl hq ho hp q) K
theorem g_ifnullY (X : Stand p l e R s m args below meth c T locs k n) (hx : p.tables.exec = Jvm.exec) (hby : c.code = code) {rest : List Value} {d : Int} (pc' : Nat) (hd : decode code pc = .ok (.ifnull d, 3)) (ho : 0 ≤ (pc : Int) + d) (hp : ((pc : Int) + d).toNat = pc') (K : Go p e below G (T.setTop (mkF m pc' Ls rest))) : Go p e below G (T.setTop (mkF m pc Ls (.null :: rest))) := Go.step (fun t q => XS.ifnullYes X.here hx rfl (pc0 := pc) (pc' := pc') rfl (hb hby hd) rfl ho hp q) K
theorem g_ifnullN (X : Stand p l e R s m args below meth c T locs k n) (hx : p.tables.exec = Jvm.exec) (hby : c.code = code) {b : Addr} {rest : List Value} {d : Int} (hd : decode code pc = .ok (.ifnull d, 3)) (K : Go p e below G (T.setTop (mkF m (pc + 3) Ls rest))) : Go p e below G (T.setTop (mkF m pc Ls (.ref b :: rest))) := Go.step (fun t q => XS.ifnullNo X.here hx rfl (hb hby hd) rfl q) K
theorem g_ifnonnullY (X : Stand p l e R s m args below meth c T locs k n) (hx : p.tables.exec = Jvm.exec) (hby : c.code = code) {b : Addr} {rest : List Value} {d : Int} (pc' : Nat) (hd : decode code pc = .ok (.ifnonnull d, 3)) (ho : 0 ≤ (pc : Int) + d) (hp : ((pc : Int) + d).toNat = pc') (K : Go p e below G (T.setTop (mkF m pc' Ls rest))) : Go p e below G (T.setTop (mkF m pc Ls (.ref b :: rest))) := Go.step (fun t q => XS.ifnonnullYes X.here hx rfl (pc0 := pc) (pc' := pc') rfl (hb hby hd) rfl ho hp q) K
theorem g_ifnonnullN (X : Stand p l e R s m args below meth c T locs k n) (hx : p.tables.exec = Jvm.exec) (hby : c.code = code) {rest : List Value} {d : Int} (hd : decode code pc = .ok (.ifnonnull d, 3)) (K : Go p e below G (T.setTop (mkF m (pc + 3) Ls rest))) : Go p e below G (T.setTop (mkF m pc Ls (.null :: rest))) := Go.step (fun t q => XS.ifnonnullNo X.here hx rfl (hb hby hd) rfl q) K
theorem g_ldcI (X : Stand p l e R s m args below meth c T locs k n) (hx : p.tables.exec = Jvm.exec) (hby : c.code = code) (hZ : Z.Warmed39 s.vm) {own : String} (hown : s.vm.findClass own = some m.cls) {index : Nat} {v : Int32} (w : (Cond.constant own index v).before a0 Z = true) (hd : decode code pc = .ok (.ldc index, 2)) (K : Go p e below G (T.setTop (mkF m (pc + 2) Ls (.int v :: st)))) : Go p e below G (T.setTop (mkF m pc Ls st)) := Go.step (fun t q => X.ldcInt hx hown (mvT hZ w) (g := mkF m pc Ls st) rfl (hb hby hd) t q) K
theorem g_ldcwI (X : Stand p l e R s m args below meth c T locs k n) (hx : p.tables.exec = Jvm.exec) (hby : c.code = code) (hZ : Z.Warmed39 s.vm) {own : String} (hown : s.vm.findClass own = some m.cls) {index : Nat} {v : Int32} (w : (Cond.constant own index v).before a0 Z = true) (hd : decode code pc = .ok (.ldc_w index, 3)) (K : Go p e below G (T.setTop (mkF m (pc + 3) Ls (.int v :: st)))) : Go p e below G (T.setTop (mkF m pc Ls st)) := Go.step (fun t q => X.ldcwInt hx hown (mvT hZ w) (g := mkF m pc Ls st) rfl (hb hby hd) t q) K
theorem g_ldc2J (X : Stand p l e R s m args below meth c T locs k n) (hx : p.tables.exec = Jvm.exec) (hby : c.code = code) (hZ : Z.Warmed39 s.vm) {own : String} (hown : s.vm.findClass own = some m.cls) {index : Nat} {v : Int64} (w : (Cond.constantLong own index v).before a0 Z = true) (hd : decode code pc = .ok (.ldc2_w index, 3)) (K : Go p e below G (T.setTop (mkF m (pc + 3) Ls (.long v :: st)))) : Go p e below G (T.setTop (mkF m pc Ls st)) := Go.step (fun t q => X.ldc2Long hx hown (mvT hZ w) (g := mkF m pc Ls st) rfl (hb hby hd) t q) K
theorem g_getF (X : Stand p l e R s m args below meth c T locs k n) (hx : p.tables.exec = Jvm.exec) (hby : c.code = code) (hZ : Z.Warmed39 s.vm) {own : String} (hown : s.vm.findClass own = some m.cls) {R0 O f d host : String} {index : Nat} (w : (Cond.fieldLink own index R0 f d).before a0 Z = true ∨ (Cond.fieldLinkNest own index R0 f d host).before a0 Z = true) (via : Via Z R0 O f d) (eT : T.heap = h) {a : Addr} {v : Value} (F : Fld Z h a O f d v) {rest : List Value} (hd : decode code pc = .ok (.getfield index, 3)) (K : ∀ T', Stand p l e R s m args below meth c T' locs k n → T'.heap = h → Go p e below G (T'.setTop (mkF m (pc + 3) Ls (v :: rest)))) : Go p e below G (T.setTop (mkF m pc Ls (.ref a :: rest))) := by
  obtain ⟨T', X', e', q⟩ := getF X hx hZ hown w via eT F (g := mkF m pc Ls (.ref a :: rest)) rfl rfl (hb hby hd)
  exact Go.step q (K T' X' e')
theorem g_getS (X : Stand p l e R s m args below meth c T locs k n) (hx : p.tables.exec = Jvm.exec) (hby : c.code = code) (hZ : Z.Warmed39 s.vm) {own : String} (hown : s.vm.findClass own = some m.cls) {R0 O f d host : String} {index : Nat} (w : (Cond.fieldLink own index R0 f d).before a0 Z = true ∨ (Cond.fieldLinkNest own index R0 f d host).before a0 Z = true) (via : Via Z R0 O f d) (eT : T.heap = h) {v : Value} (F : Sta Z h O f d v) (hd : decode code pc = .ok (.getstatic index, 3)) (K : ∀ T', Stand p l e R s m args below meth c T' locs k n → T'.heap = h → Go p e below G (T'.setTop (mkF m (pc + 3) Ls (v :: st)))) : Go p e below G (T.setTop (mkF m pc Ls st)) := by
  obtain ⟨T', X', e', q⟩ := getS2 X hx hZ hown w via eT F (g := mkF m pc Ls st) rfl (hb hby hd)
  exact Go.step q (K T' X' e')
theorem g_putF (X : Stand p l e R s m args below meth c T locs k n) (hx : p.tables.exec = Jvm.exec) (hby : c.code = code) (hZ : Z.Warmed39 s.vm) {own : String} (hown : s.vm.findClass own = some m.cls) {R0 O f d host : String} {index : Nat} (w : (Cond.fieldLink own index R0 f d).before a0 Z = true ∨ (Cond.fieldLinkNest own index R0 f d host).before a0 Z = true) (via : Via Z R0 O f d) (eT : T.heap = h) {C : String} {kk : Nat} {a : Addr} {v old : Value} (F : Fld Z h a O f d old) (E : Exa Z h a C) (L : (Cond.lays C O f d).before a0 Z = true ∨ ((Cond.laysFinal C O f d).before a0 Z = true ∧ own = O ∧ meth.name = "<init>")) (wi : (Cond.instantiable C kk).before a0 Z = true) (ty : FieldType) (hty : parseFieldDescriptor d = some ty) (hn : narrow ty v = v) (hf : fits ty v = true) (N : Fr n0 locs) (ga : n0 ≤ a) {rest : List Value} (hd : decode code pc = .ok (.putfield index, 3)) (K : ∀ T' h', Stand p l e R s m args below meth c T' (locs ++ [⟨a, Jvm.RoadKit.slotOf Z O f d⟩]) k n → T'.heap = h' → Wr h h' a (Jvm.RoadKit.slotOf Z O f d) v → Fld Z h' a O f d v → Fr n0 (locs ++ [⟨a, Jvm.RoadKit.slotOf Z O f d⟩]) → Go p e below G (T'.setTop (mkF m (pc + 3) Ls rest))) : Go p e below G (T.setTop (mkF m pc Ls (v :: .ref a :: rest))) := by
  obtain ⟨T', h', X', e', W, q⟩ := putF X hx hZ hown w via eT F E L wi hty hn hf (g := mkF m pc Ls (v :: .ref a :: rest)) rfl rfl (hb hby hd)
  exact Go.step q (K T' h' X' e' W (F.same W) (Fr.snoc X' N ga))
theorem g_putFN (X : Stand p l e R s m args below meth c T locs k n) (hx : p.tables.exec = Jvm.exec) (hby : c.code = code) (hZ : Z.Warmed39 s.vm) {own : String} (hown : s.vm.findClass own = some m.cls) {R0 O f d : String} {index : Nat} (w : (Cond.fieldLink own index R0 f d).before a0 Z = true) (via : Via Z R0 O f d) (eT : T.heap = h) {C : String} {kk : Nat} {a : Addr} {v old : Value} (F : Fld Z h a O f d old) (E : Exa Z h a C) (L : (Cond.lays C O f d).before a0 Z = true ∨ ((Cond.laysFinal C O f d).before a0 Z = true ∧ own = O ∧ meth.name = "<init>")) (wi : (Cond.instantiable C kk).before a0 Z = true) (ty : FieldType) (hty : parseFieldDescriptor d = some ty) (v' : Value) (hn : narrow ty v = v') (hf : fits ty v' = true) (N : Fr n0 locs) (ga : n0 ≤ a) {rest : List Value} (hd : decode code pc = .ok (.putfield index, 3)) (K : ∀ T' h', Stand p l e R s m args below meth c T' (locs ++ [⟨a, Jvm.RoadKit.slotOf Z O f d⟩]) k n → T'.heap = h' → Wr h h' a (Jvm.RoadKit.slotOf Z O f d) v' → Fld Z h' a O f d v' → Fr n0 (locs ++ [⟨a, Jvm.RoadKit.slotOf Z O f d⟩]) → Go p e below G (T'.setTop (mkF m (pc + 3) Ls rest))) : Go p e below G (T.setTop (mkF m pc Ls (v :: .ref a :: rest))) := by
  obtain ⟨T', h', X', e', W, q⟩ := putFN X hx hZ hown w via eT F E L wi hty hn hf (g := mkF m pc Ls (v :: .ref a :: rest)) rfl rfl (hb hby hd)
  exact Go.step q (K T' h' X' e' W (F.same W) (Fr.snoc X' N ga))
theorem g_new (X : Stand p l e R s m args below meth c T locs k n) (hx : p.tables.exec = Jvm.exec) (hby : c.code = code) (hZ : Z.Warmed39 s.vm) {own : String} (hown : s.vm.findClass own = some m.cls) {C : String} {index j : Nat} (w : (Cond.classLink own index C).before a0 Z = true) (wi : (Cond.instantiable C j).before a0 Z = true) (wz : (Cond.initialized C).before a0 Z = true) (eT : T.heap = h) (hc : k + 1 ≤ R.cells) (hl : n + j ≤ R.slots) (hd : decode code pc = .ok (.new index, 3)) (K : ∀ T' h' x, h.size = x → Stand p l e R s m args below meth c T' locs (k + 1) (n + j) → T'.heap = h' → Ext h h' → Exa Z h' x C → (∀ {O nm d : String} {ty : FieldType}, Laid Z a0 C O nm d → parseFieldDescriptor d = some ty → Fld Z h' x O nm d (defaultValue ty)) → Go p e below G (T'.setTop (mkF m (pc + 3) Ls (.ref x :: st)))) : Go p e below G (T.setTop (mkF m pc Ls st)) := by
  obtain ⟨T', h', X', e', E, A, D, -, q⟩ := newO X hx hZ hown w wi wz eT (g := mkF m pc Ls st) rfl (hb hby hd) hc hl
  exact Go.step q (K T' h' _ rfl X' e' E A D)
theorem g_newarray (X : Stand p l e R s m args below meth c T locs k n) (hx : p.tables.exec = Jvm.exec) (hby : c.code = code) (hZ : Z.Warmed39 s.vm) (aty : ArrayType) (ty : FieldType) (dv : Value) (vs : List Value) (hty : newarray.typeOf aty = ty) (hdv : defaultValue ty = dv) (w : (Cond.arrayClass ty).before a0 Z = true) (eT : T.heap = h) {z : Int32} {rest : List Value} (hn : ¬ z < 0) (cap : Nat) (hvs : List.replicate cap dv = vs) (hcap : z.toNatClampNeg ≤ cap) (hbig : cap * 8 ≤ 536870912) (hc : k + 1 ≤ R.cells) (hl : n + cap ≤ R.slots) (hd : decode code pc = .ok (.newarray aty, 2)) (K : ∀ T' h' kc x, h.size = x → Stand p l e R s m args below meth c T' locs (k + 1) (n + cap) → T'.heap = h' → Ext h h' → Arv Z h' x kc ty z vs dv → Go p e below G (T'.setTop (mkF m (pc + 2) Ls (.ref x :: rest)))) : Go p e below G (T.setTop (mkF m pc Ls (.int z :: rest))) := by
  subst hty hdv hvs
  obtain ⟨T', h', kc, X', e', E, A, q⟩ := newP X hx hZ w eT (g := mkF m pc Ls (.int z :: rest)) rfl (hb hby hd) rfl hn (cap := cap) hcap hbig hc hl
  exact Go.step q (K T' h' kc _ rfl X' e' E ((Arv.new A hn).pad (pad_rep [] _ cap)))
theorem g_iastore (X : Stand p l e R s m args below meth c T locs k n) (hx : p.tables.exec = Jvm.exec) (hby : c.code = code) (hZ : Z.Warmed39 s.vm) (eT : T.heap = h) {a : Addr} {kc : ClassId} {z : Int32} {vs : List Value} {dv : Value} (V : Arv Z h a kc .int z vs dv) {j : Int32} {x : Int32} (i : Nat) (vs' : List Value) (hvs : vs.set i (.int x) = vs') (hj : ¬ j < 0 ∧ j < z) (hi : j.toNatClampNeg = i) (hlen : i < vs.length) (N : Fr n0 locs) (ga : n0 ≤ a) {rest : List Value} (hd : decode code pc = .ok (.iastore, 1)) (K : ∀ T' h', Stand p l e R s m args below meth c T' (locs ++ [⟨a, j.toNatClampNeg⟩]) k n → T'.heap = h' → Wr h h' a j.toNatClampNeg (.int x) → Arv Z h' a kc .int z vs' dv → Fr n0 (locs ++ [⟨a, j.toNatClampNeg⟩]) → Go p e below G (T'.setTop (mkF m (pc + 1) Ls rest))) : Go p e below G (T.setTop (mkF m pc Ls (.int x :: .int j :: .ref a :: rest))) := by
  subst hvs
  obtain ⟨cl, Ar, q1, S, M, H, F⟩ := V
  obtain ⟨T', h', X', e', W, q⟩ := stI X hx hZ eT Ar (j := j) (inb_of S hj) (g := mkF m pc Ls (.int x :: .int j :: .ref a :: rest)) rfl rfl (hb hby hd)
  exact Go.step q (K T' h' X' e' W (Arv.set Ar q1 S M H F rfl W i hi hlen) (Fr.snoc X' N ga))
theorem g_castore (X : Stand p l e R s m args below meth c T locs k n) (hx : p.tables.exec = Jvm.exec) (hby : c.code = code) (hZ : Z.Warmed39 s.vm) (eT : T.heap = h) {a : Addr} {kc : ClassId} {z : Int32} {vs : List Value} {dv : Value} (V : Arv Z h a kc .char z vs dv) {j : Int32} {x : Int32} (i : Nat) (vs' : List Value) (hvs : vs.set i (.int (nar .char x)) = vs') (hj : ¬ j < 0 ∧ j < z) (hi : j.toNatClampNeg = i) (hlen : i < vs.length) (N : Fr n0 locs) (ga : n0 ≤ a) {rest : List Value} (hd : decode code pc = .ok (.castore, 1)) (K : ∀ T' h', Stand p l e R s m args below meth c T' (locs ++ [⟨a, j.toNatClampNeg⟩]) k n → T'.heap = h' → Wr h h' a j.toNatClampNeg (.int (nar .char x)) → Arv Z h' a kc .char z vs' dv → Fr n0 (locs ++ [⟨a, j.toNatClampNeg⟩]) → Go p e below G (T'.setTop (mkF m (pc + 1) Ls rest))) : Go p e below G (T.setTop (mkF m pc Ls (.int x :: .int j :: .ref a :: rest))) := by
  subst hvs
  obtain ⟨cl, Ar, q1, S, M, H, F⟩ := V
  obtain ⟨T', h', X', e', W, q⟩ := stC X hx hZ eT Ar (j := j) (inb_of S hj) (g := mkF m pc Ls (.int x :: .int j :: .ref a :: rest)) rfl rfl (hb hby hd)
  exact Go.step q (K T' h' X' e' W (Arv.set Ar q1 S M H F (fits_nar_char _) W i hi hlen) (Fr.snoc X' N ga))
theorem g_sastore (X : Stand p l e R s m args below meth c T locs k n) (hx : p.tables.exec = Jvm.exec) (hby : c.code = code) (hZ : Z.Warmed39 s.vm) (eT : T.heap = h) {a : Addr} {kc : ClassId} {z : Int32} {vs : List Value} {dv : Value} (V : Arv Z h a kc .short z vs dv) {j : Int32} {x : Int32} (i : Nat) (vs' : List Value) (hvs : vs.set i (.int (nar .short x)) = vs') (hj : ¬ j < 0 ∧ j < z) (hi : j.toNatClampNeg = i) (hlen : i < vs.length) (N : Fr n0 locs) (ga : n0 ≤ a) {rest : List Value} (hd : decode code pc = .ok (.sastore, 1)) (K : ∀ T' h', Stand p l e R s m args below meth c T' (locs ++ [⟨a, j.toNatClampNeg⟩]) k n → T'.heap = h' → Wr h h' a j.toNatClampNeg (.int (nar .short x)) → Arv Z h' a kc .short z vs' dv → Fr n0 (locs ++ [⟨a, j.toNatClampNeg⟩]) → Go p e below G (T'.setTop (mkF m (pc + 1) Ls rest))) : Go p e below G (T.setTop (mkF m pc Ls (.int x :: .int j :: .ref a :: rest))) := by
  subst hvs
  obtain ⟨cl, Ar, q1, S, M, H, F⟩ := V
  obtain ⟨T', h', X', e', W, q⟩ := stS X hx hZ eT Ar (j := j) (inb_of S hj) (g := mkF m pc Ls (.int x :: .int j :: .ref a :: rest)) rfl rfl (hb hby hd)
  exact Go.step q (K T' h' X' e' W (Arv.set Ar q1 S M H F (fits_nar_short _) W i hi hlen) (Fr.snoc X' N ga))
theorem g_bastore (X : Stand p l e R s m args below meth c T locs k n) (hx : p.tables.exec = Jvm.exec) (hby : c.code = code) (hZ : Z.Warmed39 s.vm) (eT : T.heap = h) {a : Addr} {kc : ClassId} {z : Int32} {vs : List Value} {dv : Value} (V : Arv Z h a kc .byte z vs dv) {j : Int32} {x : Int32} (i : Nat) (vs' : List Value) (hvs : vs.set i (.int (nar .byte x)) = vs') (hj : ¬ j < 0 ∧ j < z) (hi : j.toNatClampNeg = i) (hlen : i < vs.length) (N : Fr n0 locs) (ga : n0 ≤ a) {rest : List Value} (hd : decode code pc = .ok (.bastore, 1)) (K : ∀ T' h', Stand p l e R s m args below meth c T' (locs ++ [⟨a, j.toNatClampNeg⟩]) k n → T'.heap = h' → Wr h h' a j.toNatClampNeg (.int (nar .byte x)) → Arv Z h' a kc .byte z vs' dv → Fr n0 (locs ++ [⟨a, j.toNatClampNeg⟩]) → Go p e below G (T'.setTop (mkF m (pc + 1) Ls rest))) : Go p e below G (T.setTop (mkF m pc Ls (.int x :: .int j :: .ref a :: rest))) := by
  subst hvs
  obtain ⟨cl, Ar, q1, S, M, H, F⟩ := V
  obtain ⟨T', h', X', e', W, q⟩ := stB X hx hZ eT Ar (j := j) (inb_of S hj) (g := mkF m pc Ls (.int x :: .int j :: .ref a :: rest)) rfl rfl (hb hby hd)
  exact Go.step q (K T' h' X' e' W (Arv.set Ar q1 S M H F (fits_nar_byte _) W i hi hlen) (Fr.snoc X' N ga))
theorem g_lastore (X : Stand p l e R s m args below meth c T locs k n) (hx : p.tables.exec = Jvm.exec) (hby : c.code = code) (hZ : Z.Warmed39 s.vm) (eT : T.heap = h) {a : Addr} {kc : ClassId} {z : Int32} {vs : List Value} {dv : Value} (V : Arv Z h a kc .long z vs dv) {j : Int32} {x : Int64} (i : Nat) (vs' : List Value) (hvs : vs.set i (.long x) = vs') (hj : ¬ j < 0 ∧ j < z) (hi : j.toNatClampNeg = i) (hlen : i < vs.length) (N : Fr n0 locs) (ga : n0 ≤ a) {rest : List Value} (hd : decode code pc = .ok (.lastore, 1)) (K : ∀ T' h', Stand p l e R s m args below meth c T' (locs ++ [⟨a, j.toNatClampNeg⟩]) k n → T'.heap = h' → Wr h h' a j.toNatClampNeg (.long x) → Arv Z h' a kc .long z vs' dv → Fr n0 (locs ++ [⟨a, j.toNatClampNeg⟩]) → Go p e below G (T'.setTop (mkF m (pc + 1) Ls rest))) : Go p e below G (T.setTop (mkF m pc Ls (.long x :: .int j :: .ref a :: rest))) := by
  subst hvs
  obtain ⟨cl, Ar, q1, S, M, H, F⟩ := V
  obtain ⟨T', h', X', e', W, q⟩ := stJ X hx hZ eT Ar (j := j) (inb_of S hj) (g := mkF m pc Ls (.long x :: .int j :: .ref a :: rest)) rfl rfl (hb hby hd)
  exact Go.step q (K T' h' X' e' W (Arv.set Ar q1 S M H F rfl W i hi hlen) (Fr.snoc X' N ga))
theorem g_iaload (X : Stand p l e R s m args below meth c T locs k n) (hx : p.tables.exec = Jvm.exec) (hby : c.code = code) (hZ : Z.Warmed39 s.vm) (eT : T.heap = h) {a : Addr} {kc : ClassId} {z : Int32} {vs : List Value} {dv : Value} (V : Arv Z h a kc .int z vs dv) {j : Int32} (v : Value) (hj : ¬ j < 0 ∧ j < z) (hv : vs.getD j.toNatClampNeg dv = v) {rest : List Value} (hd : decode code pc = .ok (.iaload, 1)) (K : Go p e below G (T.setTop (mkF m (pc + 1) Ls (v :: rest)))) : Go p e below G (T.setTop (mkF m pc Ls (.int j :: .ref a :: rest))) := by
  obtain ⟨cl, Ar, q1, S, M, H, F⟩ := V
  have hin := inb_of S hj
  exact Go.step (fun t q => X.iaload hx (j := j) (v := v) (by rw [eT]; exact Ar.1) (State.isArrayOf_alike hZ.alike Ar.2.1) Ar.2.2 hin (H.at hin hv) (g := mkF m pc Ls (.int j :: .ref a :: rest)) rfl rfl (hb hby hd) t q) K
theorem g_caload (X : Stand p l e R s m args below meth c T locs k n) (hx : p.tables.exec = Jvm.exec) (hby : c.code = code) (hZ : Z.Warmed39 s.vm) (eT : T.heap = h) {a : Addr} {kc : ClassId} {z : Int32} {vs : List Value} {dv : Value} (V : Arv Z h a kc .char z vs dv) {j : Int32} (v : Value) (hj : ¬ j < 0 ∧ j < z) (hv : vs.getD j.toNatClampNeg dv = v) {rest : List Value} (hd : decode code pc = .ok (.caload, 1)) (K : Go p e below G (T.setTop (mkF m (pc + 1) Ls (v :: rest)))) : Go p e below G (T.setTop (mkF m pc Ls (.int j :: .ref a :: rest))) := by
  obtain ⟨cl, Ar, q1, S, M, H, F⟩ := V
  have hin := inb_of S hj
  exact Go.step (fun t q => X.caload hx (j := j) (v := v) (by rw [eT]; exact Ar.1) (State.isArrayOf_alike hZ.alike Ar.2.1) Ar.2.2 hin (H.at hin hv) (g := mkF m pc Ls (.int j :: .ref a :: rest)) rfl rfl (hb hby hd) t q) K
theorem g_saload (X : Stand p l e R s m args below meth c T locs k n) (hx : p.tables.exec = Jvm.exec) (hby : c.code = code) (hZ : Z.Warmed39 s.vm) (eT : T.heap = h) {a : Addr} {kc : ClassId} {z : Int32} {vs : List Value} {dv : Value} (V : Arv Z h a kc .short z vs dv) {j : Int32} (v : Value) (hj : ¬ j < 0 ∧ j < z) (hv : vs.getD j.toNatClampNeg dv = v) {rest : List Value} (hd : decode code pc = .ok (.saload, 1)) (K : Go p e below G (T.setTop (mkF m (pc + 1) Ls (v :: rest)))) : Go p e below G (T.setTop (mkF m pc Ls (.int j :: .ref a :: rest))) := by
  obtain ⟨cl, Ar, q1, S, M, H, F⟩ := V
  have hin := inb_of S hj
  exact Go.step (fun t q => X.saload hx (j := j) (v := v) (by rw [eT]; exact Ar.1) (State.isArrayOf_alike hZ.alike Ar.2.1) Ar.2.2 hin (H.at hin hv) (g := mkF m pc Ls (.int j :: .ref a :: rest)) rfl rfl (hb hby hd) t q) K
theorem g_baload (X : Stand p l e R s m args below meth c T locs k n) (hx : p.tables.exec = Jvm.exec) (hby : c.code = code) (hZ : Z.Warmed39 s.vm) (eT : T.heap = h) {a : Addr} {kc : ClassId} {z : Int32} {vs : List Value} {dv : Value} (V : Arv Z h a kc .byte z vs dv) {j : Int32} (v : Value) (hj : ¬ j < 0 ∧ j < z) (hv : vs.getD j.toNatClampNeg dv = v) {rest : List Value} (hd : decode code pc = .ok (.baload, 1)) (K : Go p e below G (T.setTop (mkF m (pc + 1) Ls (v :: rest)))) : Go p e below G (T.setTop (mkF m pc Ls (.int j :: .ref a :: rest))) := by
  obtain ⟨cl, Ar, q1, S, M, H, F⟩ := V
  have hin := inb_of S hj
  exact Go.step (fun t q => X.baloadBytes hx (j := j) (v := v) (by rw [eT]; exact Ar.1) (State.isArrayOf_alike hZ.alike Ar.2.1) Ar.2.2 hin (H.at hin hv) (g := mkF m pc Ls (.int j :: .ref a :: rest)) rfl rfl (hb hby hd) t q) K
theorem g_laload (X : Stand p l e R s m args below meth c T locs k n) (hx : p.tables.exec = Jvm.exec) (hby : c.code = code) (hZ : Z.Warmed39 s.vm) (eT : T.heap = h) {a : Addr} {kc : ClassId} {z : Int32} {vs : List Value} {dv : Value} (V : Arv Z h a kc .long z vs dv) {j : Int32} (v : Value) (hj : ¬ j < 0 ∧ j < z) (hv : vs.getD j.toNatClampNeg dv = v) {rest : List Value} (hd : decode code pc = .ok (.laload, 1)) (K : Go p e below G (T.setTop (mkF m (pc + 1) Ls (v :: rest)))) : Go p e below G (T.setTop (mkF m pc Ls (.int j :: .ref a :: rest))) := by
  obtain ⟨cl, Ar, q1, S, M, H, F⟩ := V
  have hin := inb_of S hj
  exact Go.step (fun t q => X.laload hx (j := j) (v := v) (by rw [eT]; exact Ar.1) (State.isArrayOf_alike hZ.alike Ar.2.1) Ar.2.2 hin (H.at hin hv) (g := mkF m pc Ls (.int j :: .ref a :: rest)) rfl rfl (hb hby hd) t q) K
theorem g_aaload (X : Stand p l e R s m args below meth c T locs k n) (hx : p.tables.exec = Jvm.exec) (hby : c.code = code) (hZ : Z.Warmed39 s.vm) (eT : T.heap = h) {a : Addr} {kc : ClassId} {ty : FieldType} {z : Int32} {vs : List Value} {dv : Value} (V : Arv Z h a kc ty z vs dv) (hty : ty.isReference = true) {j : Int32} (v : Value) (hj : ¬ j < 0 ∧ j < z) (hv : vs.getD j.toNatClampNeg dv = v) {rest : List Value} (hd : decode code pc = .ok (.aaload, 1)) (K : Go p e below G (T.setTop (mkF m (pc + 1) Ls (v :: rest)))) : Go p e below G (T.setTop (mkF m pc Ls (.int j :: .ref a :: rest))) := by
  obtain ⟨cl, Ar, q1, S, M, H, F⟩ := V
  have hin := inb_of S hj
  exact Go.step (fun t q => X.aaload hx (j := j) (v := v) (by rw [eT]; exact Ar.1) (State.isArrayOf_alike hZ.alike Ar.2.1) hty Ar.2.2 hin (H.at hin hv) (g := mkF m pc Ls (.int j :: .ref a :: rest)) rfl rfl (hb hby hd) t q) K
theorem g_arraylength (X : Stand p l e R s m args below meth c T locs k n) (hx : p.tables.exec = Jvm.exec) (hby : c.code = code) (hZ : Z.Warmed39 s.vm) (eT : T.heap = h) {a : Addr} {kc : ClassId} {ty : FieldType} {z : Int32} {vs : List Value} {dv : Value} (V : Arv Z h a kc ty z vs dv) {rest : List Value} (hd : decode code pc = .ok (.arraylength, 1)) (K : Go p e below G (T.setTop (mkF m (pc + 1) Ls (.int z :: rest)))) : Go p e below G (T.setTop (mkF m pc Ls (.ref a :: rest))) := by
  obtain ⟨cl, Ar, q1, S, M, H, F⟩ := V
  refine Go.step (fun t q => X.arraylength hx (by rw [eT]; exact Ar.1) (State.isArrayOf_alike hZ.alike Ar.2.1) (g := mkF m pc Ls (.ref a :: rest)) rfl rfl (hb hby hd) t q) ?_
  rw [len_of S M]
  exact K
theorem g_checkcast (X : Stand p l e R s m args below meth c T locs k n) (hx : p.tables.exec = Jvm.exec) (hby : c.code = code) (hZ : Z.Warmed39 s.vm) {own : String} (hown : s.vm.findClass own = some m.cls) {C : String} {index : Nat} (w : (Cond.classLink own index C).before a0 Z = true) (eT : T.heap = h) {a : Addr} (I : Ins Z h a C true) {rest : List Value} (hd : decode code pc = .ok (.checkcast index, 3)) (K : ∀ T', Stand p l e R s m args below meth c T' locs k n → T'.heap = h → Go p e below G (T'.setTop (mkF m (pc + 3) Ls (.ref a :: rest)))) : Go p e below G (T.setTop (mkF m pc Ls (.ref a :: rest))) := by
  obtain ⟨T', X', e', q⟩ := castY X hx hZ hown w eT I (g := mkF m pc Ls (.ref a :: rest)) rfl rfl (hb hby hd)
  exact Go.step q (K T' X' e')
theorem g_instanceof (X : Stand p l e R s m args below meth c T locs k n) (hx : p.tables.exec = Jvm.exec) (hby : c.code = code) (hZ : Z.Warmed39 s.vm) {own : String} (hown : s.vm.findClass own = some m.cls) {C : String} {index : Nat} (w : (Cond.classLink own index C).before a0 Z = true) (eT : T.heap = h) {a : Addr} (I : Ins Z h a C true) {rest : List Value} (hd : decode code pc = .ok (.instanceof index, 3)) (K : ∀ T', Stand p l e R s m args below meth c T' locs k n → T'.heap = h → Go p e below G (T'.setTop (mkF m (pc + 3) Ls (.int 1 :: rest)))) : Go p e below G (T.setTop (mkF m pc Ls (.ref a :: rest))) := by
  obtain ⟨T', X', e', q⟩ := instY X hx hZ hown w eT I (g := mkF m pc Ls (.ref a :: rest)) rfl rfl (hb hby hd)
  exact Go.step q (K T' X' e')
theorem g_instNo (X : Stand p l e R s m args below meth c T locs k n) (hx : p.tables.exec = Jvm.exec) (hby : c.code = code) (hZ : Z.Warmed39 s.vm) {own : String} (hown : s.vm.findClass own = some m.cls) {C K : String} {index : Nat} (w : (Cond.classLink own index K).before a0 Z = true) (eT : T.heap = h) {a : Addr} (E : Exa Z h a C) (F : ∃ c t, Z.vm.findClass C = some c ∧ Z.vm.findClass K = some t ∧ Z.vm.assignable c t = false) {rest : List Value} (hd : decode code pc = .ok (.instanceof index, 3)) (K' : ∀ T', Stand p l e R s m args below meth c T' locs k n → T'.heap = h → Go p e below G (T'.setTop (mkF m (pc + 3) Ls (.int 0 :: rest)))) : Go p e below G (T.setTop (mkF m pc Ls (.ref a :: rest))) := by
  obtain ⟨T', X', e', q⟩ := instNo X hx hZ hown w eT E F (g := mkF m pc Ls (.ref a :: rest)) rfl rfl (hb hby hd)
  exact Go.step q (K' T' X' e')
theorem g_instanceofNull (X : Stand p l e R s m args below meth c T locs k n) (hx : p.tables.exec = Jvm.exec) (hby : c.code = code) {index : Nat} {rest : List Value} (hd : decode code pc = .ok (.instanceof index, 3)) (K : Go p e below G (T.setTop (mkF m (pc + 3) Ls (.int 0 :: rest)))) : Go p e below G (T.setTop (mkF m pc Ls (.null :: rest))) := Go.step (fun t q => X.instanceofNull hx (g := mkF m pc Ls (.null :: rest)) rfl rfl (hb hby hd) t q) K
theorem g_checkcastNull (X : Stand p l e R s m args below meth c T locs k n) (hx : p.tables.exec = Jvm.exec) (hby : c.code = code) {index : Nat} {rest : List Value} (hd : decode code pc = .ok (.checkcast index, 3)) (K : Go p e below G (T.setTop (mkF m (pc + 3) Ls (.null :: rest)))) : Go p e below G (T.setTop (mkF m pc Ls (.null :: rest))) := Go.step (fun t q => X.checkcastNull hx (g := mkF m pc Ls (.null :: rest)) rfl rfl (hb hby hd) t q) K
theorem g_initO (X : Stand p l e R s m args below meth c T locs k n) (hx : p.tables.exec = Jvm.exec) (hby : c.code = code) (hZ : Z.Warmed39 s.vm) {own : String} (hown : s.vm.findClass own = some m.cls) {idx : Nat} (w1 : (Cond.methodLink own idx Lib.objectInit).before a0 Z = true) (w2 : (Cond.instanceMethod Lib.objectInit).before a0 Z = true) (w3 : (Cond.code Lib.objectInit ⟨#[0xb1]⟩ 1 none).before a0 Z = true) (eT : T.heap = h) (hsize : Ls.size = c.maxLocals) {a : Addr} {rest : List Value} (hf : 1 ≤ R.frames) (hl : (rest.map fun v => v.category).sum + 12 ≤ R.locals) (hd : decode code pc = .ok (.invokespecial idx, 3)) (K : ∀ T', Stand p l e R s m args below meth c T' locs k n → T'.heap = h → Go p e below G (T'.setTop (mkF m (pc + 3) Ls rest))) : Go p e below G (T.setTop (mkF m pc Ls (.ref a :: rest))) := by
  obtain ⟨T', X', e', q⟩ := initO X hx hZ hown w1 w2 w3 eT (g := mkF m pc Ls (.ref a :: rest)) rfl hsize rfl (hb hby hd) hf (W := (rest.map fun v => v.category).sum) (by show 2 * 0 + _ ≤ _; omega) hl
  exact Go.step q (K T' X' e')
theorem g_static (X : Stand p l e R s m args below meth c T locs k n) (hx : p.tables.exec = Jvm.exec) (hby : c.code = code) (hZ : Z.Warmed39 s.vm) {own : String} (hown : s.vm.findClass own = some m.cls) {index : Nat} {y : MethodName} {bytes : ByteArray} {maxL : Nat} {ret : Option FieldType} {rm : Room} {as' : Array Value} {Q : Option Value → Heap → List Loc → Prop} (hM : MetFree l y (head1 [Cond.code y bytes maxL ret] rm) (fun a U => a = as' ∧ Z.Warmed39 U.vm ∧ U.heap = h) (fun _ _ _ _ _ => True) (fun _ U o U' => RetG U Q rm.cells rm.slots U' o)) (wl : (Cond.methodLink own index y).before a0 Z = true) (ws : (Cond.static y).before a0 Z = true) (wz : (Cond.initialized y.cls).before a0 Z = true) (wc : (Cond.code y bytes maxL ret).before a0 Z = true) (hy : y.cls ≠ "java/lang/invoke/MethodHandle" ∧ y.cls ≠ "java/lang/invoke/VarHandle") (eT : T.heap = h) (hsize : Ls.size = c.maxLocals) (argsL : List Value) {rest : List Value} (hlen : ∀ sig, parseMethodDescriptor y.desc = some sig → argsL.length = sig.parameters.length) (has : argsL.toArray = as') (hst : st = argsL.reverse ++ rest) (hf : rm.frames + 1 ≤ R.frames) (hl : (rest.map fun v => v.category).sum + (maxL + 11) + rm.locals ≤ R.locals) (hc : k + rm.cells ≤ R.cells) (hs : n + rm.slots ≤ R.slots) (hd : decode code pc = .ok (.invokestatic index, 3)) (K : ∀ v T' L, Stand p l e R s m args below meth c T' (locs ++ L) (k + rm.cells) (n + rm.slots) → Q v T'.heap L → Go p e below G (T'.setTop (mkF m (pc + 3) Ls (v.toList ++ rest)))) : Go p e below G (T.setTop (mkF m pc Ls st)) := by
  obtain ⟨v, _, ⟨T', L', k', n'⟩, -, X', ⟨L, hq, l1, l2, l3⟩, q⟩ := Jvm.LawKit.callS X hx (y := y) hown (mvT hZ wl) (mvT hZ ws) (mvT hZ wz) (mvT hZ wc) hy (backOf (W := (rest.map fun v => v.category).sum) hM hZ wc wz hf hl) (g := mkF m pc Ls st) rfl hsize (argsL := argsL) (rest := rest) hlen hst (by show 2 * 0 + _ ≤ _; omega) (hb hby hd) (fun _ _ => ⟨has, eT, hc, hs⟩)
  dsimp only [Pt.U, Pt.locs, Pt.cells, Pt.slots] at X' l1 l2 l3 q hq
  subst l1 l2 l3
  exact Go.step q (K v T' L X' hq)
theorem g_special (X : Stand p l e R s m args below meth c T locs k n) (hx : p.tables.exec = Jvm.exec) (hby : c.code = code) (hZ : Z.Warmed39 s.vm) {own : String} (hown : s.vm.findClass own = some m.cls) {index : Nat} {y : MethodName} {bytes : ByteArray} {maxL : Nat} {ret : Option FieldType} {rm : Room} {as' : Array Value} {Q : Option Value → Heap → List Loc → Prop} (hM : MetFree l y (head1 [Cond.code y bytes maxL ret] rm) (fun a U => a = as' ∧ Z.Warmed39 U.vm ∧ U.heap = h) (fun _ _ _ _ _ => True) (fun _ U o U' => RetG U Q rm.cells rm.slots U' o)) (hy1 : y.name = "<init>") (hret : ret = none) (wl : (Cond.methodLink own index y).before a0 Z = true) (ws : (Cond.instanceMethod y).before a0 Z = true) (wz : (Cond.initialized y.cls).before a0 Z = true) (wc : (Cond.code y bytes maxL ret).before a0 Z = true) (hy : y.cls ≠ "java/lang/invoke/MethodHandle" ∧ y.cls ≠ "java/lang/invoke/VarHandle") (eT : T.heap = h) (hsize : Ls.size = c.maxLocals) {a : Addr} (argsL : List Value) {rest : List Value} (hlen : ∀ sig, parseMethodDescriptor y.desc = some sig → argsL.length = sig.parameters.length) (has : (.ref a :: argsL).toArray = as') (hst : st = argsL.reverse ++ .ref a :: rest) (hf : rm.frames + 1 ≤ R.frames) (hl : (rest.map fun v => v.category).sum + (maxL + 11) + rm.locals ≤ R.locals) (hc : k + rm.cells ≤ R.cells) (hs : n + rm.slots ≤ R.slots) (hd : decode code pc = .ok (.invokespecial index, 3)) (K : ∀ v T' L, Stand p l e R s m args below meth c T' (locs ++ L) (k + rm.cells) (n + rm.slots) → Q v T'.heap L → Go p e below G (T'.setTop (mkF m (pc + 3) Ls (v.toList ++ rest)))) : Go p e below G (T.setTop (mkF m pc Ls st)) := by
  subst hret
  obtain ⟨v, _, ⟨T', L', k', n'⟩, -, X', ⟨L, hq, l1, l2, l3⟩, q⟩ := X.specialBack hx (y := y) hy1 hown (mvT hZ wl) (mvT hZ ws) (mvT hZ wc) hy (backOf (W := (rest.map fun v => v.category).sum) hM hZ wc wz hf hl) (g := mkF m pc Ls st) rfl hsize (Steps.refl _) (a := a) (argsL := argsL) (rest := rest) hlen hst (by show 2 * 0 + _ ≤ _; omega) (hb hby hd) (fun _ _ => ⟨has, eT, hc, hs⟩)
  dsimp only [Pt.U, Pt.locs, Pt.cells, Pt.slots] at X' l1 l2 l3 q hq
  subst l1 l2 l3
  exact Go.step (fun t r => q.trans r) (K v T' L X' hq)
theorem g_virtual (X : Stand p l e R s m args below meth c T locs k n) (hx : p.tables.exec = Jvm.exec) (hby : c.code = code) (hZ : Z.Warmed39 s.vm) {own : String} (hown : s.vm.findClass own = some m.cls) {C : String} {index : Nat} {z : MethodName} {y : MethodName} {bytes : ByteArray} {maxL : Nat} {ret : Option FieldType} {rm : Room} {as' : Array Value} {Q : Option Value → Heap → List Loc → Prop} (hM : MetFree l y (head1 [Cond.code y bytes maxL ret] rm) (fun a U => a = as' ∧ Z.Warmed39 U.vm ∧ U.heap = h) (fun _ _ _ _ _ => True) (fun _ U o U' => RetG U Q rm.cells rm.slots U' o)) (wl : (Cond.methodLink own index z).before a0 Z = true) (wd : (Cond.declares z).before a0 Z = true) (hnf : NotFace s z) (wsel : (Cond.selects C z y).before a0 Z = true) (ws : (Cond.instanceMethod y).before a0 Z = true) (wz : (Cond.initialized y.cls).before a0 Z = true) (wc : (Cond.code y bytes maxL ret).before a0 Z = true) (hy : z.cls ≠ "java/lang/invoke/MethodHandle" ∧ z.cls ≠ "java/lang/invoke/VarHandle") (eT : T.heap = h) {a : Addr} (E : Exa Z h a C) (hsize : Ls.size = c.maxLocals) (argsL : List Value) {rest : List Value} (hlen : ∀ sig, parseMethodDescriptor z.desc = some sig → argsL.length = sig.parameters.length) (has : (.ref a :: argsL).toArray = as') (hst : st = argsL.reverse ++ .ref a :: rest) (hf : rm.frames + 1 ≤ R.frames) (hl : (rest.map fun v => v.category).sum + (maxL + 11) + rm.locals ≤ R.locals) (hc : k + rm.cells ≤ R.cells) (hs : n + rm.slots ≤ R.slots) (hd : decode code pc = .ok (.invokevirtual index, 3)) (K : ∀ v T' L, Stand p l e R s m args below meth c T' (locs ++ L) (k + rm.cells) (n + rm.slots) → Q v T'.heap L → Go p e below G (T'.setTop (mkF m (pc + 3) Ls (v.toList ++ rest)))) : Go p e below G (T.setTop (mkF m pc Ls st)) := by
  obtain ⟨cq, kq, qa, qb, qc⟩ := isOf hZ eT E
  obtain ⟨v, _, ⟨T', L', k', n'⟩, -, X', ⟨L, hq, l1, l2, l3⟩, q⟩ := X.virtualBack hx (y := z) (z := y) hown (mvT hZ wl) (mvT hZ wd) hnf (mvT hZ wsel) (mvT hZ ws) hy (backOf (W := (rest.map fun v => v.category).sum) hM hZ wc wz hf hl) qa qc (g := mkF m pc Ls st) rfl hsize (Steps.refl _) (argsL := argsL) (rest := rest) hlen hst (by show 2 * 0 + _ ≤ _; omega) (hb hby hd) (fun _ _ => ⟨has, eT, hc, hs⟩)
  dsimp only [Pt.U, Pt.locs, Pt.cells, Pt.slots] at X' l1 l2 l3 q hq
  subst l1 l2 l3
  exact Go.step (fun t r => q.trans r) (K v T' L X' hq)
theorem g_private (X : Stand p l e R s m args below meth c T locs k n) (hx : p.tables.exec = Jvm.exec) (hby : c.code = code) (hZ : Z.Warmed39 s.vm) {own : String} (hown : s.vm.findClass own = some m.cls) {index j : Nat} {y : MethodName} {bytes : ByteArray} {maxL : Nat} {ret : Option FieldType} {rm : Room} {as' : Array Value} {Q : Option Value → Heap → List Loc → Prop} (hM : MetFree l y (head1 [Cond.code y bytes maxL ret] rm) (fun a U => a = as' ∧ Z.Warmed39 U.vm ∧ U.heap = h) (fun _ _ _ _ _ => True) (fun _ U o U' => RetG U Q rm.cells rm.slots U' o)) (wl : (Cond.methodLink own index y).before a0 Z = true) (ws : (Cond.instanceMethod y).before a0 Z = true) (wi : (Cond.instantiable y.cls j).before a0 Z = true) (wp : (Cond.privateMethod y).before a0 Z = true) (wz : (Cond.initialized y.cls).before a0 Z = true) (wc : (Cond.code y bytes maxL ret).before a0 Z = true) (hy : y.cls ≠ "java/lang/invoke/MethodHandle" ∧ y.cls ≠ "java/lang/invoke/VarHandle") (eT : T.heap = h) {a : Addr} {C : String} (E : Exa Z h a C) (hsize : Ls.size = c.maxLocals) (argsL : List Value) {rest : List Value} (hlen : ∀ sig, parseMethodDescriptor y.desc = some sig → argsL.length = sig.parameters.length) (has : (.ref a :: argsL).toArray = as') (hst : st = argsL.reverse ++ .ref a :: rest) (hf : rm.frames + 1 ≤ R.frames) (hl : (rest.map fun v => v.category).sum + (maxL + 11) + rm.locals ≤ R.locals) (hc : k + rm.cells ≤ R.cells) (hs : n + rm.slots ≤ R.slots) (hd : decode code pc = .ok (.invokevirtual index, 3)) (K : ∀ v T' L, Stand p l e R s m args below meth c T' (locs ++ L) (k + rm.cells) (n + rm.slots) → Q v T'.heap L → Go p e below G (T'.setTop (mkF m (pc + 3) Ls (v.toList ++ rest)))) : Go p e below G (T.setTop (mkF m pc Ls st)) := by
  obtain ⟨cq, q1, q2⟩ := E.cell
  obtain ⟨v, _, ⟨T', L', k', n'⟩, -, X', ⟨L, hq, l1, l2, l3⟩, q⟩ := X.privateBack hx (y := y) hown (mvT hZ wl) (mvT hZ ws) (selOf (mvT hZ wi) (mvP hZ wp) (mvT hZ ws) hy) (Cond.privateMethod_at (mvP hZ wp (args := #[]))) (mvT hZ wc) hy (backOf (W := (rest.map fun v => v.category).sum) hM hZ wc wz hf hl) (g := mkF m pc Ls st) rfl hsize (Steps.refl _) (a := a) (by rw [eT]; exact q1) q2 (argsL := argsL) (rest := rest) hlen hst (by show 2 * 0 + _ ≤ _; omega) (hb hby hd) (fun _ _ => ⟨has, eT, hc, hs⟩)
  dsimp only [Pt.U, Pt.locs, Pt.cells, Pt.slots] at X' l1 l2 l3 q hq
  subst l1 l2 l3
  exact Go.step (fun t r => q.trans r) (K v T' L X' hq)
theorem g_interface (X : Stand p l e R s m args below meth c T locs k n) (hx : p.tables.exec = Jvm.exec) (hby : c.code = code) (hZ : Z.Warmed39 s.vm) {own : String} (hown : s.vm.findClass own = some m.cls) {C : String} {index count : Nat} {z : MethodName} {y : MethodName} {bytes : ByteArray} {maxL : Nat} {ret : Option FieldType} {rm : Room} {as' : Array Value} {Q : Option Value → Heap → List Loc → Prop} (hM : MetFree l y (head1 [Cond.code y bytes maxL ret] rm) (fun a U => a = as' ∧ Z.Warmed39 U.vm ∧ U.heap = h) (fun _ _ _ _ _ => True) (fun _ U o U' => RetG U Q rm.cells rm.slots U' o)) (wl : (Cond.methodLink own index z).before a0 Z = true) (wd : (Cond.declares z).before a0 Z = true) (wf : (Cond.interfaceMethod z.cls z.cls z.name z.desc).before a0 Z = true) (wsel : (Cond.selects C z y).before a0 Z = true) (ws : (Cond.instanceMethod y).before a0 Z = true) (wp : (Cond.publicMethod y).before a0 Z = true) (wu : (Cond.unhidden C z.name z.desc).before a0 Z = true) (wca : (Cond.castable C z.cls).before a0 Z = true) (wz : (Cond.initialized y.cls).before a0 Z = true) (wc : (Cond.code y bytes maxL ret).before a0 Z = true) (hy : z.cls ≠ "java/lang/invoke/MethodHandle" ∧ z.cls ≠ "java/lang/invoke/VarHandle") (eT : T.heap = h) {a : Addr} (E : Exa Z h a C) (hsize : Ls.size = c.maxLocals) (argsL : List Value) {rest : List Value} (hlen : ∀ sig, parseMethodDescriptor z.desc = some sig → argsL.length = sig.parameters.length) (has : (.ref a :: argsL).toArray = as') (hst : st = argsL.reverse ++ .ref a :: rest) (hf : rm.frames + 1 ≤ R.frames) (hl : (rest.map fun v => v.category).sum + (maxL + 11) + rm.locals ≤ R.locals) (hc : k + rm.cells ≤ R.cells) (hs : n + rm.slots ≤ R.slots) (hd : decode code pc = .ok (.invokeinterface index count, 5)) (K : ∀ v T' L, Stand p l e R s m args below meth c T' (locs ++ L) (k + rm.cells) (n + rm.slots) → Q v T'.heap L → Go p e below G (T'.setTop (mkF m (pc + 5) Ls (v.toList ++ rest)))) : Go p e below G (T.setTop (mkF m pc Ls st)) := by
  obtain ⟨cq, kq, qa, qb, qc⟩ := isOf hZ eT E
  obtain ⟨v, _, ⟨T', L', k', n'⟩, -, X', ⟨L, hq, l1, l2, l3⟩, q⟩ := X.interfaceBack hx (xi := z) (y := y) hown (mvT hZ wl) (mvT hZ wd) (mvT hZ wf (by simp [Cond.onTables, Cond.keepsFace, Cond.keeps, Cond.steady, Cond.faceAtom, hy.1, hy.2])) (mvT hZ wsel) (mvT hZ ws) (mvT hZ wp) (mvT hZ wu) (mvT hZ wca) hy (backOf (W := (rest.map fun v => v.category).sum) hM hZ wc wz hf hl) qa qb qc (g := mkF m pc Ls st) rfl hsize (Steps.refl _) (argsL := argsL) (rest := rest) hlen hst (by show 2 * 0 + _ ≤ _; omega) (hb hby hd) (fun _ _ => ⟨has, eT, hc, hs⟩)
  dsimp only [Pt.U, Pt.locs, Pt.cells, Pt.slots] at X' l1 l2 l3 q hq
  subst l1 l2 l3
  exact Go.step (fun t r => q.trans r) (K v T' L X' hq)
theorem g_ret (X : Stand p l e R s m args below meth c T locs k n) (hx : p.tables.exec = Jvm.exec) (hby : c.code = code) (hret : meth.sig.returnType = none) (hlocks : meth.locks = false) {Q : Option Value → Heap → List Loc → Prop} {cells slots : Nat} (hd : decode code pc = .ok (.return_, 1)) (eT : T.heap = h) (hk : k ≤ cells) (hn : n ≤ slots) (hq : Q none h locs) : Go p e below (RetG s Q cells slots) (T.setTop (mkF m pc Ls [])) := Go.leave X (v := none) (fun _ => rfl) hlocks eT hq hk hn (fun fs hr => X.returnOut hx hret (hb hby hd) hr)
theorem g_iret (X : Stand p l e R s m args below meth c T locs k n) (hx : p.tables.exec = Jvm.exec) (hby : c.code = code) {z : Int32} {rest : List Value} (hret : meth.sig.returnType = some .int) (hlocks : meth.locks = false) {Q : Option Value → Heap → List Loc → Prop} {cells slots : Nat} (hd : decode code pc = .ok (.ireturn, 1)) (eT : T.heap = h) (hk : k ≤ cells) (hn : n ≤ slots) (hq : Q (some (.int z)) h locs) : Go p e below (RetG s Q cells slots) (T.setTop (mkF m pc Ls (.int z :: rest))) := Go.leave X (v := some (.int z)) (fun q => by rw [hret] at q; cases q) hlocks eT hq hk hn (fun fs hr => retOut X hx (t := .int) hret rfl (Or.inl ⟨rfl, Or.inl rfl, z, rfl⟩) (hb hby hd) hr)
theorem g_nret (X : Stand p l e R s m args below meth c T locs k n) (hx : p.tables.exec = Jvm.exec) (hby : c.code = code) {z : Int32} {rest : List Value} {t : FieldType} (ht : t = .boolean ∨ t = .byte ∨ t = .char ∨ t = .short) (hret : meth.sig.returnType = some t) (hlocks : meth.locks = false) {Q : Option Value → Heap → List Loc → Prop} {cells slots : Nat} (hd : decode code pc = .ok (.ireturn, 1)) (eT : T.heap = h) (hk : k ≤ cells) (hn : n ≤ slots) (hq : Q (some (.int (nar t z))) h locs) : Go p e below (RetG s Q cells slots) (T.setTop (mkF m pc Ls (.int z :: rest))) := Go.leave X (v := some (.int (nar t z))) (fun q => by rw [hret] at q; cases q) hlocks eT hq hk hn (fun fs hr => retN X hx (t := t) hret ht (hb hby hd) hr)
theorem g_lret (X : Stand p l e R s m args below meth c T locs k n) (hx : p.tables.exec = Jvm.exec) (hby : c.code = code) {z : Int64} {rest : List Value} (hret : meth.sig.returnType = some .long) (hlocks : meth.locks = false) {Q : Option Value → Heap → List Loc → Prop} {cells slots : Nat} (hd : decode code pc = .ok (.lreturn, 1)) (eT : T.heap = h) (hk : k ≤ cells) (hn : n ≤ slots) (hq : Q (some (.long z)) h locs) : Go p e below (RetG s Q cells slots) (T.setTop (mkF m pc Ls (.long z :: rest))) := Go.leave X (v := some (.long z)) (fun q => by rw [hret] at q; cases q) hlocks eT hq hk hn (fun fs hr => retOut X hx (t := .long) hret rfl (Or.inr (Or.inl ⟨rfl, rfl, z, rfl⟩)) (hb hby hd) hr)
theorem g_aret (X : Stand p l e R s m args below meth c T locs k n) (hx : p.tables.exec = Jvm.exec) (hby : c.code = code) {z : Value} {rest : List Value} {t : FieldType} (ht : t.isReference = true) (hz : z.isRef = true) (hnar : narrow t z = z) (hret : meth.sig.returnType = some t) (hlocks : meth.locks = false) {Q : Option Value → Heap → List Loc → Prop} {cells slots : Nat} (hd : decode code pc = .ok (.areturn, 1)) (eT : T.heap = h) (hk : k ≤ cells) (hn : n ≤ slots) (hq : Q (some z) h locs) : Go p e below (RetG s Q cells slots) (T.setTop (mkF m pc Ls (z :: rest))) := Go.leave X (v := some z) (fun q => by rw [hret] at q; cases q) hlocks eT hq hk hn (fun fs hr => retOut X hx (t := t) hret hnar (Or.inr (Or.inr (Or.inr (Or.inr ⟨rfl, ht, hz⟩)))) (hb hby hd) hr)
end
end Jvm.Own

namespace Jvm.Own
open Sem ClassFile Op Lib Jvm.Stand Jvm.Free Jvm.LawKit Jvm.RoadKit
def RetW (s : State) (Q : Option Value → Heap → List Loc → Prop) (cells slots : Nat) (s₂ : State) (o : Outcome) : Prop := ∃ v L, o = .returned v ∧ Q v s₂.heap L ∧ ReturnedEndW s o s₂ L cells slots
theorem own_widen {s u : State} {o : Outcome} {L L' : List Loc} {a b c d : Nat} (hq : ReturnedEndW s o u L a b) (N : Fr s.heap.size L) (hc : a ≤ c) (hd : b ≤ d) : ReturnedEndW s o u L' c d :=
  ⟨hq.1, hq.2.1, hq.2.2.1, (hq.2.2.2.sift fun y hy => Or.inr (N y hy)).mono hc hd⟩
section
variable {p : Program} {l : Launch} {e : Env} {R : Room} {s : State} {vm0 : Vm} {m : MethodId} {args : Array Value} {below : List Frame} {meth : Method} {c : Code} {T : State} {locs : List Loc} {k n k0 : Nat} {G : State → Outcome → Prop} {code : ByteArray} {pc : Nat} {Ls : Array Slot} {st : List Value} {Z : State} {a0 : Array Value} {h : Heap} {n0 : Nat}
theorem Go.leaveW (X : Stand p l e R (s.setVm vm0) m args below meth c T locs k n) {v : Option Value} (hv : meth.sig.returnType = none → v = none) (hlocks : meth.locks = false) {Q : Option Value → Heap → List Loc → Prop} {cells slots : Nat} {σ : State} (hS : s.Since vm0 k0) (eT : T.heap = h) (hkk : k0 ≤ h.size) (hq : Q v h locs) (hk : k ≤ cells) (hn : n ≤ slots)
    (st : ∀ fs, (∀ (f : JFrame) (acts : List Action), f.method = m → f.locked = none → f.entered = [] → (doReturn e (T.setTop f) acts v).1 = T.setFrames fs) → Steps p.tables e below σ (T.setFrames fs)) : Go p e below (RetW s Q cells slots) σ := by
  subst eT
  obtain ⟨fs, hr, hrun, hended, h1, h2, h3, h4⟩ := X.leaveW hS hkk (v := v) hv hlocks
  exact ⟨_, _, st fs hr, hrun, hended, _, _, rfl, hq, h1, h2, h3, h4.mono hk hn⟩
theorem g_retW (X : Stand p l e R (s.setVm vm0) m args below meth c T locs k n) (hx : p.tables.exec = Jvm.exec) (hby : c.code = code) (hret : meth.sig.returnType = none) (hlocks : meth.locks = false) {Q : Option Value → Heap → List Loc → Prop} {cells slots : Nat} (hS : s.Since vm0 k0) (hd : decode code pc = .ok (.return_, 1)) (eT : T.heap = h) (hkk : k0 ≤ h.size) (hk : k ≤ cells) (hn : n ≤ slots) (hq : Q none h locs) : Go p e below (RetW s Q cells slots) (T.setTop (mkF m pc Ls [])) := Go.leaveW X (v := none) (fun _ => rfl) hlocks hS eT hkk hq hk hn (fun fs hr => X.returnOut hx hret (hb hby hd) hr)
theorem g_iretW (X : Stand p l e R (s.setVm vm0) m args below meth c T locs k n) (hx : p.tables.exec = Jvm.exec) (hby : c.code = code) {z : Int32} {rest : List Value} (hret : meth.sig.returnType = some .int) (hlocks : meth.locks = false) {Q : Option Value → Heap → List Loc → Prop} {cells slots : Nat} (hS : s.Since vm0 k0) (hd : decode code pc = .ok (.ireturn, 1)) (eT : T.heap = h) (hkk : k0 ≤ h.size) (hk : k ≤ cells) (hn : n ≤ slots) (hq : Q (some (.int z)) h locs) : Go p e below (RetW s Q cells slots) (T.setTop (mkF m pc Ls (.int z :: rest))) := Go.leaveW X (v := some (.int z)) (fun q => by rw [hret] at q; cases q) hlocks hS eT hkk hq hk hn (fun fs hr => retOut X hx (t := .int) hret rfl (Or.inl ⟨rfl, Or.inl rfl, z, rfl⟩) (hb hby hd) hr)
theorem g_nretW (X : Stand p l e R (s.setVm vm0) m args below meth c T locs k n) (hx : p.tables.exec = Jvm.exec) (hby : c.code = code) {z : Int32} {rest : List Value} {t : FieldType} (ht : t = .boolean ∨ t = .byte ∨ t = .char ∨ t = .short) (hret : meth.sig.returnType = some t) (hlocks : meth.locks = false) {Q : Option Value → Heap → List Loc → Prop} {cells slots : Nat} (hS : s.Since vm0 k0) (hd : decode code pc = .ok (.ireturn, 1)) (eT : T.heap = h) (hkk : k0 ≤ h.size) (hk : k ≤ cells) (hn : n ≤ slots) (hq : Q (some (.int (nar t z))) h locs) : Go p e below (RetW s Q cells slots) (T.setTop (mkF m pc Ls (.int z :: rest))) := Go.leaveW X (v := some (.int (nar t z))) (fun q => by rw [hret] at q; cases q) hlocks hS eT hkk hq hk hn (fun fs hr => retN X hx (t := t) hret ht (hb hby hd) hr)
theorem g_lretW (X : Stand p l e R (s.setVm vm0) m args below meth c T locs k n) (hx : p.tables.exec = Jvm.exec) (hby : c.code = code) {z : Int64} {rest : List Value} (hret : meth.sig.returnType = some .long) (hlocks : meth.locks = false) {Q : Option Value → Heap → List Loc → Prop} {cells slots : Nat} (hS : s.Since vm0 k0) (hd : decode code pc = .ok (.lreturn, 1)) (eT : T.heap = h) (hkk : k0 ≤ h.size) (hk : k ≤ cells) (hn : n ≤ slots) (hq : Q (some (.long z)) h locs) : Go p e below (RetW s Q cells slots) (T.setTop (mkF m pc Ls (.long z :: rest))) := Go.leaveW X (v := some (.long z)) (fun q => by rw [hret] at q; cases q) hlocks hS eT hkk hq hk hn (fun fs hr => retOut X hx (t := .long) hret rfl (Or.inr (Or.inl ⟨rfl, rfl, z, rfl⟩)) (hb hby hd) hr)
theorem g_aretW (X : Stand p l e R (s.setVm vm0) m args below meth c T locs k n) (hx : p.tables.exec = Jvm.exec) (hby : c.code = code) {z : Value} {rest : List Value} {t : FieldType} (ht : t.isReference = true) (hz : z.isRef = true) (hnar : narrow t z = z) (hret : meth.sig.returnType = some t) (hlocks : meth.locks = false) {Q : Option Value → Heap → List Loc → Prop} {cells slots : Nat} (hS : s.Since vm0 k0) (hd : decode code pc = .ok (.areturn, 1)) (eT : T.heap = h) (hkk : k0 ≤ h.size) (hk : k ≤ cells) (hn : n ≤ slots) (hq : Q (some z) h locs) : Go p e below (RetW s Q cells slots) (T.setTop (mkF m pc Ls (z :: rest))) := Go.leaveW X (v := some z) (fun q => by rw [hret] at q; cases q) hlocks hS eT hkk hq hk hn (fun fs hr => retOut X hx (t := t) hret hnar (Or.inr (Or.inr (Or.inr (Or.inr ⟨rfl, ht, hz⟩)))) (hb hby hd) hr)
theorem g_ldcS (X : Stand p l e R (s.setVm vm0) m args below meth c T locs k n) (hx : p.tables.exec = Jvm.exec) (hby : c.code = code) (hZ : Z.Warmed39 (s.setVm vm0).vm) {own : String} (hown : (s.setVm vm0).vm.findClass own = some m.cls) {text : String} {index : Nat} (w : (Cond.stringLink own index text).before a0 Z = true) (wS : ∀ a ∈ Bundle.stringAtoms, a.before a0 Z = true) (eT : T.heap = h) (hS : s.Since vm0 k0) (hk : k0 ≤ h.size) (nn : Nat) (hnn : 4 * text.toList.length ≤ nn) (hbig : nn ≤ 536870912) (hc : k + 2 ≤ R.cells) (hl : n + (nn + 4) ≤ R.slots) (hd : decode code pc = .ok (.ldc index, 2)) (K : ∀ a T' h' k1, Stand p l e R (s.setVm T'.vm) m args below meth c T' locs (k + 2) (n + (nn + 4)) → T'.heap = h' → Ext h h' → s.Since T'.vm k1 → k1 ≤ h'.size → Z.Warmed39 (s.setVm T'.vm).vm → (s.setVm T'.vm).vm.findClass own = some m.cls → Go p e below G (T'.setTop (mkF m (pc + 2) Ls (.ref a :: st)))) : Go p e below G (T.setTop (mkF m pc Ls st)) := by
  obtain ⟨a, T', h', k1, X', e', E, hS', hk', hZ', ho', q⟩ := ldcS X hx hZ hown w wS eT hS hk (g := mkF m pc Ls st) rfl (hb hby hd) hnn hbig hc hl
  exact Go.step q (K a T' h' k1 X' e' E hS' hk' hZ' ho')
theorem g_ldcwS (X : Stand p l e R (s.setVm vm0) m args below meth c T locs k n) (hx : p.tables.exec = Jvm.exec) (hby : c.code = code) (hZ : Z.Warmed39 (s.setVm vm0).vm) {own : String} (hown : (s.setVm vm0).vm.findClass own = some m.cls) {text : String} {index : Nat} (w : (Cond.stringLink own index text).before a0 Z = true) (wS : ∀ a ∈ Bundle.stringAtoms, a.before a0 Z = true) (eT : T.heap = h) (hS : s.Since vm0 k0) (hk : k0 ≤ h.size) (nn : Nat) (hnn : 4 * text.toList.length ≤ nn) (hbig : nn ≤ 536870912) (hc : k + 2 ≤ R.cells) (hl : n + (nn + 4) ≤ R.slots) (hd : decode code pc = .ok (.ldc_w index, 3)) (K : ∀ a T' h' k1, Stand p l e R (s.setVm T'.vm) m args below meth c T' locs (k + 2) (n + (nn + 4)) → T'.heap = h' → Ext h h' → s.Since T'.vm k1 → k1 ≤ h'.size → Z.Warmed39 (s.setVm T'.vm).vm → (s.setVm T'.vm).vm.findClass own = some m.cls → Go p e below G (T'.setTop (mkF m (pc + 3) Ls (.ref a :: st)))) : Go p e below G (T.setTop (mkF m pc Ls st)) := by
  obtain ⟨a, T', h', k1, X', e', E, hS', hk', hZ', ho', q⟩ := ldcSW X hx hZ hown w wS eT hS hk (g := mkF m pc Ls st) rfl (hb hby hd) hnn hbig hc hl
  exact Go.step q (K a T' h' k1 X' e' E hS' hk' hZ' ho')
theorem g_ldcSV (X : Stand p l e R (s.setVm vm0) m args below meth c T locs k n) (hx : p.tables.exec = Jvm.exec) (hby : c.code = code) (hZ : Z.Warmed39 (s.setVm vm0).vm) {own : String} (hown : (s.setVm vm0).vm.findClass own = some m.cls) {text : String} {index : Nat} (w : (Cond.stringLink own index text).before a0 Z = true) (wS : ∀ a ∈ Bundle.stringAtoms, a.before a0 Z = true) (eT : T.heap = h) (hS : s.Since vm0 k0) (hk : k0 ≤ h.size) (N : Fr s.heap.size locs) (hkeep : ∀ (b : Addr) (cl : Cell), Z.heap[b]? = some cl → s.heap[b]? = some cl) (hI : vm0.interned = Z.vm.interned) (hh : Jvm.Lit.constHeld Z own index) (hcw : Jvm.Lit.compactW.before a0 Z = true) (vs : List Value) (z : Int32) (ht : (∀ c ∈ text.toList, c.toNat < 256) ∧ text.toList.map (fun c => Value.int (Jvm.Lit.byteI c.toNat.toUInt16)) = vs) (hz : ¬ z < 0) (hlz : z.toNatClampNeg = vs.length) (nn : Nat) (hnn : 4 * text.toList.length ≤ nn) (hbig : nn ≤ 536870912) (hc : k + 2 ≤ R.cells) (hl : n + (nn + 4) ≤ R.slots) (hd : decode code pc = .ok (.ldc index, 2)) (K : ∀ a T' h' k1 b kb, Stand p l e R (s.setVm T'.vm) m args below meth c T' locs (k + 2) (n + (nn + 4)) → T'.heap = h' → Ext h h' → s.Since T'.vm k1 → k1 ≤ h'.size → Z.Warmed39 (s.setVm T'.vm).vm → (s.setVm T'.vm).vm.findClass own = some m.cls → Exa Z h' a "java/lang/String" → Fld Z h' a "java/lang/String" "coder" "B" (.int 0) → Fld Z h' a "java/lang/String" "value" "[B" (.ref b) → Arv Z h' b kb .byte z vs (.int 0) → Lit (s.setVm T'.vm) own index a → Go p e below G (T'.setTop (mkF m (pc + 2) Ls (.ref a :: st)))) : Go p e below G (T.setTop (mkF m pc Ls st)) := by
  obtain ⟨a, T', h', k1, b, kb, X', e', E, hS', hk', hZ', ho', r1, r2, r3, r4, -, -, -, r5, q⟩ := ldcSVL X hx hZ hown w wS eT hS hk N hkeep (Ts := []) ⟨#[], by rw [hI]; simp, fun q hq => by simp at hq⟩ (by simp) hh hcw ht hz hlz (g := mkF m pc Ls st) rfl (hb hby hd) hnn hbig hc hl
  exact Go.step q (K a T' h' k1 b kb X' e' E hS' hk' hZ' ho' r1 r2 r3 r4 r5)
theorem g_ldcAgain (X : Stand p l e R (s.setVm vm0) m args below meth c T locs k n) (hx : p.tables.exec = Jvm.exec) (hby : c.code = code) (hZ : Z.Warmed39 (s.setVm vm0).vm) {own : String} (hown : (s.setVm vm0).vm.findClass own = some m.cls) {text : String} {index : Nat} (w : (Cond.stringLink own index text).before a0 Z = true) {a : Addr} (L : Lit (s.setVm vm0) own index a) (hd : decode code pc = .ok (.ldc index, 2)) (K : Go p e below G (T.setTop (mkF m (pc + 2) Ls (.ref a :: st)))) : Go p e below G (T.setTop (mkF m pc Ls st)) := Go.step (ldcAgain X hx hZ hown w L (g := mkF m pc Ls st) rfl (hb hby hd)) K
theorem backW {y : MethodName} {bytes : ByteArray} {maxL : Nat} {ret : Option FieldType} {rm : Room} {len W : Nat} {as' : Array Value} {Q : Option Value → Heap → List Loc → Prop} {PV : Vm → Prop}
    (hM : MetFree l y (head1 [Cond.code y bytes maxL ret] rm) (fun a U => a = as' ∧ PV U.vm ∧ U.heap = h) (fun _ _ _ _ _ => True) (fun _ U o U' => RetW U Q rm.cells rm.slots U' o))
    (hZ : Z.Warmed39 s.vm) (hPV : ∀ vm, s.WarmedH vm → PV vm) (wc : (Cond.code y bytes maxL ret).before a0 Z = true) (wz : (Cond.initialized y.cls).before a0 Z = true) (hf : rm.frames + 1 ≤ R.frames) (hl : W + (maxL + 11) + rm.locals ≤ R.locals) :
    BackS l R p e below s args y len W (fun A a => a = as' ∧ A.U.heap = h ∧ A.cells + rm.cells ≤ R.cells ∧ A.slots + rm.slots ≤ R.slots)
      (fun A _ v B => ∃ L, Q v B.U.heap L ∧ B.locs = A.locs ++ L ∧ B.cells = A.cells + rm.cells ∧ B.slots = A.slots + rm.slots) :=
  BackS.of_freeW (bytes := bytes) (maxL := maxL) (ret := ret) (E := fun _ _ o t L k n => k = rm.cells ∧ n = rm.slots ∧ ∃ v, o = .returned v ∧ Q v t.heap L) hM hf hl
    (fun m meth c A a Y hp => have hU : Z.Warmed39 A.U.vm := wtrans hZ Y.warmed
      ⟨by show (Cond.and _ .tt).before a A.U = true; rw [Cond.before_and, mv hU wc]; rfl, mv hU wc, mv hU wz, hp.2.2.1, hp.2.2.2⟩)
    (fun m meth c A a g mk Y hp => ⟨hp.1, hPV _ Y.warmed, hp.2.1⟩) (fun _ _ _ _ _ _ _ _ _ => trivial)
    (fun _ _ _ _ ⟨v, L, h1, h2, h3⟩ => ⟨L, _, _, h3, rfl, rfl, v, h1, h2⟩)
    (fun m meth c A a g mk v t L k n Y hp _ _ ⟨e1, e2, v', e3, e4⟩ => by cases e3; subst e1 e2; exact ⟨L, e4, rfl, rfl, rfl⟩)
theorem g_staticW (X : Stand p l e R (s.setVm vm0) m args below meth c T locs k n) (hx : p.tables.exec = Jvm.exec) (hby : c.code = code) (hZ : Z.Warmed39 (s.setVm vm0).vm) {own : String} (hown : (s.setVm vm0).vm.findClass own = some m.cls) {index : Nat} {y : MethodName} {bytes : ByteArray} {maxL : Nat} {ret : Option FieldType} {rm : Room} {as' : Array Value} {Q : Option Value → Heap → List Loc → Prop} {PV : Vm → Prop} (hM : MetFree l y (head1 [Cond.code y bytes maxL ret] rm) (fun a U => a = as' ∧ PV U.vm ∧ U.heap = h) (fun _ _ _ _ _ => True) (fun _ U o U' => RetW U Q rm.cells rm.slots U' o)) (hPV : ∀ vm, (s.setVm vm0).WarmedH vm → PV vm) (hS : s.Since vm0 k0) (hkk : k0 ≤ h.size) (wl : (Cond.methodLink own index y).before a0 Z = true) (ws : (Cond.static y).before a0 Z = true) (wz : (Cond.initialized y.cls).before a0 Z = true) (wc : (Cond.code y bytes maxL ret).before a0 Z = true) (hy : y.cls ≠ "java/lang/invoke/MethodHandle" ∧ y.cls ≠ "java/lang/invoke/VarHandle") (eT : T.heap = h) (hsize : Ls.size = c.maxLocals) (argsL : List Value) {rest : List Value} (hlen : ∀ sig, parseMethodDescriptor y.desc = some sig → argsL.length = sig.parameters.length) (has : argsL.toArray = as') (hst : st = argsL.reverse ++ rest) (hf : rm.frames + 1 ≤ R.frames) (hl : (rest.map fun v => v.category).sum + (maxL + 11) + rm.locals ≤ R.locals) (hc : k + rm.cells ≤ R.cells) (hs : n + rm.slots ≤ R.slots) (hd : decode code pc = .ok (.invokestatic index, 3)) (K : ∀ v T' L, Stand p l e R (s.setVm T'.vm) m args below meth c T' (locs ++ L) (k + rm.cells) (n + rm.slots) → s.Since T'.vm T'.heap.size → Z.Warmed39 (s.setVm T'.vm).vm → (s.setVm T'.vm).vm.findClass own = some m.cls → Q v T'.heap L → Go p e below G (T'.setTop (mkF m (pc + 3) Ls (v.toList ++ rest)))) : Go p e below G (T.setTop (mkF m pc Ls st)) := by
  obtain ⟨v, _, ⟨T', L', k', n'⟩, -, X', hs', hg', ⟨L, hq, l1, l2, l3⟩, q⟩ := callSS X hx (y := y) hown (mvT hZ wl) (mvT hZ ws) (mvT hZ wz) (mvT hZ wc) hy (backW (W := (rest.map fun v => v.category).sum) hM hZ hPV wc wz hf hl) (g := mkF m pc Ls st) rfl hsize (argsL := argsL) (rest := rest) hlen hst (by show 2 * 0 + _ ≤ _; omega) (hb hby hd) (fun _ _ => ⟨has, eT, hc, hs⟩)
  dsimp only [Pt.U, Pt.locs, Pt.cells, Pt.slots] at X' hs' hg' l1 l2 l3 q hq
  subst l1 l2 l3
  obtain ⟨X2, hS2, hZ2, ho2⟩ := rebS hS (Nat.le_trans hkk (by rw [← eT]; exact Nat.le_refl _)) X' hs' hg' hZ hown
  exact Go.step (fun t r => q.trans r) (K v T' L X2 hS2 hZ2 ho2 hq)
theorem g_specialW (X : Stand p l e R (s.setVm vm0) m args below meth c T locs k n) (hx : p.tables.exec = Jvm.exec) (hby : c.code = code) (hZ : Z.Warmed39 (s.setVm vm0).vm) {own : String} (hown : (s.setVm vm0).vm.findClass own = some m.cls) {index : Nat} {y : MethodName} {bytes : ByteArray} {maxL : Nat} {ret : Option FieldType} {rm : Room} {as' : Array Value} {Q : Option Value → Heap → List Loc → Prop} {PV : Vm → Prop} (hM : MetFree l y (head1 [Cond.code y bytes maxL ret] rm) (fun a U => a = as' ∧ PV U.vm ∧ U.heap = h) (fun _ _ _ _ _ => True) (fun _ U o U' => RetW U Q rm.cells rm.slots U' o)) (hPV : ∀ vm, (s.setVm vm0).WarmedH vm → PV vm) (hS : s.Since vm0 k0) (hkk : k0 ≤ h.size) (hy1 : y.name = "<init>") (hret : ret = none) (wl : (Cond.methodLink own index y).before a0 Z = true) (ws : (Cond.instanceMethod y).before a0 Z = true) (wz : (Cond.initialized y.cls).before a0 Z = true) (wc : (Cond.code y bytes maxL ret).before a0 Z = true) (hy : y.cls ≠ "java/lang/invoke/MethodHandle" ∧ y.cls ≠ "java/lang/invoke/VarHandle") (eT : T.heap = h) (hsize : Ls.size = c.maxLocals) {a : Addr} (argsL : List Value) {rest : List Value} (hlen : ∀ sig, parseMethodDescriptor y.desc = some sig → argsL.length = sig.parameters.length) (has : (.ref a :: argsL).toArray = as') (hst : st = argsL.reverse ++ .ref a :: rest) (hf : rm.frames + 1 ≤ R.frames) (hl : (rest.map fun v => v.category).sum + (maxL + 11) + rm.locals ≤ R.locals) (hc : k + rm.cells ≤ R.cells) (hs : n + rm.slots ≤ R.slots) (hd : decode code pc = .ok (.invokespecial index, 3)) (K : ∀ v T' L, Stand p l e R (s.setVm T'.vm) m args below meth c T' (locs ++ L) (k + rm.cells) (n + rm.slots) → s.Since T'.vm T'.heap.size → Z.Warmed39 (s.setVm T'.vm).vm → (s.setVm T'.vm).vm.findClass own = some m.cls → Q v T'.heap L → Go p e below G (T'.setTop (mkF m (pc + 3) Ls (v.toList ++ rest)))) : Go p e below G (T.setTop (mkF m pc Ls st)) := by
  subst hret
  obtain ⟨v, _, ⟨T', L', k', n'⟩, -, X', hs', hg', ⟨L, hq, l1, l2, l3⟩, q⟩ := X.specialBackS hx (y := y) hy1 hown (mvT hZ wl) (mvT hZ ws) (mvT hZ wc) hy (backW (W := (rest.map fun v => v.category).sum) hM hZ hPV wc wz hf hl) (g := mkF m pc Ls st) rfl hsize (Steps.refl _) (a := a) (argsL := argsL) (rest := rest) hlen hst (by show 2 * 0 + _ ≤ _; omega) (hb hby hd) (fun _ _ => ⟨has, eT, hc, hs⟩)
  dsimp only [Pt.U, Pt.locs, Pt.cells, Pt.slots] at X' hs' hg' l1 l2 l3 q hq
  subst l1 l2 l3
  obtain ⟨X2, hS2, hZ2, ho2⟩ := rebS hS (Nat.le_trans hkk (by rw [← eT]; exact Nat.le_refl _)) X' hs' hg' hZ hown
  exact Go.step (fun t r => q.trans r) (K v T' L X2 hS2 hZ2 ho2 hq)
theorem g_virtualW (X : Stand p l e R (s.setVm vm0) m args below meth c T locs k n) (hx : p.tables.exec = Jvm.exec) (hby : c.code = code) (hZ : Z.Warmed39 (s.setVm vm0).vm) {own : String} (hown : (s.setVm vm0).vm.findClass own = some m.cls) {C : String} {index : Nat} {z : MethodName} {y : MethodName} {bytes : ByteArray} {maxL : Nat} {ret : Option FieldType} {rm : Room} {as' : Array Value} {Q : Option Value → Heap → List Loc → Prop} {PV : Vm → Prop} (hM : MetFree l y (head1 [Cond.code y bytes maxL ret] rm) (fun a U => a = as' ∧ PV U.vm ∧ U.heap = h) (fun _ _ _ _ _ => True) (fun _ U o U' => RetW U Q rm.cells rm.slots U' o)) (hPV : ∀ vm, (s.setVm vm0).WarmedH vm → PV vm) (hS : s.Since vm0 k0) (hkk : k0 ≤ h.size) (wl : (Cond.methodLink own index z).before a0 Z = true) (wd : (Cond.declares z).before a0 Z = true) (hnf : NotFace (s.setVm vm0) z) (wsel : (Cond.selects C z y).before a0 Z = true) (ws : (Cond.instanceMethod y).before a0 Z = true) (wz : (Cond.initialized y.cls).before a0 Z = true) (wc : (Cond.code y bytes maxL ret).before a0 Z = true) (hy : z.cls ≠ "java/lang/invoke/MethodHandle" ∧ z.cls ≠ "java/lang/invoke/VarHandle") (eT : T.heap = h) {a : Addr} (E : Exa Z h a C) (hsize : Ls.size = c.maxLocals) (argsL : List Value) {rest : List Value} (hlen : ∀ sig, parseMethodDescriptor z.desc = some sig → argsL.length = sig.parameters.length) (has : (.ref a :: argsL).toArray = as') (hst : st = argsL.reverse ++ .ref a :: rest) (hf : rm.frames + 1 ≤ R.frames) (hl : (rest.map fun v => v.category).sum + (maxL + 11) + rm.locals ≤ R.locals) (hc : k + rm.cells ≤ R.cells) (hs : n + rm.slots ≤ R.slots) (hd : decode code pc = .ok (.invokevirtual index, 3)) (K : ∀ v T' L, Stand p l e R (s.setVm T'.vm) m args below meth c T' (locs ++ L) (k + rm.cells) (n + rm.slots) → s.Since T'.vm T'.heap.size → Z.Warmed39 (s.setVm T'.vm).vm → (s.setVm T'.vm).vm.findClass own = some m.cls → Q v T'.heap L → Go p e below G (T'.setTop (mkF m (pc + 3) Ls (v.toList ++ rest)))) : Go p e below G (T.setTop (mkF m pc Ls st)) := by
  obtain ⟨cq, kq, qa, qb, qc⟩ := isOf hZ eT E
  obtain ⟨v, _, ⟨T', L', k', n'⟩, -, X', hs', hg', ⟨L, hq, l1, l2, l3⟩, q⟩ := X.virtualBackS hx (y := z) (z := y) hown (mvT hZ wl) (mvT hZ wd) hnf (mvT hZ wsel) (mvT hZ ws) hy (backW (W := (rest.map fun v => v.category).sum) hM hZ hPV wc wz hf hl) qa qc (g := mkF m pc Ls st) rfl hsize (Steps.refl _) (argsL := argsL) (rest := rest) hlen hst (by show 2 * 0 + _ ≤ _; omega) (hb hby hd) (fun _ _ => ⟨has, eT, hc, hs⟩)
  dsimp only [Pt.U, Pt.locs, Pt.cells, Pt.slots] at X' hs' hg' l1 l2 l3 q hq
  subst l1 l2 l3
  obtain ⟨X2, hS2, hZ2, ho2⟩ := rebS hS (Nat.le_trans hkk (by rw [← eT]; exact Nat.le_refl _)) X' hs' hg' hZ hown
  exact Go.step (fun t r => q.trans r) (K v T' L X2 hS2 hZ2 ho2 hq)
end
end Jvm.Own

namespace Jvm.Pilot.@@N@@
open Jvm Jvm.ClassFile Sem Op Lib Jvm.Free Jvm.Stand Jvm.LawKit Jvm.RoadKit Bundle Jvm.Own Jvm.Pilot.@@N@@.Jvm.D


def own_max (a b : Int32) : Int32 := if a < b then b else a
def own_min (a b : Int32) : Int32 := if b < a then b else a
def own_ioc (c : Int32) : Int32 := if (33 : Int32) = c.toInt8.toInt32 then 0 else if (35 : Int32) = c.toInt8.toInt32 then 1 else if (36 : Int32) = c.toInt8.toInt32 then 2 else if (37 : Int32) = c.toInt8.toInt32 then 3 else if (38 : Int32) = c.toInt8.toInt32 then 4 else if (39 : Int32) = c.toInt8.toInt32 then 5 else if (42 : Int32) = c.toInt8.toInt32 then 6 else if (43 : Int32) = c.toInt8.toInt32 then 7 else if (45 : Int32) = c.toInt8.toInt32 then 8 else if (46 : Int32) = c.toInt8.toInt32 then 9 else if (94 : Int32) = c.toInt8.toInt32 then 10 else if (95 : Int32) = c.toInt8.toInt32 then 11 else if (96 : Int32) = c.toInt8.toInt32 then 12 else if (124 : Int32) = c.toInt8.toInt32 then 13 else if (126 : Int32) = c.toInt8.toInt32 then 14 else -1
def own_can (c : Int32) : Int32 := if c < 0 then 0 else if 255 < c then 0 else 1
def own_idx (c : Int32) : Int32 := if own_can c = 0 then -1 else own_ioc c
def own_tok (c : Int32) : Int32 := if (¬ c < 97 ∧ ¬ 122 < c) ∨ (¬ c < 65 ∧ ¬ 90 < c) ∨ (¬ c < 48 ∧ ¬ 57 < c) ∨ ¬ own_idx c < 0 then 1 else 0
def own_del (v : Int32) : Int32 := if v = 34 ∨ v = 40 ∨ v = 41 ∨ v = 44 ∨ v = 47 ∨ (¬ v < 58 ∧ ¬ 64 < v) ∨ v = 91 ∨ v = 92 ∨ v = 93 ∨ v = 123 ∨ v = 125 then 1 else 0
theorem own_low : ∀ n : Fin 256, own_tok (Int32.ofNat n) = if Int32.ofNat n < 33 then 0 else if 126 < Int32.ofNat n then 0 else if own_del (Int32.ofNat n) = 0 then 1 else 0 := by decide +kernel
theorem own_fin {v : Int32} (h : 0 ≤ v.toInt ∧ v.toInt < 65536) : own_tok v = if v < 33 then 0 else if 126 < v then 0 else if own_del v = 0 then 1 else 0 := by
  by_cases h2 : v.toInt < 256
  · have e : v = Int32.ofNat v.toInt.toNat := Int32.toInt_inj.mp (by rw [Int32.toInt_ofNat_of_lt (by omega)]; omega)
    have := own_low ⟨v.toInt.toNat, by omega⟩
    rw [e]; exact this
  · have e (k : Int32) (hk : k.toInt < 256) : ¬ v < k ∧ k < v := by rw [Int32.lt_iff_toInt_lt, Int32.lt_iff_toInt_lt]; omega
    have i : own_idx v = -1 := by
      simp [own_idx, own_can, (e 0 (by decide)).1, (e 255 (by decide)).2]
    rw [if_neg (e 33 (by decide)).1, if_pos (e 126 (by decide)).2]
    simp [own_tok, i, (e 122 (by decide)).2, (e 90 (by decide)).2, (e 57 (by decide)).2]
theorem own_mask (x : Int32) : 0 ≤ (x &&& (65535 : Int32)).toInt ∧ (x &&& (65535 : Int32)).toInt < 65536 := by
  have h := c_mask x 65535 16 (by decide) (by decide)
  omega
theorem own_i2c {v : Int32} (h : 0 ≤ v.toInt ∧ v.toInt < 65536) : v.toUInt32.toUInt16.toUInt32.toInt32 = v := by
  have h1 := c_i2c v
  exact Int32.toInt_inj.mp (by omega)

theorem d9_0 : decode jdk_29_method_65_code 0 = .ok (.iload_n 0, 1) := by decide +kernel
theorem d9_1 : decode jdk_29_method_65_code 1 = .ok (.iload_n 1, 1) := by decide +kernel
theorem d9_2 : decode jdk_29_method_65_code 2 = .ok (.if_icmp .lt 7, 3) := by decide +kernel
theorem d9_9 : decode jdk_29_method_65_code 9 = .ok (.iload_n 1, 1) := by decide +kernel
theorem d9_10 : decode jdk_29_method_65_code 10 = .ok (.ireturn, 1) := by decide +kernel
theorem d9_5 : decode jdk_29_method_65_code 5 = .ok (.iload_n 0, 1) := by decide +kernel
theorem d9_6 : decode jdk_29_method_65_code 6 = .ok (.goto 4, 3) := by decide +kernel
def Q_mmax (Z : State) (a : Int32) (b : Int32) (h0 : Heap) (n0 : Nat) (v : Option Value) (h : Heap) (L : List Loc) : Prop := v = some (.int (own_max a b)) ∧ Fr n0 L ∧ h = h0
set_option maxRecDepth 65536 in
set_option maxHeartbeats 40000000 in
theorem rm_mmax (l : Launch) (Z : State) (a0 : Array Value) (hw : ∀ d ∈ tables_1, d.before a0 Z = true) (ws : List Jvm.Cond) (a : Int32) (b : Int32) (h0 : Heap) (n0 : Nat) (Z0 : n0 ≤ h0.size) :
    MetFree l (⟨"java/lang/Math", "max", "(II)I"⟩ : MethodName) (head1 (Jvm.Cond.code (⟨"java/lang/Math", "max", "(II)I"⟩ : MethodName) jdk_29_method_65_code 2 (some .int) :: ws) ({ frames := 0, cells := 0, slots := 0, locals := 0 } : Room)) (fun aa_ U => aa_ = #[(.int a), (.int b)] ∧ Z.Warmed39 U.vm ∧ U.heap = h0) (fun _ _ _ _ _ => True) (fun _ U o_ U' => RetG U (Q_mmax Z a b h0 n0) 0 0 U' o_) := by
  refine MetFree.of_bodySF (Jvm.Free.JP.mathPlain rfl (by decide +kernel)) hisR ?_
  intro p e s m args below meth c_ s₁ Bd hml0 hP hK
  obtain ⟨rfl, hZ, hh⟩ := hP
  have hx := Bd.exec
  have hby := Bd.bytes
  have hml : c_.maxLocals = 2 := hml0
  have hown : s.vm.findClass "java/lang/Math" = some m.cls := findClass_of_methodNamed Bd.named
  have hnm := (name_of_methodNamed Bd.named Bd.method).1
  have X0 : Stand p l e ({ frames := 0, cells := 0, slots := 0, locals := 0 } : Room) s m #[(.int a), (.int b)] below meth c_ s₁ [] 0 0 := Stand.of_body Bd
  have e0 : s₁.heap = h0 := by rw [← hh, Bd.state]; rfl
  have N0 := Fr.nil n0
  show Go p e below (RetG s (Q_mmax Z a b h0 n0) 0 0) (s₁.setTop (entryFrame m #[(.int a), (.int b)] 2))
  rw [show entryFrame m #[(.int a), (.int b)] 2 = mkF m 0 #[.val (.int a), .val (.int b)] [] from by first | (simp [entryFrame, mkF, argsToLocals, Value.category]; done) | rfl]
  refine g_iloadN X0 hx hby d9_0 rfl ?_
  refine g_iloadN X0 hx hby d9_1 rfl ?_
  by_cases hc2_1 : a < b
  · skip
    refine g_icY X0 hx hby 9 d9_2 (tlt hc2_1).1 (by decide) (by decide) ?_
    refine g_iloadN X0 hx hby d9_9 rfl ?_
    refine g_iret X0 hx hby Bd.returns Bd.notSynchronized d9_10 e0 (by decide) (by decide) ?_
    show (Q_mmax Z a b h0 n0) (some (.int b)) _ _
    exact ⟨by simp [own_max, hc2_1], N0, rfl⟩
  · skip
    refine g_icN X0 hx hby d9_2 (flt hc2_1).1 ?_
    refine g_iloadN X0 hx hby d9_5 rfl ?_
    refine g_goto X0 hx hby 10 d9_6 (by decide) (by decide) ?_
    refine g_iret X0 hx hby Bd.returns Bd.notSynchronized d9_10 e0 (by decide) (by decide) ?_
    show (Q_mmax Z a b h0 n0) (some (.int a)) _ _
    exact ⟨by simp [own_max, hc2_1], N0, rfl⟩

theorem d10_0 : decode jdk_29_method_69_code 0 = .ok (.iload_n 0, 1) := by decide +kernel
theorem d10_1 : decode jdk_29_method_69_code 1 = .ok (.iload_n 1, 1) := by decide +kernel
theorem d10_2 : decode jdk_29_method_69_code 2 = .ok (.if_icmp .gt 7, 3) := by decide +kernel
theorem d10_9 : decode jdk_29_method_69_code 9 = .ok (.iload_n 1, 1) := by decide +kernel
theorem d10_10 : decode jdk_29_method_69_code 10 = .ok (.ireturn, 1) := by decide +kernel
theorem d10_5 : decode jdk_29_method_69_code 5 = .ok (.iload_n 0, 1) := by decide +kernel
theorem d10_6 : decode jdk_29_method_69_code 6 = .ok (.goto 4, 3) := by decide +kernel
def Q_mmin (Z : State) (a : Int32) (b : Int32) (h0 : Heap) (n0 : Nat) (v : Option Value) (h : Heap) (L : List Loc) : Prop := v = some (.int (own_min a b)) ∧ Fr n0 L ∧ h = h0
set_option maxRecDepth 65536 in
set_option maxHeartbeats 40000000 in
theorem rm_mmin (l : Launch) (Z : State) (a0 : Array Value) (hw : ∀ d ∈ tables_1, d.before a0 Z = true) (ws : List Jvm.Cond) (a : Int32) (b : Int32) (h0 : Heap) (n0 : Nat) (Z0 : n0 ≤ h0.size) :
    MetFree l (⟨"java/lang/Math", "min", "(II)I"⟩ : MethodName) (head1 (Jvm.Cond.code (⟨"java/lang/Math", "min", "(II)I"⟩ : MethodName) jdk_29_method_69_code 2 (some .int) :: ws) ({ frames := 0, cells := 0, slots := 0, locals := 0 } : Room)) (fun aa_ U => aa_ = #[(.int a), (.int b)] ∧ Z.Warmed39 U.vm ∧ U.heap = h0) (fun _ _ _ _ _ => True) (fun _ U o_ U' => RetG U (Q_mmin Z a b h0 n0) 0 0 U' o_) := by
  refine MetFree.of_bodySF (Jvm.Free.JP.mathPlain rfl (by decide +kernel)) hisR ?_
  intro p e s m args below meth c_ s₁ Bd hml0 hP hK
  obtain ⟨rfl, hZ, hh⟩ := hP
  have hx := Bd.exec
  have hby := Bd.bytes
  have hml : c_.maxLocals = 2 := hml0
  have hown : s.vm.findClass "java/lang/Math" = some m.cls := findClass_of_methodNamed Bd.named
  have hnm := (name_of_methodNamed Bd.named Bd.method).1
  have X0 : Stand p l e ({ frames := 0, cells := 0, slots := 0, locals := 0 } : Room) s m #[(.int a), (.int b)] below meth c_ s₁ [] 0 0 := Stand.of_body Bd
  have e0 : s₁.heap = h0 := by rw [← hh, Bd.state]; rfl
  have N0 := Fr.nil n0
  show Go p e below (RetG s (Q_mmin Z a b h0 n0) 0 0) (s₁.setTop (entryFrame m #[(.int a), (.int b)] 2))
  rw [show entryFrame m #[(.int a), (.int b)] 2 = mkF m 0 #[.val (.int a), .val (.int b)] [] from by first | (simp [entryFrame, mkF, argsToLocals, Value.category]; done) | rfl]
  refine g_iloadN X0 hx hby d10_0 rfl ?_
  refine g_iloadN X0 hx hby d10_1 rfl ?_
  by_cases hc2_1 : b < a
  · skip
    refine g_icY X0 hx hby 9 d10_2 (tlt hc2_1).2.2.1 (by decide) (by decide) ?_
    refine g_iloadN X0 hx hby d10_9 rfl ?_
    refine g_iret X0 hx hby Bd.returns Bd.notSynchronized d10_10 e0 (by decide) (by decide) ?_
    show (Q_mmin Z a b h0 n0) (some (.int b)) _ _
    exact ⟨by simp [own_min, hc2_1], N0, rfl⟩
  · skip
    refine g_icN X0 hx hby d10_2 (flt hc2_1).2.2.1 ?_
    refine g_iloadN X0 hx hby d10_5 rfl ?_
    refine g_goto X0 hx hby 10 d10_6 (by decide) (by decide) ?_
    refine g_iret X0 hx hby Bd.returns Bd.notSynchronized d10_10 e0 (by decide) (by decide) ?_
    show (Q_mmin Z a b h0 n0) (some (.int a)) _ _
    exact ⟨by simp [own_min, hc2_1], N0, rfl⟩

theorem d8_0 : decode jdk_43_method_4_code 0 = .ok (.iload_n 0, 1) := by decide +kernel
theorem d8_1 : decode jdk_43_method_4_code 1 = .ok (.ifCond .lt 14, 3) := by decide +kernel
theorem d8_15 : decode jdk_43_method_4_code 15 = .ok (.iconst 0, 1) := by decide +kernel
theorem d8_16 : decode jdk_43_method_4_code 16 = .ok (.ireturn, 1) := by decide +kernel
theorem d8_4 : decode jdk_43_method_4_code 4 = .ok (.iload_n 0, 1) := by decide +kernel
theorem d8_5 : decode jdk_43_method_4_code 5 = .ok (.sipush 255, 3) := by decide +kernel
theorem d8_8 : decode jdk_43_method_4_code 8 = .ok (.if_icmp .gt 7, 3) := by decide +kernel
theorem d8_11 : decode jdk_43_method_4_code 11 = .ok (.iconst 1, 1) := by decide +kernel
theorem d8_12 : decode jdk_43_method_4_code 12 = .ok (.goto 4, 3) := by decide +kernel
theorem own_pn0 : plainName "java/lang/StringLatin1" = true := by first | (simp [plainName, overriddenIn]; done) | decide +kernel
def Q_can (Z : State) (c : Int32) (h0 : Heap) (n0 : Nat) (v : Option Value) (h : Heap) (L : List Loc) : Prop := v = some (.int (own_can c)) ∧ Fr n0 L ∧ h = h0
set_option maxRecDepth 65536 in
set_option maxHeartbeats 40000000 in
theorem rm_can (l : Launch) (Z : State) (a0 : Array Value) (hw : ∀ d ∈ tables_1, d.before a0 Z = true) (ws : List Jvm.Cond) (c : Int32) (h0 : Heap) (n0 : Nat) (Z0 : n0 ≤ h0.size) :
    MetFree l (⟨"java/lang/StringLatin1", "canEncode", "(I)Z"⟩ : MethodName) (head1 (Jvm.Cond.code (⟨"java/lang/StringLatin1", "canEncode", "(I)Z"⟩ : MethodName) jdk_43_method_4_code 1 (some .boolean) :: ws) ({ frames := 0, cells := 0, slots := 0, locals := 0 } : Room)) (fun aa_ U => aa_ = #[(.int c)] ∧ Z.Warmed39 U.vm ∧ U.heap = h0) (fun _ _ _ _ _ => True) (fun _ U o_ U' => RetG U (Q_can Z c h0 n0) 0 0 U' o_) := by
  refine MetFree.of_bodySF (plainFor_of_name own_pn0) hisR ?_
  intro p e s m args below meth c_ s₁ Bd hml0 hP hK
  obtain ⟨rfl, hZ, hh⟩ := hP
  have hx := Bd.exec
  have hby := Bd.bytes
  have hml : c_.maxLocals = 1 := hml0
  have hown : s.vm.findClass "java/lang/StringLatin1" = some m.cls := findClass_of_methodNamed Bd.named
  have hnm := (name_of_methodNamed Bd.named Bd.method).1
  have X0 : Stand p l e ({ frames := 0, cells := 0, slots := 0, locals := 0 } : Room) s m #[(.int c)] below meth c_ s₁ [] 0 0 := Stand.of_body Bd
  have e0 : s₁.heap = h0 := by rw [← hh, Bd.state]; rfl
  have N0 := Fr.nil n0
  show Go p e below (RetG s (Q_can Z c h0 n0) 0 0) (s₁.setTop (entryFrame m #[(.int c)] 1))
  rw [show entryFrame m #[(.int c)] 1 = mkF m 0 #[.val (.int c)] [] from by first | (simp [entryFrame, mkF, argsToLocals, Value.category]; done) | rfl]
  refine g_iloadN X0 hx hby d8_0 rfl ?_
  by_cases hc1_1 : c < (0 : Int32)
  · skip
    refine g_ifY X0 hx hby 15 d8_1 (tlt hc1_1).1 (by decide) (by decide) ?_
    refine g_iconst X0 hx hby (0 : Int32) d8_15 rfl ?_
    refine g_nret X0 hx hby (t := .boolean) (by simp) Bd.returns Bd.notSynchronized d8_16 e0 (by decide) (by decide) ?_
    show (Q_can Z c h0 n0) (some (.int (0 : Int32))) _ _
    exact ⟨by simp [own_can, hc1_1], N0, rfl⟩
  · skip
    refine g_ifN X0 hx hby d8_1 (flt hc1_1).1 ?_
    refine g_iloadN X0 hx hby d8_4 rfl ?_
    refine g_sipush X0 hx hby (255 : Int32) d8_5 rfl ?_
    by_cases hc8_2 : (255 : Int32) < c
    · skip
      refine g_icY X0 hx hby 15 d8_8 (tlt hc8_2).2.2.1 (by decide) (by decide) ?_
      refine g_iconst X0 hx hby (0 : Int32) d8_15 rfl ?_
      refine g_nret X0 hx hby (t := .boolean) (by simp) Bd.returns Bd.notSynchronized d8_16 e0 (by decide) (by decide) ?_
      show (Q_can Z c h0 n0) (some (.int (0 : Int32))) _ _
      exact ⟨by simp [own_can, hc1_1, hc8_2], N0, rfl⟩
    · skip
      refine g_icN X0 hx hby d8_8 (flt hc8_2).2.2.1 ?_
      refine g_iconst X0 hx hby (1 : Int32) d8_11 rfl ?_
      refine g_goto X0 hx hby 16 d8_12 (by decide) (by decide) ?_
      refine g_nret X0 hx hby (t := .boolean) (by simp) Bd.returns Bd.notSynchronized d8_16 e0 (by decide) (by decide) ?_
      show (Q_can Z c h0 n0) (some (.int (1 : Int32))) _ _
      exact ⟨by simp [own_can, hc1_1, hc8_2], N0, rfl⟩

theorem d12_0 : decode method_2_code 0 = .ok (.iload_n 0, 1) := by decide +kernel
theorem d12_1 : decode method_2_code 1 = .ok (.bipush 34, 2) := by decide +kernel
theorem d12_3 : decode method_2_code 3 = .ok (.if_icmp .eq 27, 3) := by decide +kernel
theorem d12_30 : decode method_2_code 30 = .ok (.iconst 1, 1) := by decide +kernel
theorem d12_31 : decode method_2_code 31 = .ok (.ireturn, 1) := by decide +kernel
theorem d12_6 : decode method_2_code 6 = .ok (.iload_n 0, 1) := by decide +kernel
theorem d12_7 : decode method_2_code 7 = .ok (.bipush 40, 2) := by decide +kernel
theorem d12_9 : decode method_2_code 9 = .ok (.if_icmp .eq 21, 3) := by decide +kernel
theorem d12_12 : decode method_2_code 12 = .ok (.iload_n 0, 1) := by decide +kernel
theorem d12_13 : decode method_2_code 13 = .ok (.bipush 41, 2) := by decide +kernel
theorem d12_15 : decode method_2_code 15 = .ok (.if_icmp .eq 15, 3) := by decide +kernel
theorem d12_18 : decode method_2_code 18 = .ok (.iload_n 0, 1) := by decide +kernel
theorem d12_19 : decode method_2_code 19 = .ok (.bipush 44, 2) := by decide +kernel
theorem d12_21 : decode method_2_code 21 = .ok (.if_icmp .eq 9, 3) := by decide +kernel
theorem d12_24 : decode method_2_code 24 = .ok (.iload_n 0, 1) := by decide +kernel
theorem d12_25 : decode method_2_code 25 = .ok (.bipush 47, 2) := by decide +kernel
theorem d12_27 : decode method_2_code 27 = .ok (.if_icmp .ne 5, 3) := by decide +kernel
theorem d12_32 : decode method_2_code 32 = .ok (.iload_n 0, 1) := by decide +kernel
theorem d12_33 : decode method_2_code 33 = .ok (.bipush 58, 2) := by decide +kernel
theorem d12_35 : decode method_2_code 35 = .ok (.if_icmp .lt 11, 3) := by decide +kernel
theorem d12_46 : decode method_2_code 46 = .ok (.iload_n 0, 1) := by decide +kernel
theorem d12_47 : decode method_2_code 47 = .ok (.bipush 91, 2) := by decide +kernel
theorem d12_49 : decode method_2_code 49 = .ok (.if_icmp .eq 15, 3) := by decide +kernel
theorem d12_64 : decode method_2_code 64 = .ok (.iconst 1, 1) := by decide +kernel
theorem d12_65 : decode method_2_code 65 = .ok (.ireturn, 1) := by decide +kernel
theorem d12_52 : decode method_2_code 52 = .ok (.iload_n 0, 1) := by decide +kernel
theorem d12_53 : decode method_2_code 53 = .ok (.bipush 92, 2) := by decide +kernel
theorem d12_55 : decode method_2_code 55 = .ok (.if_icmp .eq 9, 3) := by decide +kernel
theorem d12_58 : decode method_2_code 58 = .ok (.iload_n 0, 1) := by decide +kernel
theorem d12_59 : decode method_2_code 59 = .ok (.bipush 93, 2) := by decide +kernel
theorem d12_61 : decode method_2_code 61 = .ok (.if_icmp .ne 5, 3) := by decide +kernel
theorem d12_66 : decode method_2_code 66 = .ok (.iload_n 0, 1) := by decide +kernel
theorem d12_67 : decode method_2_code 67 = .ok (.bipush 123, 2) := by decide +kernel
theorem d12_69 : decode method_2_code 69 = .ok (.if_icmp .eq 9, 3) := by decide +kernel
theorem d12_78 : decode method_2_code 78 = .ok (.iconst 1, 1) := by decide +kernel
theorem d12_79 : decode method_2_code 79 = .ok (.goto 4, 3) := by decide +kernel
theorem d12_83 : decode method_2_code 83 = .ok (.ireturn, 1) := by decide +kernel
theorem d12_72 : decode method_2_code 72 = .ok (.iload_n 0, 1) := by decide +kernel
theorem d12_73 : decode method_2_code 73 = .ok (.bipush 125, 2) := by decide +kernel
theorem d12_75 : decode method_2_code 75 = .ok (.if_icmp .ne 7, 3) := by decide +kernel
theorem d12_82 : decode method_2_code 82 = .ok (.iconst 0, 1) := by decide +kernel
theorem d12_38 : decode method_2_code 38 = .ok (.iload_n 0, 1) := by decide +kernel
theorem d12_39 : decode method_2_code 39 = .ok (.bipush 64, 2) := by decide +kernel
theorem d12_41 : decode method_2_code 41 = .ok (.if_icmp .gt 5, 3) := by decide +kernel
theorem d12_44 : decode method_2_code 44 = .ok (.iconst 1, 1) := by decide +kernel
theorem d12_45 : decode method_2_code 45 = .ok (.ireturn, 1) := by decide +kernel
theorem own_pn1 : plainName "com/example/pathloom/pathloom/routing/HttpSyntaxIsTokenCharPinLaw" = true := by first | (simp [plainName, overriddenIn]; done) | decide +kernel
def Q_isdel (Z : State) (v0 : Int32) (h0 : Heap) (n0 : Nat) (v : Option Value) (h : Heap) (L : List Loc) : Prop := v = some (.int (own_del v0)) ∧ Fr n0 L ∧ h = h0
set_option maxRecDepth 65536 in
set_option maxHeartbeats 40000000 in
theorem rm_isdel (l : Launch) (Z : State) (a0 : Array Value) (hw : ∀ d ∈ tables_1, d.before a0 Z = true) (ws : List Jvm.Cond) (v0 : Int32) (h0 : Heap) (n0 : Nat) (Z0 : n0 ≤ h0.size) :
    MetFree l (⟨"com/example/pathloom/pathloom/routing/HttpSyntaxIsTokenCharPinLaw", "isDelimiter", "(I)Z"⟩ : MethodName) (head1 (Jvm.Cond.code (⟨"com/example/pathloom/pathloom/routing/HttpSyntaxIsTokenCharPinLaw", "isDelimiter", "(I)Z"⟩ : MethodName) method_2_code 1 (some .boolean) :: ws) ({ frames := 0, cells := 0, slots := 0, locals := 0 } : Room)) (fun aa_ U => aa_ = #[(.int v0)] ∧ Z.Warmed39 U.vm ∧ U.heap = h0) (fun _ _ _ _ _ => True) (fun _ U o_ U' => RetG U (Q_isdel Z v0 h0 n0) 0 0 U' o_) := by
  refine MetFree.of_bodySF (plainFor_of_name own_pn1) hisR ?_
  intro p e s m args below meth c_ s₁ Bd hml0 hP hK
  obtain ⟨rfl, hZ, hh⟩ := hP
  have hx := Bd.exec
  have hby := Bd.bytes
  have hml : c_.maxLocals = 1 := hml0
  have hown : s.vm.findClass "com/example/pathloom/pathloom/routing/HttpSyntaxIsTokenCharPinLaw" = some m.cls := findClass_of_methodNamed Bd.named
  have hnm := (name_of_methodNamed Bd.named Bd.method).1
  have X0 : Stand p l e ({ frames := 0, cells := 0, slots := 0, locals := 0 } : Room) s m #[(.int v0)] below meth c_ s₁ [] 0 0 := Stand.of_body Bd
  have e0 : s₁.heap = h0 := by rw [← hh, Bd.state]; rfl
  have N0 := Fr.nil n0
  show Go p e below (RetG s (Q_isdel Z v0 h0 n0) 0 0) (s₁.setTop (entryFrame m #[(.int v0)] 1))
  rw [show entryFrame m #[(.int v0)] 1 = mkF m 0 #[.val (.int v0)] [] from by first | (simp [entryFrame, mkF, argsToLocals, Value.category]; done) | rfl]
  refine g_iloadN X0 hx hby d12_0 rfl ?_
  refine g_bipush X0 hx hby (34 : Int32) d12_1 rfl ?_
  by_cases hc3_1 : v0 = (34 : Int32)
  · skip
    refine g_icY X0 hx hby 30 d12_3 (teq hc3_1).1 (by decide) (by decide) ?_
    refine g_iconst X0 hx hby (1 : Int32) d12_30 rfl ?_
    refine g_nret X0 hx hby (t := .boolean) (by simp) Bd.returns Bd.notSynchronized d12_31 e0 (by decide) (by decide) ?_
    show (Q_isdel Z v0 h0 n0) (some (.int (1 : Int32))) _ _
    exact ⟨by simp [own_del, hc3_1], N0, rfl⟩
  · skip
    refine g_icN X0 hx hby d12_3 (feq hc3_1).1 ?_
    refine g_iloadN X0 hx hby d12_6 rfl ?_
    refine g_bipush X0 hx hby (40 : Int32) d12_7 rfl ?_
    by_cases hc9_2 : v0 = (40 : Int32)
    · skip
      refine g_icY X0 hx hby 30 d12_9 (teq hc9_2).1 (by decide) (by decide) ?_
      refine g_iconst X0 hx hby (1 : Int32) d12_30 rfl ?_
      refine g_nret X0 hx hby (t := .boolean) (by simp) Bd.returns Bd.notSynchronized d12_31 e0 (by decide) (by decide) ?_
      show (Q_isdel Z v0 h0 n0) (some (.int (1 : Int32))) _ _
      exact ⟨by simp [own_del, hc3_1, hc9_2], N0, rfl⟩
    · skip
      refine g_icN X0 hx hby d12_9 (feq hc9_2).1 ?_
      refine g_iloadN X0 hx hby d12_12 rfl ?_
      refine g_bipush X0 hx hby (41 : Int32) d12_13 rfl ?_
      by_cases hc15_3 : v0 = (41 : Int32)
      · skip
        refine g_icY X0 hx hby 30 d12_15 (teq hc15_3).1 (by decide) (by decide) ?_
        refine g_iconst X0 hx hby (1 : Int32) d12_30 rfl ?_
        refine g_nret X0 hx hby (t := .boolean) (by simp) Bd.returns Bd.notSynchronized d12_31 e0 (by decide) (by decide) ?_
        show (Q_isdel Z v0 h0 n0) (some (.int (1 : Int32))) _ _
        exact ⟨by simp [own_del, hc3_1, hc9_2, hc15_3], N0, rfl⟩
      · skip
        refine g_icN X0 hx hby d12_15 (feq hc15_3).1 ?_
        refine g_iloadN X0 hx hby d12_18 rfl ?_
        refine g_bipush X0 hx hby (44 : Int32) d12_19 rfl ?_
        by_cases hc21_4 : v0 = (44 : Int32)
        · skip
          refine g_icY X0 hx hby 30 d12_21 (teq hc21_4).1 (by decide) (by decide) ?_
          refine g_iconst X0 hx hby (1 : Int32) d12_30 rfl ?_
          refine g_nret X0 hx hby (t := .boolean) (by simp) Bd.returns Bd.notSynchronized d12_31 e0 (by decide) (by decide) ?_
          show (Q_isdel Z v0 h0 n0) (some (.int (1 : Int32))) _ _
          exact ⟨by simp [own_del, hc3_1, hc9_2, hc15_3, hc21_4], N0, rfl⟩
        · skip
          refine g_icN X0 hx hby d12_21 (feq hc21_4).1 ?_
          refine g_iloadN X0 hx hby d12_24 rfl ?_
          refine g_bipush X0 hx hby (47 : Int32) d12_25 rfl ?_
          by_cases hc27_5 : v0 = (47 : Int32)
          · skip
            refine g_icN X0 hx hby d12_27 (teq hc27_5).2 ?_
            refine g_iconst X0 hx hby (1 : Int32) d12_30 rfl ?_
            refine g_nret X0 hx hby (t := .boolean) (by simp) Bd.returns Bd.notSynchronized d12_31 e0 (by decide) (by decide) ?_
            show (Q_isdel Z v0 h0 n0) (some (.int (1 : Int32))) _ _
            exact ⟨by simp [own_del, hc3_1, hc9_2, hc15_3, hc21_4, hc27_5], N0, rfl⟩
          · skip
            refine g_icY X0 hx hby 32 d12_27 (feq hc27_5).2 (by decide) (by decide) ?_
            refine g_iloadN X0 hx hby d12_32 rfl ?_
            refine g_bipush X0 hx hby (58 : Int32) d12_33 rfl ?_
            by_cases hc35_6 : v0 < (58 : Int32)
            · skip
              refine g_icY X0 hx hby 46 d12_35 (tlt hc35_6).1 (by decide) (by decide) ?_
              refine g_iloadN X0 hx hby d12_46 rfl ?_
              refine g_bipush X0 hx hby (91 : Int32) d12_47 rfl ?_
              by_cases hc49_7 : v0 = (91 : Int32)
              · skip
                refine g_icY X0 hx hby 64 d12_49 (teq hc49_7).1 (by decide) (by decide) ?_
                refine g_iconst X0 hx hby (1 : Int32) d12_64 rfl ?_
                refine g_nret X0 hx hby (t := .boolean) (by simp) Bd.returns Bd.notSynchronized d12_65 e0 (by decide) (by decide) ?_
                show (Q_isdel Z v0 h0 n0) (some (.int (1 : Int32))) _ _
                exact ⟨by simp [own_del, hc3_1, hc9_2, hc15_3, hc21_4, hc27_5, hc35_6, hc49_7], N0, rfl⟩
              · skip
                refine g_icN X0 hx hby d12_49 (feq hc49_7).1 ?_
                refine g_iloadN X0 hx hby d12_52 rfl ?_
                refine g_bipush X0 hx hby (92 : Int32) d12_53 rfl ?_
                by_cases hc55_8 : v0 = (92 : Int32)
                · skip
                  refine g_icY X0 hx hby 64 d12_55 (teq hc55_8).1 (by decide) (by decide) ?_
                  refine g_iconst X0 hx hby (1 : Int32) d12_64 rfl ?_
                  refine g_nret X0 hx hby (t := .boolean) (by simp) Bd.returns Bd.notSynchronized d12_65 e0 (by decide) (by decide) ?_
                  show (Q_isdel Z v0 h0 n0) (some (.int (1 : Int32))) _ _
                  exact ⟨by simp [own_del, hc3_1, hc9_2, hc15_3, hc21_4, hc27_5, hc35_6, hc49_7, hc55_8], N0, rfl⟩
                · skip
                  refine g_icN X0 hx hby d12_55 (feq hc55_8).1 ?_
                  refine g_iloadN X0 hx hby d12_58 rfl ?_
                  refine g_bipush X0 hx hby (93 : Int32) d12_59 rfl ?_
                  by_cases hc61_9 : v0 = (93 : Int32)
                  · skip
                    refine g_icN X0 hx hby d12_61 (teq hc61_9).2 ?_
                    refine g_iconst X0 hx hby (1 : Int32) d12_64 rfl ?_
                    refine g_nret X0 hx hby (t := .boolean) (by simp) Bd.returns Bd.notSynchronized d12_65 e0 (by decide) (by decide) ?_
                    show (Q_isdel Z v0 h0 n0) (some (.int (1 : Int32))) _ _
                    exact ⟨by simp [own_del, hc3_1, hc9_2, hc15_3, hc21_4, hc27_5, hc35_6, hc49_7, hc55_8, hc61_9], N0, rfl⟩
                  · skip
                    refine g_icY X0 hx hby 66 d12_61 (feq hc61_9).2 (by decide) (by decide) ?_
                    refine g_iloadN X0 hx hby d12_66 rfl ?_
                    refine g_bipush X0 hx hby (123 : Int32) d12_67 rfl ?_
                    by_cases hc69_10 : v0 = (123 : Int32)
                    · skip
                      refine g_icY X0 hx hby 78 d12_69 (teq hc69_10).1 (by decide) (by decide) ?_
                      refine g_iconst X0 hx hby (1 : Int32) d12_78 rfl ?_
                      refine g_goto X0 hx hby 83 d12_79 (by decide) (by decide) ?_
                      refine g_nret X0 hx hby (t := .boolean) (by simp) Bd.returns Bd.notSynchronized d12_83 e0 (by decide) (by decide) ?_
                      show (Q_isdel Z v0 h0 n0) (some (.int (1 : Int32))) _ _
                      exact ⟨by simp [own_del, hc3_1, hc9_2, hc15_3, hc21_4, hc27_5, hc35_6, hc49_7, hc55_8, hc61_9, hc69_10], N0, rfl⟩
                    · skip
                      refine g_icN X0 hx hby d12_69 (feq hc69_10).1 ?_
                      refine g_iloadN X0 hx hby d12_72 rfl ?_
                      refine g_bipush X0 hx hby (125 : Int32) d12_73 rfl ?_
                      by_cases hc75_11 : v0 = (125 : Int32)
                      · skip
                        refine g_icN X0 hx hby d12_75 (teq hc75_11).2 ?_
                        refine g_iconst X0 hx hby (1 : Int32) d12_78 rfl ?_
                        refine g_goto X0 hx hby 83 d12_79 (by decide) (by decide) ?_
                        refine g_nret X0 hx hby (t := .boolean) (by simp) Bd.returns Bd.notSynchronized d12_83 e0 (by decide) (by decide) ?_
                        show (Q_isdel Z v0 h0 n0) (some (.int (1 : Int32))) _ _
                        exact ⟨by simp [own_del, hc3_1, hc9_2, hc15_3, hc21_4, hc27_5, hc35_6, hc49_7, hc55_8, hc61_9, hc69_10, hc75_11], N0, rfl⟩
                      · skip
                        refine g_icY X0 hx hby 82 d12_75 (feq hc75_11).2 (by decide) (by decide) ?_
                        refine g_iconst X0 hx hby (0 : Int32) d12_82 rfl ?_
                        refine g_nret X0 hx hby (t := .boolean) (by simp) Bd.returns Bd.notSynchronized d12_83 e0 (by decide) (by decide) ?_
                        show (Q_isdel Z v0 h0 n0) (some (.int (0 : Int32))) _ _
                        exact ⟨by simp [own_del, hc3_1, hc9_2, hc15_3, hc21_4, hc27_5, hc35_6, hc49_7, hc55_8, hc61_9, hc69_10, hc75_11], N0, rfl⟩
            · skip
              refine g_icN X0 hx hby d12_35 (flt hc35_6).1 ?_
              refine g_iloadN X0 hx hby d12_38 rfl ?_
              refine g_bipush X0 hx hby (64 : Int32) d12_39 rfl ?_
              by_cases hc41_12 : (64 : Int32) < v0
              · skip
                refine g_icY X0 hx hby 46 d12_41 (tlt hc41_12).2.2.1 (by decide) (by decide) ?_
                refine g_iloadN X0 hx hby d12_46 rfl ?_
                refine g_bipush X0 hx hby (91 : Int32) d12_47 rfl ?_
                by_cases hc49_13 : v0 = (91 : Int32)
                · skip
                  refine g_icY X0 hx hby 64 d12_49 (teq hc49_13).1 (by decide) (by decide) ?_
                  refine g_iconst X0 hx hby (1 : Int32) d12_64 rfl ?_
                  refine g_nret X0 hx hby (t := .boolean) (by simp) Bd.returns Bd.notSynchronized d12_65 e0 (by decide) (by decide) ?_
                  show (Q_isdel Z v0 h0 n0) (some (.int (1 : Int32))) _ _
                  exact ⟨by simp [own_del, hc3_1, hc9_2, hc15_3, hc21_4, hc27_5, hc35_6, hc41_12, hc49_13], N0, rfl⟩
                · skip
                  refine g_icN X0 hx hby d12_49 (feq hc49_13).1 ?_
                  refine g_iloadN X0 hx hby d12_52 rfl ?_
                  refine g_bipush X0 hx hby (92 : Int32) d12_53 rfl ?_
                  by_cases hc55_14 : v0 = (92 : Int32)
                  · skip
                    refine g_icY X0 hx hby 64 d12_55 (teq hc55_14).1 (by decide) (by decide) ?_
                    refine g_iconst X0 hx hby (1 : Int32) d12_64 rfl ?_
                    refine g_nret X0 hx hby (t := .boolean) (by simp) Bd.returns Bd.notSynchronized d12_65 e0 (by decide) (by decide) ?_
                    show (Q_isdel Z v0 h0 n0) (some (.int (1 : Int32))) _ _
                    exact ⟨by simp [own_del, hc3_1, hc9_2, hc15_3, hc21_4, hc27_5, hc35_6, hc41_12, hc49_13, hc55_14], N0, rfl⟩
                  · skip
                    refine g_icN X0 hx hby d12_55 (feq hc55_14).1 ?_
                    refine g_iloadN X0 hx hby d12_58 rfl ?_
                    refine g_bipush X0 hx hby (93 : Int32) d12_59 rfl ?_
                    by_cases hc61_15 : v0 = (93 : Int32)
                    · skip
                      refine g_icN X0 hx hby d12_61 (teq hc61_15).2 ?_
                      refine g_iconst X0 hx hby (1 : Int32) d12_64 rfl ?_
                      refine g_nret X0 hx hby (t := .boolean) (by simp) Bd.returns Bd.notSynchronized d12_65 e0 (by decide) (by decide) ?_
                      show (Q_isdel Z v0 h0 n0) (some (.int (1 : Int32))) _ _
                      exact ⟨by simp [own_del, hc3_1, hc9_2, hc15_3, hc21_4, hc27_5, hc35_6, hc41_12, hc49_13, hc55_14, hc61_15], N0, rfl⟩
                    · skip
                      refine g_icY X0 hx hby 66 d12_61 (feq hc61_15).2 (by decide) (by decide) ?_
                      refine g_iloadN X0 hx hby d12_66 rfl ?_
                      refine g_bipush X0 hx hby (123 : Int32) d12_67 rfl ?_
                      by_cases hc69_16 : v0 = (123 : Int32)
                      · skip
                        refine g_icY X0 hx hby 78 d12_69 (teq hc69_16).1 (by decide) (by decide) ?_
                        refine g_iconst X0 hx hby (1 : Int32) d12_78 rfl ?_
                        refine g_goto X0 hx hby 83 d12_79 (by decide) (by decide) ?_
                        refine g_nret X0 hx hby (t := .boolean) (by simp) Bd.returns Bd.notSynchronized d12_83 e0 (by decide) (by decide) ?_
                        show (Q_isdel Z v0 h0 n0) (some (.int (1 : Int32))) _ _
                        exact ⟨by simp [own_del, hc3_1, hc9_2, hc15_3, hc21_4, hc27_5, hc35_6, hc41_12, hc49_13, hc55_14, hc61_15, hc69_16], N0, rfl⟩
                      · skip
                        refine g_icN X0 hx hby d12_69 (feq hc69_16).1 ?_
                        refine g_iloadN X0 hx hby d12_72 rfl ?_
                        refine g_bipush X0 hx hby (125 : Int32) d12_73 rfl ?_
                        by_cases hc75_17 : v0 = (125 : Int32)
                        · skip
                          refine g_icN X0 hx hby d12_75 (teq hc75_17).2 ?_
                          refine g_iconst X0 hx hby (1 : Int32) d12_78 rfl ?_
                          refine g_goto X0 hx hby 83 d12_79 (by decide) (by decide) ?_
                          refine g_nret X0 hx hby (t := .boolean) (by simp) Bd.returns Bd.notSynchronized d12_83 e0 (by decide) (by decide) ?_
                          show (Q_isdel Z v0 h0 n0) (some (.int (1 : Int32))) _ _
                          exact ⟨by simp [own_del, hc3_1, hc9_2, hc15_3, hc21_4, hc27_5, hc35_6, hc41_12, hc49_13, hc55_14, hc61_15, hc69_16, hc75_17], N0, rfl⟩
                        · skip
                          refine g_icY X0 hx hby 82 d12_75 (feq hc75_17).2 (by decide) (by decide) ?_
                          refine g_iconst X0 hx hby (0 : Int32) d12_82 rfl ?_
                          refine g_nret X0 hx hby (t := .boolean) (by simp) Bd.returns Bd.notSynchronized d12_83 e0 (by decide) (by decide) ?_
                          show (Q_isdel Z v0 h0 n0) (some (.int (0 : Int32))) _ _
                          exact ⟨by simp [own_del, hc3_1, hc9_2, hc15_3, hc21_4, hc27_5, hc35_6, hc41_12, hc49_13, hc55_14, hc61_15, hc69_16, hc75_17], N0, rfl⟩
              · skip
                refine g_icN X0 hx hby d12_41 (flt hc41_12).2.2.1 ?_
                refine g_iconst X0 hx hby (1 : Int32) d12_44 rfl ?_
                refine g_nret X0 hx hby (t := .boolean) (by simp) Bd.returns Bd.notSynchronized d12_45 e0 (by decide) (by decide) ?_
                show (Q_isdel Z v0 h0 n0) (some (.int (1 : Int32))) _ _
                exact ⟨by simp [own_del, hc3_1, hc9_2, hc15_3, hc21_4, hc27_5, hc35_6, hc41_12], N0, rfl⟩

theorem d11_0 : decode jdk_43_method_23_code 0 = .ok (.iload_n 1, 1) := by decide +kernel
theorem d11_1 : decode jdk_43_method_23_code 1 = .ok (.i2b, 1) := by decide +kernel
theorem d11_2 : decode jdk_43_method_23_code 2 = .ok (.istore 4, 2) := by decide +kernel
theorem d11_4 : decode jdk_43_method_23_code 4 = .ok (.iload_n 2, 1) := by decide +kernel
theorem d11_5 : decode jdk_43_method_23_code 5 = .ok (.istore 5, 2) := by decide +kernel
theorem d11_7 : decode jdk_43_method_23_code 7 = .ok (.iload 5, 2) := by decide +kernel
theorem d11_9 : decode jdk_43_method_23_code 9 = .ok (.iload_n 3, 1) := by decide +kernel
theorem d11_10 : decode jdk_43_method_23_code 10 = .ok (.if_icmp .ge 21, 3) := by decide +kernel
theorem d11_13 : decode jdk_43_method_23_code 13 = .ok (.aload_n 0, 1) := by decide +kernel
theorem d11_14 : decode jdk_43_method_23_code 14 = .ok (.iload 5, 2) := by decide +kernel
theorem d11_16 : decode jdk_43_method_23_code 16 = .ok (.baload, 1) := by decide +kernel
theorem d11_17 : decode jdk_43_method_23_code 17 = .ok (.iload 4, 2) := by decide +kernel
theorem d11_19 : decode jdk_43_method_23_code 19 = .ok (.if_icmp .ne 6, 3) := by decide +kernel
theorem d11_22 : decode jdk_43_method_23_code 22 = .ok (.iload 5, 2) := by decide +kernel
theorem d11_24 : decode jdk_43_method_23_code 24 = .ok (.ireturn, 1) := by decide +kernel
theorem d11_25 : decode jdk_43_method_23_code 25 = .ok (.iinc 5 1, 3) := by decide +kernel
theorem d11_28 : decode jdk_43_method_23_code 28 = .ok (.goto (-21), 3) := by decide +kernel
theorem d11_31 : decode jdk_43_method_23_code 31 = .ok (.iconst (-1), 1) := by decide +kernel
theorem d11_32 : decode jdk_43_method_23_code 32 = .ok (.ireturn, 1) := by decide +kernel
def Q_ioc (Z : State) (b : Addr) (kb : ClassId) (c : Int32) (h0 : Heap) (n0 : Nat) (v : Option Value) (h : Heap) (L : List Loc) : Prop := v = some (.int (own_ioc c)) ∧ Fr n0 L ∧ h = h0
set_option maxRecDepth 65536 in
set_option maxHeartbeats 40000000 in
theorem rm_ioc (l : Launch) (Z : State) (a0 : Array Value) (hw : ∀ d ∈ tables_1, d.before a0 Z = true) (ws : List Jvm.Cond) (b : Addr) (kb : ClassId) (c : Int32) (h0 : Heap) (n0 : Nat) (Z0 : n0 ≤ h0.size) (VB : Arv Z h0 b kb .byte (15 : Int32) [(.int (33 : Int32)), (.int (35 : Int32)), (.int (36 : Int32)), (.int (37 : Int32)), (.int (38 : Int32)), (.int (39 : Int32)), (.int (42 : Int32)), (.int (43 : Int32)), (.int (45 : Int32)), (.int (46 : Int32)), (.int (94 : Int32)), (.int (95 : Int32)), (.int (96 : Int32)), (.int (124 : Int32)), (.int (126 : Int32))] (.int (0 : Int32))) :
    MetFree l (⟨"java/lang/StringLatin1", "indexOfChar", "([BIII)I"⟩ : MethodName) (head1 (Jvm.Cond.code (⟨"java/lang/StringLatin1", "indexOfChar", "([BIII)I"⟩ : MethodName) jdk_43_method_23_code 6 (some .int) :: ws) ({ frames := 0, cells := 0, slots := 0, locals := 0 } : Room)) (fun aa_ U => aa_ = #[(.ref b), (.int c), (.int (0 : Int32)), (.int (15 : Int32))] ∧ Z.Warmed39 U.vm ∧ U.heap = h0) (fun _ _ _ _ _ => True) (fun _ U o_ U' => RetG U (Q_ioc Z b kb c h0 n0) 0 0 U' o_) := by
  refine MetFree.of_bodySF (plainFor_of_name own_pn0) hisR ?_
  intro p e s m args below meth c_ s₁ Bd hml0 hP hK
  obtain ⟨rfl, hZ, hh⟩ := hP
  have hx := Bd.exec
  have hby := Bd.bytes
  have hml : c_.maxLocals = 6 := hml0
  have hown : s.vm.findClass "java/lang/StringLatin1" = some m.cls := findClass_of_methodNamed Bd.named
  have hnm := (name_of_methodNamed Bd.named Bd.method).1
  have X0 : Stand p l e ({ frames := 0, cells := 0, slots := 0, locals := 0 } : Room) s m #[(.ref b), (.int c), (.int (0 : Int32)), (.int (15 : Int32))] below meth c_ s₁ [] 0 0 := Stand.of_body Bd
  have e0 : s₁.heap = h0 := by rw [← hh, Bd.state]; rfl
  have N0 := Fr.nil n0
  show Go p e below (RetG s (Q_ioc Z b kb c h0 n0) 0 0) (s₁.setTop (entryFrame m #[(.ref b), (.int c), (.int (0 : Int32)), (.int (15 : Int32))] 6))
  rw [show entryFrame m #[(.ref b), (.int c), (.int (0 : Int32)), (.int (15 : Int32))] 6 = mkF m 0 #[.val (.ref b), .val (.int c), .val (.int (0 : Int32)), .val (.int (15 : Int32)), .unset, .unset] [] from by first | (simp [entryFrame, mkF, argsToLocals, Value.category]; done) | rfl]
  refine g_iloadN X0 hx hby d11_0 rfl ?_
  refine g_i2b X0 hx hby d11_1 ?_
  refine g_istore X0 hx hby d11_2 (l' := #[.val (.ref b), .val (.int c), .val (.int (0 : Int32)), .val (.int (15 : Int32)), .val (.int (c.toInt8.toInt32)), .unset]) rfl ?_
  refine g_iloadN X0 hx hby d11_4 rfl ?_
  refine g_istore X0 hx hby d11_5 (l' := #[.val (.ref b), .val (.int c), .val (.int (0 : Int32)), .val (.int (15 : Int32)), .val (.int (c.toInt8.toInt32)), .val (.int (0 : Int32))]) rfl ?_
  refine g_iload X0 hx hby d11_7 rfl ?_
  refine g_iloadN X0 hx hby d11_9 rfl ?_
  refine g_icN X0 hx hby d11_10 (tlt (by decide : (0 : Int32) < (15 : Int32))).2.1 ?_
  refine g_aloadN X0 hx hby d11_13 rfl rfl ?_
  refine g_iload X0 hx hby d11_14 rfl ?_
  refine g_baload X0 hx hby hZ e0 VB (.int (33 : Int32)) ⟨by decide, by decide⟩ rfl d11_16 ?_
  refine g_iload X0 hx hby d11_17 rfl ?_
  by_cases hc19_1 : (33 : Int32) = (c.toInt8.toInt32)
  · skip
    refine g_icN X0 hx hby d11_19 (teq hc19_1).2 ?_
    refine g_iload X0 hx hby d11_22 rfl ?_
    refine g_iret X0 hx hby Bd.returns Bd.notSynchronized d11_24 e0 (by decide) (by decide) ?_
    show (Q_ioc Z b kb c h0 n0) (some (.int (0 : Int32))) _ _
    exact ⟨by simp [own_ioc, hc19_1], N0, rfl⟩
  · skip
    refine g_icY X0 hx hby 25 d11_19 (feq hc19_1).2 (by decide) (by decide) ?_
    refine g_iinc X0 hx hby (1 : Int32) d11_25 rfl (by decide) (l' := #[.val (.ref b), .val (.int c), .val (.int (0 : Int32)), .val (.int (15 : Int32)), .val (.int (c.toInt8.toInt32)), .val (.int (1 : Int32))]) rfl ?_
    refine g_goto X0 hx hby 7 d11_28 (by decide) (by decide) ?_
    refine g_iload X0 hx hby d11_7 rfl ?_
    refine g_iloadN X0 hx hby d11_9 rfl ?_
    refine g_icN X0 hx hby d11_10 (tlt (by decide : (1 : Int32) < (15 : Int32))).2.1 ?_
    refine g_aloadN X0 hx hby d11_13 rfl rfl ?_
    refine g_iload X0 hx hby d11_14 rfl ?_
    refine g_baload X0 hx hby hZ e0 VB (.int (35 : Int32)) ⟨by decide, by decide⟩ rfl d11_16 ?_
    refine g_iload X0 hx hby d11_17 rfl ?_
    by_cases hc19_2 : (35 : Int32) = (c.toInt8.toInt32)
    · skip
      refine g_icN X0 hx hby d11_19 (teq hc19_2).2 ?_
      refine g_iload X0 hx hby d11_22 rfl ?_
      refine g_iret X0 hx hby Bd.returns Bd.notSynchronized d11_24 e0 (by decide) (by decide) ?_
      show (Q_ioc Z b kb c h0 n0) (some (.int (1 : Int32))) _ _
      exact ⟨by simp [own_ioc, hc19_1, hc19_2], N0, rfl⟩
    · skip
      refine g_icY X0 hx hby 25 d11_19 (feq hc19_2).2 (by decide) (by decide) ?_
      refine g_iinc X0 hx hby (2 : Int32) d11_25 rfl (by decide) (l' := #[.val (.ref b), .val (.int c), .val (.int (0 : Int32)), .val (.int (15 : Int32)), .val (.int (c.toInt8.toInt32)), .val (.int (2 : Int32))]) rfl ?_
      refine g_goto X0 hx hby 7 d11_28 (by decide) (by decide) ?_
      refine g_iload X0 hx hby d11_7 rfl ?_
      refine g_iloadN X0 hx hby d11_9 rfl ?_
      refine g_icN X0 hx hby d11_10 (tlt (by decide : (2 : Int32) < (15 : Int32))).2.1 ?_
      refine g_aloadN X0 hx hby d11_13 rfl rfl ?_
      refine g_iload X0 hx hby d11_14 rfl ?_
      refine g_baload X0 hx hby hZ e0 VB (.int (36 : Int32)) ⟨by decide, by decide⟩ rfl d11_16 ?_
      refine g_iload X0 hx hby d11_17 rfl ?_
      by_cases hc19_3 : (36 : Int32) = (c.toInt8.toInt32)
      · skip
        refine g_icN X0 hx hby d11_19 (teq hc19_3).2 ?_
        refine g_iload X0 hx hby d11_22 rfl ?_
        refine g_iret X0 hx hby Bd.returns Bd.notSynchronized d11_24 e0 (by decide) (by decide) ?_
        show (Q_ioc Z b kb c h0 n0) (some (.int (2 : Int32))) _ _
        exact ⟨by simp [own_ioc, hc19_1, hc19_2, hc19_3], N0, rfl⟩
      · skip
        refine g_icY X0 hx hby 25 d11_19 (feq hc19_3).2 (by decide) (by decide) ?_
        refine g_iinc X0 hx hby (3 : Int32) d11_25 rfl (by decide) (l' := #[.val (.ref b), .val (.int c), .val (.int (0 : Int32)), .val (.int (15 : Int32)), .val (.int (c.toInt8.toInt32)), .val (.int (3 : Int32))]) rfl ?_
        refine g_goto X0 hx hby 7 d11_28 (by decide) (by decide) ?_
        refine g_iload X0 hx hby d11_7 rfl ?_
        refine g_iloadN X0 hx hby d11_9 rfl ?_
        refine g_icN X0 hx hby d11_10 (tlt (by decide : (3 : Int32) < (15 : Int32))).2.1 ?_
        refine g_aloadN X0 hx hby d11_13 rfl rfl ?_
        refine g_iload X0 hx hby d11_14 rfl ?_
        refine g_baload X0 hx hby hZ e0 VB (.int (37 : Int32)) ⟨by decide, by decide⟩ rfl d11_16 ?_
        refine g_iload X0 hx hby d11_17 rfl ?_
        by_cases hc19_4 : (37 : Int32) = (c.toInt8.toInt32)
        · skip
          refine g_icN X0 hx hby d11_19 (teq hc19_4).2 ?_
          refine g_iload X0 hx hby d11_22 rfl ?_
          refine g_iret X0 hx hby Bd.returns Bd.notSynchronized d11_24 e0 (by decide) (by decide) ?_
          show (Q_ioc Z b kb c h0 n0) (some (.int (3 : Int32))) _ _
          exact ⟨by simp [own_ioc, hc19_1, hc19_2, hc19_3, hc19_4], N0, rfl⟩
        · skip
          refine g_icY X0 hx hby 25 d11_19 (feq hc19_4).2 (by decide) (by decide) ?_
          refine g_iinc X0 hx hby (4 : Int32) d11_25 rfl (by decide) (l' := #[.val (.ref b), .val (.int c), .val (.int (0 : Int32)), .val (.int (15 : Int32)), .val (.int (c.toInt8.toInt32)), .val (.int (4 : Int32))]) rfl ?_
          refine g_goto X0 hx hby 7 d11_28 (by decide) (by decide) ?_
          refine g_iload X0 hx hby d11_7 rfl ?_
          refine g_iloadN X0 hx hby d11_9 rfl ?_
          refine g_icN X0 hx hby d11_10 (tlt (by decide : (4 : Int32) < (15 : Int32))).2.1 ?_
          refine g_aloadN X0 hx hby d11_13 rfl rfl ?_
          refine g_iload X0 hx hby d11_14 rfl ?_
          refine g_baload X0 hx hby hZ e0 VB (.int (38 : Int32)) ⟨by decide, by decide⟩ rfl d11_16 ?_
          refine g_iload X0 hx hby d11_17 rfl ?_
          by_cases hc19_5 : (38 : Int32) = (c.toInt8.toInt32)
          · skip
            refine g_icN X0 hx hby d11_19 (teq hc19_5).2 ?_
            refine g_iload X0 hx hby d11_22 rfl ?_
            refine g_iret X0 hx hby Bd.returns Bd.notSynchronized d11_24 e0 (by decide) (by decide) ?_
            show (Q_ioc Z b kb c h0 n0) (some (.int (4 : Int32))) _ _
            exact ⟨by simp [own_ioc, hc19_1, hc19_2, hc19_3, hc19_4, hc19_5], N0, rfl⟩
          · skip
            refine g_icY X0 hx hby 25 d11_19 (feq hc19_5).2 (by decide) (by decide) ?_
            refine g_iinc X0 hx hby (5 : Int32) d11_25 rfl (by decide) (l' := #[.val (.ref b), .val (.int c), .val (.int (0 : Int32)), .val (.int (15 : Int32)), .val (.int (c.toInt8.toInt32)), .val (.int (5 : Int32))]) rfl ?_
            refine g_goto X0 hx hby 7 d11_28 (by decide) (by decide) ?_
            refine g_iload X0 hx hby d11_7 rfl ?_
            refine g_iloadN X0 hx hby d11_9 rfl ?_
            refine g_icN X0 hx hby d11_10 (tlt (by decide : (5 : Int32) < (15 : Int32))).2.1 ?_
            refine g_aloadN X0 hx hby d11_13 rfl rfl ?_
            refine g_iload X0 hx hby d11_14 rfl ?_
            refine g_baload X0 hx hby hZ e0 VB (.int (39 : Int32)) ⟨by decide, by decide⟩ rfl d11_16 ?_
            refine g_iload X0 hx hby d11_17 rfl ?_
            by_cases hc19_6 : (39 : Int32) = (c.toInt8.toInt32)
            · skip
              refine g_icN X0 hx hby d11_19 (teq hc19_6).2 ?_
              refine g_iload X0 hx hby d11_22 rfl ?_
              refine g_iret X0 hx hby Bd.returns Bd.notSynchronized d11_24 e0 (by decide) (by decide) ?_
              show (Q_ioc Z b kb c h0 n0) (some (.int (5 : Int32))) _ _
              exact ⟨by simp [own_ioc, hc19_1, hc19_2, hc19_3, hc19_4, hc19_5, hc19_6], N0, rfl⟩
            · skip
              refine g_icY X0 hx hby 25 d11_19 (feq hc19_6).2 (by decide) (by decide) ?_
              refine g_iinc X0 hx hby (6 : Int32) d11_25 rfl (by decide) (l' := #[.val (.ref b), .val (.int c), .val (.int (0 : Int32)), .val (.int (15 : Int32)), .val (.int (c.toInt8.toInt32)), .val (.int (6 : Int32))]) rfl ?_
              refine g_goto X0 hx hby 7 d11_28 (by decide) (by decide) ?_
              refine g_iload X0 hx hby d11_7 rfl ?_
              refine g_iloadN X0 hx hby d11_9 rfl ?_
              refine g_icN X0 hx hby d11_10 (tlt (by decide : (6 : Int32) < (15 : Int32))).2.1 ?_
              refine g_aloadN X0 hx hby d11_13 rfl rfl ?_
              refine g_iload X0 hx hby d11_14 rfl ?_
              refine g_baload X0 hx hby hZ e0 VB (.int (42 : Int32)) ⟨by decide, by decide⟩ rfl d11_16 ?_
              refine g_iload X0 hx hby d11_17 rfl ?_
              by_cases hc19_7 : (42 : Int32) = (c.toInt8.toInt32)
              · skip
                refine g_icN X0 hx hby d11_19 (teq hc19_7).2 ?_
                refine g_iload X0 hx hby d11_22 rfl ?_
                refine g_iret X0 hx hby Bd.returns Bd.notSynchronized d11_24 e0 (by decide) (by decide) ?_
                show (Q_ioc Z b kb c h0 n0) (some (.int (6 : Int32))) _ _
                exact ⟨by simp [own_ioc, hc19_1, hc19_2, hc19_3, hc19_4, hc19_5, hc19_6, hc19_7], N0, rfl⟩
              · skip
                refine g_icY X0 hx hby 25 d11_19 (feq hc19_7).2 (by decide) (by decide) ?_
                refine g_iinc X0 hx hby (7 : Int32) d11_25 rfl (by decide) (l' := #[.val (.ref b), .val (.int c), .val (.int (0 : Int32)), .val (.int (15 : Int32)), .val (.int (c.toInt8.toInt32)), .val (.int (7 : Int32))]) rfl ?_
                refine g_goto X0 hx hby 7 d11_28 (by decide) (by decide) ?_
                refine g_iload X0 hx hby d11_7 rfl ?_
                refine g_iloadN X0 hx hby d11_9 rfl ?_
                refine g_icN X0 hx hby d11_10 (tlt (by decide : (7 : Int32) < (15 : Int32))).2.1 ?_
                refine g_aloadN X0 hx hby d11_13 rfl rfl ?_
                refine g_iload X0 hx hby d11_14 rfl ?_
                refine g_baload X0 hx hby hZ e0 VB (.int (43 : Int32)) ⟨by decide, by decide⟩ rfl d11_16 ?_
                refine g_iload X0 hx hby d11_17 rfl ?_
                by_cases hc19_8 : (43 : Int32) = (c.toInt8.toInt32)
                · skip
                  refine g_icN X0 hx hby d11_19 (teq hc19_8).2 ?_
                  refine g_iload X0 hx hby d11_22 rfl ?_
                  refine g_iret X0 hx hby Bd.returns Bd.notSynchronized d11_24 e0 (by decide) (by decide) ?_
                  show (Q_ioc Z b kb c h0 n0) (some (.int (7 : Int32))) _ _
                  exact ⟨by simp [own_ioc, hc19_1, hc19_2, hc19_3, hc19_4, hc19_5, hc19_6, hc19_7, hc19_8], N0, rfl⟩
                · skip
                  refine g_icY X0 hx hby 25 d11_19 (feq hc19_8).2 (by decide) (by decide) ?_
                  refine g_iinc X0 hx hby (8 : Int32) d11_25 rfl (by decide) (l' := #[.val (.ref b), .val (.int c), .val (.int (0 : Int32)), .val (.int (15 : Int32)), .val (.int (c.toInt8.toInt32)), .val (.int (8 : Int32))]) rfl ?_
                  refine g_goto X0 hx hby 7 d11_28 (by decide) (by decide) ?_
                  refine g_iload X0 hx hby d11_7 rfl ?_
                  refine g_iloadN X0 hx hby d11_9 rfl ?_
                  refine g_icN X0 hx hby d11_10 (tlt (by decide : (8 : Int32) < (15 : Int32))).2.1 ?_
                  refine g_aloadN X0 hx hby d11_13 rfl rfl ?_
                  refine g_iload X0 hx hby d11_14 rfl ?_
                  refine g_baload X0 hx hby hZ e0 VB (.int (45 : Int32)) ⟨by decide, by decide⟩ rfl d11_16 ?_
                  refine g_iload X0 hx hby d11_17 rfl ?_
                  by_cases hc19_9 : (45 : Int32) = (c.toInt8.toInt32)
                  · skip
                    refine g_icN X0 hx hby d11_19 (teq hc19_9).2 ?_
                    refine g_iload X0 hx hby d11_22 rfl ?_
                    refine g_iret X0 hx hby Bd.returns Bd.notSynchronized d11_24 e0 (by decide) (by decide) ?_
                    show (Q_ioc Z b kb c h0 n0) (some (.int (8 : Int32))) _ _
                    exact ⟨by simp [own_ioc, hc19_1, hc19_2, hc19_3, hc19_4, hc19_5, hc19_6, hc19_7, hc19_8, hc19_9], N0, rfl⟩
                  · skip
                    refine g_icY X0 hx hby 25 d11_19 (feq hc19_9).2 (by decide) (by decide) ?_
                    refine g_iinc X0 hx hby (9 : Int32) d11_25 rfl (by decide) (l' := #[.val (.ref b), .val (.int c), .val (.int (0 : Int32)), .val (.int (15 : Int32)), .val (.int (c.toInt8.toInt32)), .val (.int (9 : Int32))]) rfl ?_
                    refine g_goto X0 hx hby 7 d11_28 (by decide) (by decide) ?_
                    refine g_iload X0 hx hby d11_7 rfl ?_
                    refine g_iloadN X0 hx hby d11_9 rfl ?_
                    refine g_icN X0 hx hby d11_10 (tlt (by decide : (9 : Int32) < (15 : Int32))).2.1 ?_
                    refine g_aloadN X0 hx hby d11_13 rfl rfl ?_
                    refine g_iload X0 hx hby d11_14 rfl ?_
                    refine g_baload X0 hx hby hZ e0 VB (.int (46 : Int32)) ⟨by decide, by decide⟩ rfl d11_16 ?_
                    refine g_iload X0 hx hby d11_17 rfl ?_
                    by_cases hc19_10 : (46 : Int32) = (c.toInt8.toInt32)
                    · skip
                      refine g_icN X0 hx hby d11_19 (teq hc19_10).2 ?_
                      refine g_iload X0 hx hby d11_22 rfl ?_
                      refine g_iret X0 hx hby Bd.returns Bd.notSynchronized d11_24 e0 (by decide) (by decide) ?_
                      show (Q_ioc Z b kb c h0 n0) (some (.int (9 : Int32))) _ _
                      exact ⟨by simp [own_ioc, hc19_1, hc19_2, hc19_3, hc19_4, hc19_5, hc19_6, hc19_7, hc19_8, hc19_9, hc19_10], N0, rfl⟩
                    · skip
                      refine g_icY X0 hx hby 25 d11_19 (feq hc19_10).2 (by decide) (by decide) ?_
                      refine g_iinc X0 hx hby (10 : Int32) d11_25 rfl (by decide) (l' := #[.val (.ref b), .val (.int c), .val (.int (0 : Int32)), .val (.int (15 : Int32)), .val (.int (c.toInt8.toInt32)), .val (.int (10 : Int32))]) rfl ?_
                      refine g_goto X0 hx hby 7 d11_28 (by decide) (by decide) ?_
                      refine g_iload X0 hx hby d11_7 rfl ?_
                      refine g_iloadN X0 hx hby d11_9 rfl ?_
                      refine g_icN X0 hx hby d11_10 (tlt (by decide : (10 : Int32) < (15 : Int32))).2.1 ?_
                      refine g_aloadN X0 hx hby d11_13 rfl rfl ?_
                      refine g_iload X0 hx hby d11_14 rfl ?_
                      refine g_baload X0 hx hby hZ e0 VB (.int (94 : Int32)) ⟨by decide, by decide⟩ rfl d11_16 ?_
                      refine g_iload X0 hx hby d11_17 rfl ?_
                      by_cases hc19_11 : (94 : Int32) = (c.toInt8.toInt32)
                      · skip
                        refine g_icN X0 hx hby d11_19 (teq hc19_11).2 ?_
                        refine g_iload X0 hx hby d11_22 rfl ?_
                        refine g_iret X0 hx hby Bd.returns Bd.notSynchronized d11_24 e0 (by decide) (by decide) ?_
                        show (Q_ioc Z b kb c h0 n0) (some (.int (10 : Int32))) _ _
                        exact ⟨by simp [own_ioc, hc19_1, hc19_2, hc19_3, hc19_4, hc19_5, hc19_6, hc19_7, hc19_8, hc19_9, hc19_10, hc19_11], N0, rfl⟩
                      · skip
                        refine g_icY X0 hx hby 25 d11_19 (feq hc19_11).2 (by decide) (by decide) ?_
                        refine g_iinc X0 hx hby (11 : Int32) d11_25 rfl (by decide) (l' := #[.val (.ref b), .val (.int c), .val (.int (0 : Int32)), .val (.int (15 : Int32)), .val (.int (c.toInt8.toInt32)), .val (.int (11 : Int32))]) rfl ?_
                        refine g_goto X0 hx hby 7 d11_28 (by decide) (by decide) ?_
                        refine g_iload X0 hx hby d11_7 rfl ?_
                        refine g_iloadN X0 hx hby d11_9 rfl ?_
                        refine g_icN X0 hx hby d11_10 (tlt (by decide : (11 : Int32) < (15 : Int32))).2.1 ?_
                        refine g_aloadN X0 hx hby d11_13 rfl rfl ?_
                        refine g_iload X0 hx hby d11_14 rfl ?_
                        refine g_baload X0 hx hby hZ e0 VB (.int (95 : Int32)) ⟨by decide, by decide⟩ rfl d11_16 ?_
                        refine g_iload X0 hx hby d11_17 rfl ?_
                        by_cases hc19_12 : (95 : Int32) = (c.toInt8.toInt32)
                        · skip
                          refine g_icN X0 hx hby d11_19 (teq hc19_12).2 ?_
                          refine g_iload X0 hx hby d11_22 rfl ?_
                          refine g_iret X0 hx hby Bd.returns Bd.notSynchronized d11_24 e0 (by decide) (by decide) ?_
                          show (Q_ioc Z b kb c h0 n0) (some (.int (11 : Int32))) _ _
                          exact ⟨by simp [own_ioc, hc19_1, hc19_2, hc19_3, hc19_4, hc19_5, hc19_6, hc19_7, hc19_8, hc19_9, hc19_10, hc19_11, hc19_12], N0, rfl⟩
                        · skip
                          refine g_icY X0 hx hby 25 d11_19 (feq hc19_12).2 (by decide) (by decide) ?_
                          refine g_iinc X0 hx hby (12 : Int32) d11_25 rfl (by decide) (l' := #[.val (.ref b), .val (.int c), .val (.int (0 : Int32)), .val (.int (15 : Int32)), .val (.int (c.toInt8.toInt32)), .val (.int (12 : Int32))]) rfl ?_
                          refine g_goto X0 hx hby 7 d11_28 (by decide) (by decide) ?_
                          refine g_iload X0 hx hby d11_7 rfl ?_
                          refine g_iloadN X0 hx hby d11_9 rfl ?_
                          refine g_icN X0 hx hby d11_10 (tlt (by decide : (12 : Int32) < (15 : Int32))).2.1 ?_
                          refine g_aloadN X0 hx hby d11_13 rfl rfl ?_
                          refine g_iload X0 hx hby d11_14 rfl ?_
                          refine g_baload X0 hx hby hZ e0 VB (.int (96 : Int32)) ⟨by decide, by decide⟩ rfl d11_16 ?_
                          refine g_iload X0 hx hby d11_17 rfl ?_
                          by_cases hc19_13 : (96 : Int32) = (c.toInt8.toInt32)
                          · skip
                            refine g_icN X0 hx hby d11_19 (teq hc19_13).2 ?_
                            refine g_iload X0 hx hby d11_22 rfl ?_
                            refine g_iret X0 hx hby Bd.returns Bd.notSynchronized d11_24 e0 (by decide) (by decide) ?_
                            show (Q_ioc Z b kb c h0 n0) (some (.int (12 : Int32))) _ _
                            exact ⟨by simp [own_ioc, hc19_1, hc19_2, hc19_3, hc19_4, hc19_5, hc19_6, hc19_7, hc19_8, hc19_9, hc19_10, hc19_11, hc19_12, hc19_13], N0, rfl⟩
                          · skip
                            refine g_icY X0 hx hby 25 d11_19 (feq hc19_13).2 (by decide) (by decide) ?_
                            refine g_iinc X0 hx hby (13 : Int32) d11_25 rfl (by decide) (l' := #[.val (.ref b), .val (.int c), .val (.int (0 : Int32)), .val (.int (15 : Int32)), .val (.int (c.toInt8.toInt32)), .val (.int (13 : Int32))]) rfl ?_
                            refine g_goto X0 hx hby 7 d11_28 (by decide) (by decide) ?_
                            refine g_iload X0 hx hby d11_7 rfl ?_
                            refine g_iloadN X0 hx hby d11_9 rfl ?_
                            refine g_icN X0 hx hby d11_10 (tlt (by decide : (13 : Int32) < (15 : Int32))).2.1 ?_
                            refine g_aloadN X0 hx hby d11_13 rfl rfl ?_
                            refine g_iload X0 hx hby d11_14 rfl ?_
                            refine g_baload X0 hx hby hZ e0 VB (.int (124 : Int32)) ⟨by decide, by decide⟩ rfl d11_16 ?_
                            refine g_iload X0 hx hby d11_17 rfl ?_
                            by_cases hc19_14 : (124 : Int32) = (c.toInt8.toInt32)
                            · skip
                              refine g_icN X0 hx hby d11_19 (teq hc19_14).2 ?_
                              refine g_iload X0 hx hby d11_22 rfl ?_
                              refine g_iret X0 hx hby Bd.returns Bd.notSynchronized d11_24 e0 (by decide) (by decide) ?_
                              show (Q_ioc Z b kb c h0 n0) (some (.int (13 : Int32))) _ _
                              exact ⟨by simp [own_ioc, hc19_1, hc19_2, hc19_3, hc19_4, hc19_5, hc19_6, hc19_7, hc19_8, hc19_9, hc19_10, hc19_11, hc19_12, hc19_13, hc19_14], N0, rfl⟩
                            · skip
                              refine g_icY X0 hx hby 25 d11_19 (feq hc19_14).2 (by decide) (by decide) ?_
                              refine g_iinc X0 hx hby (14 : Int32) d11_25 rfl (by decide) (l' := #[.val (.ref b), .val (.int c), .val (.int (0 : Int32)), .val (.int (15 : Int32)), .val (.int (c.toInt8.toInt32)), .val (.int (14 : Int32))]) rfl ?_
                              refine g_goto X0 hx hby 7 d11_28 (by decide) (by decide) ?_
                              refine g_iload X0 hx hby d11_7 rfl ?_
                              refine g_iloadN X0 hx hby d11_9 rfl ?_
                              refine g_icN X0 hx hby d11_10 (tlt (by decide : (14 : Int32) < (15 : Int32))).2.1 ?_
                              refine g_aloadN X0 hx hby d11_13 rfl rfl ?_
                              refine g_iload X0 hx hby d11_14 rfl ?_
                              refine g_baload X0 hx hby hZ e0 VB (.int (126 : Int32)) ⟨by decide, by decide⟩ rfl d11_16 ?_
                              refine g_iload X0 hx hby d11_17 rfl ?_
                              by_cases hc19_15 : (126 : Int32) = (c.toInt8.toInt32)
                              · skip
                                refine g_icN X0 hx hby d11_19 (teq hc19_15).2 ?_
                                refine g_iload X0 hx hby d11_22 rfl ?_
                                refine g_iret X0 hx hby Bd.returns Bd.notSynchronized d11_24 e0 (by decide) (by decide) ?_
                                show (Q_ioc Z b kb c h0 n0) (some (.int (14 : Int32))) _ _
                                exact ⟨by simp [own_ioc, hc19_1, hc19_2, hc19_3, hc19_4, hc19_5, hc19_6, hc19_7, hc19_8, hc19_9, hc19_10, hc19_11, hc19_12, hc19_13, hc19_14, hc19_15], N0, rfl⟩
                              · skip
                                refine g_icY X0 hx hby 25 d11_19 (feq hc19_15).2 (by decide) (by decide) ?_
                                refine g_iinc X0 hx hby (15 : Int32) d11_25 rfl (by decide) (l' := #[.val (.ref b), .val (.int c), .val (.int (0 : Int32)), .val (.int (15 : Int32)), .val (.int (c.toInt8.toInt32)), .val (.int (15 : Int32))]) rfl ?_
                                refine g_goto X0 hx hby 7 d11_28 (by decide) (by decide) ?_
                                refine g_iload X0 hx hby d11_7 rfl ?_
                                refine g_iloadN X0 hx hby d11_9 rfl ?_
                                refine g_icY X0 hx hby 31 d11_10 (flt (by decide : ¬ ((15 : Int32) < (15 : Int32)))).2.1 (by decide) (by decide) ?_
                                refine g_iconst X0 hx hby (-1 : Int32) d11_31 rfl ?_
                                refine g_iret X0 hx hby Bd.returns Bd.notSynchronized d11_32 e0 (by decide) (by decide) ?_
                                show (Q_ioc Z b kb c h0 n0) (some (.int (-1 : Int32))) _ _
                                exact ⟨by simp [own_ioc, hc19_1, hc19_2, hc19_3, hc19_4, hc19_5, hc19_6, hc19_7, hc19_8, hc19_9, hc19_10, hc19_11, hc19_12, hc19_13, hc19_14, hc19_15], N0, rfl⟩

theorem d7_0 : decode jdk_43_method_22_code 0 = .ok (.iload_n 1, 1) := by decide +kernel
theorem d7_1 : decode jdk_43_method_22_code 1 = .ok (.invokestatic 88, 3) := by decide +kernel
theorem own_pd0 : parseMethodDescriptor "(I)Z" = some ⟨[.int], some .boolean⟩ := by decide +kernel
theorem d7_4 : decode jdk_43_method_22_code 4 = .ok (.ifCond .ne 5, 3) := by decide +kernel
theorem d7_7 : decode jdk_43_method_22_code 7 = .ok (.iconst (-1), 1) := by decide +kernel
theorem d7_8 : decode jdk_43_method_22_code 8 = .ok (.ireturn, 1) := by decide +kernel
theorem d7_9 : decode jdk_43_method_22_code 9 = .ok (.iload_n 2, 1) := by decide +kernel
theorem d7_10 : decode jdk_43_method_22_code 10 = .ok (.iconst 0, 1) := by decide +kernel
theorem d7_11 : decode jdk_43_method_22_code 11 = .ok (.invokestatic 92, 3) := by decide +kernel
theorem own_pd1 : parseMethodDescriptor "(II)I" = some ⟨[.int, .int], some .int⟩ := by decide +kernel
theorem d7_14 : decode jdk_43_method_22_code 14 = .ok (.istore_n 2, 1) := by decide +kernel
theorem d7_15 : decode jdk_43_method_22_code 15 = .ok (.iload_n 3, 1) := by decide +kernel
theorem d7_16 : decode jdk_43_method_22_code 16 = .ok (.aload_n 0, 1) := by decide +kernel
theorem d7_17 : decode jdk_43_method_22_code 17 = .ok (.arraylength, 1) := by decide +kernel
theorem d7_18 : decode jdk_43_method_22_code 18 = .ok (.invokestatic 38, 3) := by decide +kernel
theorem d7_21 : decode jdk_43_method_22_code 21 = .ok (.istore_n 3, 1) := by decide +kernel
theorem d7_22 : decode jdk_43_method_22_code 22 = .ok (.iload_n 2, 1) := by decide +kernel
theorem d7_23 : decode jdk_43_method_22_code 23 = .ok (.iload_n 3, 1) := by decide +kernel
theorem d7_24 : decode jdk_43_method_22_code 24 = .ok (.if_icmp .lt 5, 3) := by decide +kernel
theorem d7_29 : decode jdk_43_method_22_code 29 = .ok (.aload_n 0, 1) := by decide +kernel
theorem d7_30 : decode jdk_43_method_22_code 30 = .ok (.iload_n 1, 1) := by decide +kernel
theorem d7_31 : decode jdk_43_method_22_code 31 = .ok (.iload_n 2, 1) := by decide +kernel
theorem d7_32 : decode jdk_43_method_22_code 32 = .ok (.iload_n 3, 1) := by decide +kernel
theorem d7_33 : decode jdk_43_method_22_code 33 = .ok (.invokestatic 95, 3) := by decide +kernel
theorem own_pd2 : parseMethodDescriptor "([BIII)I" = some ⟨[(.array .byte), .int, .int, .int], some .int⟩ := by decide +kernel
theorem d7_36 : decode jdk_43_method_22_code 36 = .ok (.ireturn, 1) := by decide +kernel
def Q_lio (Z : State) (b : Addr) (kb : ClassId) (c : Int32) (h0 : Heap) (n0 : Nat) (v : Option Value) (h : Heap) (L : List Loc) : Prop := v = some (.int (own_idx c)) ∧ Fr n0 L ∧ h = h0
set_option maxRecDepth 65536 in
set_option maxHeartbeats 40000000 in
theorem rm_lio (l : Launch) (Z : State) (a0 : Array Value) (hw : ∀ d ∈ tables_1, d.before a0 Z = true) (ws : List Jvm.Cond) (b : Addr) (kb : ClassId) (c : Int32) (h0 : Heap) (n0 : Nat) (Z0 : n0 ≤ h0.size) (VB : Arv Z h0 b kb .byte (15 : Int32) [(.int (33 : Int32)), (.int (35 : Int32)), (.int (36 : Int32)), (.int (37 : Int32)), (.int (38 : Int32)), (.int (39 : Int32)), (.int (42 : Int32)), (.int (43 : Int32)), (.int (45 : Int32)), (.int (46 : Int32)), (.int (94 : Int32)), (.int (95 : Int32)), (.int (96 : Int32)), (.int (124 : Int32)), (.int (126 : Int32))] (.int (0 : Int32))) :
    MetFree l (⟨"java/lang/StringLatin1", "indexOf", "([BIII)I"⟩ : MethodName) (head1 (Jvm.Cond.code (⟨"java/lang/StringLatin1", "indexOf", "([BIII)I"⟩ : MethodName) jdk_43_method_22_code 4 (some .int) :: ws) ({ frames := 1, cells := 0, slots := 0, locals := 17 } : Room)) (fun aa_ U => aa_ = #[(.ref b), (.int c), (.int (0 : Int32)), (.int (15 : Int32))] ∧ Z.Warmed39 U.vm ∧ U.heap = h0) (fun _ _ _ _ _ => True) (fun _ U o_ U' => RetG U (Q_lio Z b kb c h0 n0) 0 0 U' o_) := by
  refine MetFree.of_bodySF (plainFor_of_name own_pn0) hisR ?_
  intro p e s m args below meth c_ s₁ Bd hml0 hP hK
  obtain ⟨rfl, hZ, hh⟩ := hP
  have hx := Bd.exec
  have hby := Bd.bytes
  have hml : c_.maxLocals = 4 := hml0
  have hown : s.vm.findClass "java/lang/StringLatin1" = some m.cls := findClass_of_methodNamed Bd.named
  have hnm := (name_of_methodNamed Bd.named Bd.method).1
  have X0 : Stand p l e ({ frames := 1, cells := 0, slots := 0, locals := 17 } : Room) s m #[(.ref b), (.int c), (.int (0 : Int32)), (.int (15 : Int32))] below meth c_ s₁ [] 0 0 := Stand.of_body Bd
  have e0 : s₁.heap = h0 := by rw [← hh, Bd.state]; rfl
  have N0 := Fr.nil n0
  have w43_ := hw _ (List.mem_of_getElem? (i := 43) rfl)
  have w45_ := hw _ (List.mem_of_getElem? (i := 45) rfl)
  have w46_ := hw _ (List.mem_of_getElem? (i := 46) rfl)
  have w47_ := hw _ (List.mem_of_getElem? (i := 47) rfl)
  have w48_ := hw _ (List.mem_of_getElem? (i := 48) rfl)
  have w49_ := hw _ (List.mem_of_getElem? (i := 49) rfl)
  have w50_ := hw _ (List.mem_of_getElem? (i := 50) rfl)
  have w51_ := hw _ (List.mem_of_getElem? (i := 51) rfl)
  have w52_ := hw _ (List.mem_of_getElem? (i := 52) rfl)
  have w53_ := hw _ (List.mem_of_getElem? (i := 53) rfl)
  have w54_ := hw _ (List.mem_of_getElem? (i := 54) rfl)
  have w55_ := hw _ (List.mem_of_getElem? (i := 55) rfl)
  have w56_ := hw _ (List.mem_of_getElem? (i := 56) rfl)
  have w57_ := hw _ (List.mem_of_getElem? (i := 57) rfl)
  show Go p e below (RetG s (Q_lio Z b kb c h0 n0) 0 0) (s₁.setTop (entryFrame m #[(.ref b), (.int c), (.int (0 : Int32)), (.int (15 : Int32))] 4))
  rw [show entryFrame m #[(.ref b), (.int c), (.int (0 : Int32)), (.int (15 : Int32))] 4 = mkF m 0 #[.val (.ref b), .val (.int c), .val (.int (0 : Int32)), .val (.int (15 : Int32))] [] from by first | (simp [entryFrame, mkF, argsToLocals, Value.category]; done) | rfl]
  refine g_iloadN X0 hx hby d7_0 rfl ?_
  refine g_static X0 hx hby hZ hown (rm_can l Z a0 hw [] c h0 n0 Z0 ) w45_ w46_ w43_ w47_ (by decide) e0 (by rw [hml]; rfl) [(.int c)] (lenOf own_pd0 rfl) rfl rfl (Nat.le_of_ble_eq_true rfl) (Nat.le_of_ble_eq_true rfl) (Nat.le_of_ble_eq_true rfl) (Nat.le_of_ble_eq_true rfl) d7_1 (fun v1 T1 L1 X1 hQ1 => ?_)
  obtain ⟨rfl, N1q, eh1⟩ := hQ1
  have N1 := Fr.app N0 N1q
  by_cases hc4_2 : (own_can c) = (0 : Int32)
  · skip
    refine g_ifN X1 hx hby d7_4 (teq hc4_2).2 ?_
    refine g_iconst X1 hx hby (-1 : Int32) d7_7 rfl ?_
    refine g_iret X1 hx hby Bd.returns Bd.notSynchronized d7_8 eh1 (by decide) (by decide) ?_
    show (Q_lio Z b kb c h0 n0) (some (.int (-1 : Int32))) _ _
    exact ⟨by simp [own_idx, hc4_2], N1, rfl⟩
  · skip
    refine g_ifY X1 hx hby 9 d7_4 (feq hc4_2).2 (by decide) (by decide) ?_
    refine g_iloadN X1 hx hby d7_9 rfl ?_
    refine g_iconst X1 hx hby (0 : Int32) d7_10 rfl ?_
    refine g_static X1 hx hby hZ hown (rm_mmax l Z a0 hw [] (0 : Int32) (0 : Int32) h0 n0 Z0 ) w48_ w49_ w50_ w51_ (by decide) eh1 (by rw [hml]; rfl) [(.int (0 : Int32)), (.int (0 : Int32))] (lenOf own_pd1 rfl) rfl rfl (Nat.le_of_ble_eq_true rfl) (Nat.le_of_ble_eq_true rfl) (Nat.le_of_ble_eq_true rfl) (Nat.le_of_ble_eq_true rfl) d7_11 (fun v3 T3 L3 X3 hQ3 => ?_)
    obtain ⟨rfl, N3q, eh3⟩ := hQ3
    have N3 := Fr.app N1 N3q
    refine g_topI (T := T3) (0 : Int32) (by decide) ?_
    refine g_istoreN X3 hx hby d7_14 (l' := #[.val (.ref b), .val (.int c), .val (.int (0 : Int32)), .val (.int (15 : Int32))]) rfl ?_
    refine g_iloadN X3 hx hby d7_15 rfl ?_
    refine g_aloadN X3 hx hby d7_16 rfl rfl ?_
    refine g_arraylength X3 hx hby hZ eh3 VB d7_17 ?_
    refine g_static X3 hx hby hZ hown (rm_mmin l Z a0 hw [] (15 : Int32) (15 : Int32) h0 n0 Z0 ) w52_ w53_ w50_ w54_ (by decide) eh3 (by rw [hml]; rfl) [(.int (15 : Int32)), (.int (15 : Int32))] (lenOf own_pd1 rfl) rfl rfl (Nat.le_of_ble_eq_true rfl) (Nat.le_of_ble_eq_true rfl) (Nat.le_of_ble_eq_true rfl) (Nat.le_of_ble_eq_true rfl) d7_18 (fun v4 T4 L4 X4 hQ4 => ?_)
    obtain ⟨rfl, N4q, eh4⟩ := hQ4
    have N4 := Fr.app N3 N4q
    refine g_topI (T := T4) (15 : Int32) (by decide) ?_
    refine g_istoreN X4 hx hby d7_21 (l' := #[.val (.ref b), .val (.int c), .val (.int (0 : Int32)), .val (.int (15 : Int32))]) rfl ?_
    refine g_iloadN X4 hx hby d7_22 rfl ?_
    refine g_iloadN X4 hx hby d7_23 rfl ?_
    refine g_icY X4 hx hby 29 d7_24 (tlt (by decide : (0 : Int32) < (15 : Int32))).1 (by decide) (by decide) ?_
    refine g_aloadN X4 hx hby d7_29 rfl rfl ?_
    refine g_iloadN X4 hx hby d7_30 rfl ?_
    refine g_iloadN X4 hx hby d7_31 rfl ?_
    refine g_iloadN X4 hx hby d7_32 rfl ?_
    refine g_static X4 hx hby hZ hown (rm_ioc l Z a0 hw [] b kb c h0 n0 Z0 VB) w55_ w56_ w43_ w57_ (by decide) eh4 (by rw [hml]; rfl) [(.ref b), (.int c), (.int (0 : Int32)), (.int (15 : Int32))] (lenOf own_pd2 rfl) rfl rfl (Nat.le_of_ble_eq_true rfl) (Nat.le_of_ble_eq_true rfl) (Nat.le_of_ble_eq_true rfl) (Nat.le_of_ble_eq_true rfl) d7_33 (fun v5 T5 L5 X5 hQ5 => ?_)
    obtain ⟨rfl, N5q, eh5⟩ := hQ5
    have N5 := Fr.app N4 N5q
    refine g_iret X5 hx hby Bd.returns Bd.notSynchronized d7_36 eh5 (by decide) (by decide) ?_
    show (Q_lio Z b kb c h0 n0) (some (.int (own_ioc c))) _ _
    exact ⟨by simp [own_idx, hc4_2], N5, rfl⟩

theorem d6_0 : decode jdk_42_method_152_code 0 = .ok (.getstatic 38, 3) := by decide +kernel
theorem d6_3 : decode jdk_42_method_152_code 3 = .ok (.ifCond .eq 10, 3) := by decide +kernel
theorem d6_6 : decode jdk_42_method_152_code 6 = .ok (.aload_n 0, 1) := by decide +kernel
theorem d6_7 : decode jdk_42_method_152_code 7 = .ok (.getfield 15, 3) := by decide +kernel
theorem d6_10 : decode jdk_42_method_152_code 10 = .ok (.goto 4, 3) := by decide +kernel
theorem d6_14 : decode jdk_42_method_152_code 14 = .ok (.ireturn, 1) := by decide +kernel
theorem own_pn2 : plainName "java/lang/String" = true := by first | (simp [plainName, overriddenIn]; done) | decide +kernel
def Q_coder (Z : State) (a : Addr) (cd : Int32) (cz : Int32) (h0 : Heap) (n0 : Nat) (v : Option Value) (h : Heap) (L : List Loc) : Prop := v = some (.int (nar .byte cd)) ∧ Fr n0 L ∧ h = h0
set_option maxRecDepth 65536 in
set_option maxHeartbeats 40000000 in
theorem rm_coder (l : Launch) (Z : State) (a0 : Array Value) (hw : ∀ d ∈ tables_1, d.before a0 Z = true) (ws : List Jvm.Cond) (a : Addr) (cd : Int32) (cz : Int32) (h0 : Heap) (n0 : Nat) (Z0 : n0 ≤ h0.size) (O2 : Sta Z Z.heap "java/lang/String" "COMPACT_STRINGS" "Z" (.int cz)) (P5 : ¬ cz = (0 : Int32)) (OLD : Old Z n0 h0) (C : Fld Z h0 a "java/lang/String" "coder" "B" (.int cd)) :
    MetFree l (⟨"java/lang/String", "coder", "()B"⟩ : MethodName) (head1 (Jvm.Cond.code (⟨"java/lang/String", "coder", "()B"⟩ : MethodName) jdk_42_method_152_code 1 (some .byte) :: ws) ({ frames := 0, cells := 0, slots := 0, locals := 0 } : Room)) (fun aa_ U => aa_ = #[(.ref a)] ∧ Z.Warmed39 U.vm ∧ U.heap = h0) (fun _ _ _ _ _ => True) (fun _ U o_ U' => RetG U (Q_coder Z a cd cz h0 n0) 0 0 U' o_) := by
  refine MetFree.of_bodySF (plainFor_of_name own_pn2) hisR ?_
  intro p e s m args below meth c_ s₁ Bd hml0 hP hK
  obtain ⟨rfl, hZ, hh⟩ := hP
  have hx := Bd.exec
  have hby := Bd.bytes
  have hml : c_.maxLocals = 1 := hml0
  have hown : s.vm.findClass "java/lang/String" = some m.cls := findClass_of_methodNamed Bd.named
  have hnm := (name_of_methodNamed Bd.named Bd.method).1
  have X0 : Stand p l e ({ frames := 0, cells := 0, slots := 0, locals := 0 } : Room) s m #[(.ref a)] below meth c_ s₁ [] 0 0 := Stand.of_body Bd
  have e0 : s₁.heap = h0 := by rw [← hh, Bd.state]; rfl
  have N0 := Fr.nil n0
  have w28_ := hw _ (List.mem_of_getElem? (i := 28) rfl)
  have w29_ := hw _ (List.mem_of_getElem? (i := 29) rfl)
  show Go p e below (RetG s (Q_coder Z a cd cz h0 n0) 0 0) (s₁.setTop (entryFrame m #[(.ref a)] 1))
  rw [show entryFrame m #[(.ref a)] 1 = mkF m 0 #[.val (.ref a)] [] from by first | (simp [entryFrame, mkF, argsToLocals, Value.category]; done) | rfl]
  refine g_getS X0 hx hby hZ hown (host := "") (Or.inl w28_) Via.refl e0 (O2.ext OLD.2) d6_0 (fun T1 X1 e1 => ?_)
  refine g_ifN X1 hx hby d6_3 (feq (P5 : ¬ (cz = (0 : Int32)))).1 ?_
  refine g_aloadN X1 hx hby d6_6 rfl rfl ?_
  refine g_getF X1 hx hby hZ hown (host := "") (Or.inl w29_) Via.refl e1 C d6_7 (fun T2 X2 e2 => ?_)
  refine g_goto X2 hx hby 14 d6_10 (by decide) (by decide) ?_
  refine g_nret X2 hx hby (t := .byte) (by simp) Bd.returns Bd.notSynchronized d6_14 e2 (by decide) (by decide) ?_
  show (Q_coder Z a cd cz h0 n0) (some (.int (nar .byte cd))) _ _
  exact ⟨rfl, N0, rfl⟩

theorem d4_0 : decode jdk_42_method_154_code 0 = .ok (.getstatic 38, 3) := by decide +kernel
theorem d4_3 : decode jdk_42_method_154_code 3 = .ok (.ifCond .eq 14, 3) := by decide +kernel
theorem d4_6 : decode jdk_42_method_154_code 6 = .ok (.aload_n 0, 1) := by decide +kernel
theorem d4_7 : decode jdk_42_method_154_code 7 = .ok (.getfield 15, 3) := by decide +kernel
theorem d4_10 : decode jdk_42_method_154_code 10 = .ok (.ifCond .ne 7, 3) := by decide +kernel
theorem d4_13 : decode jdk_42_method_154_code 13 = .ok (.iconst 1, 1) := by decide +kernel
theorem d4_14 : decode jdk_42_method_154_code 14 = .ok (.goto 4, 3) := by decide +kernel
theorem d4_18 : decode jdk_42_method_154_code 18 = .ok (.ireturn, 1) := by decide +kernel
def Q_islat (Z : State) (a : Addr) (cz : Int32) (h0 : Heap) (n0 : Nat) (v : Option Value) (h : Heap) (L : List Loc) : Prop := v = some (.int (1 : Int32)) ∧ Fr n0 L ∧ h = h0
set_option maxRecDepth 65536 in
set_option maxHeartbeats 40000000 in
theorem rm_islat (l : Launch) (Z : State) (a0 : Array Value) (hw : ∀ d ∈ tables_1, d.before a0 Z = true) (ws : List Jvm.Cond) (a : Addr) (cz : Int32) (h0 : Heap) (n0 : Nat) (Z0 : n0 ≤ h0.size) (O2 : Sta Z Z.heap "java/lang/String" "COMPACT_STRINGS" "Z" (.int cz)) (P5 : ¬ cz = (0 : Int32)) (OLD : Old Z n0 h0) (C : Fld Z h0 a "java/lang/String" "coder" "B" (.int (0 : Int32))) :
    MetFree l (⟨"java/lang/String", "isLatin1", "()Z"⟩ : MethodName) (head1 (Jvm.Cond.code (⟨"java/lang/String", "isLatin1", "()Z"⟩ : MethodName) jdk_42_method_154_code 1 (some .boolean) :: ws) ({ frames := 0, cells := 0, slots := 0, locals := 0 } : Room)) (fun aa_ U => aa_ = #[(.ref a)] ∧ Z.Warmed39 U.vm ∧ U.heap = h0) (fun _ _ _ _ _ => True) (fun _ U o_ U' => RetG U (Q_islat Z a cz h0 n0) 0 0 U' o_) := by
  refine MetFree.of_bodySF (plainFor_of_name own_pn2) hisR ?_
  intro p e s m args below meth c_ s₁ Bd hml0 hP hK
  obtain ⟨rfl, hZ, hh⟩ := hP
  have hx := Bd.exec
  have hby := Bd.bytes
  have hml : c_.maxLocals = 1 := hml0
  have hown : s.vm.findClass "java/lang/String" = some m.cls := findClass_of_methodNamed Bd.named
  have hnm := (name_of_methodNamed Bd.named Bd.method).1
  have X0 : Stand p l e ({ frames := 0, cells := 0, slots := 0, locals := 0 } : Room) s m #[(.ref a)] below meth c_ s₁ [] 0 0 := Stand.of_body Bd
  have e0 : s₁.heap = h0 := by rw [← hh, Bd.state]; rfl
  have N0 := Fr.nil n0
  have w28_ := hw _ (List.mem_of_getElem? (i := 28) rfl)
  have w29_ := hw _ (List.mem_of_getElem? (i := 29) rfl)
  show Go p e below (RetG s (Q_islat Z a cz h0 n0) 0 0) (s₁.setTop (entryFrame m #[(.ref a)] 1))
  rw [show entryFrame m #[(.ref a)] 1 = mkF m 0 #[.val (.ref a)] [] from by first | (simp [entryFrame, mkF, argsToLocals, Value.category]; done) | rfl]
  refine g_getS X0 hx hby hZ hown (host := "") (Or.inl w28_) Via.refl e0 (O2.ext OLD.2) d4_0 (fun T1 X1 e1 => ?_)
  refine g_ifN X1 hx hby d4_3 (feq (P5 : ¬ (cz = (0 : Int32)))).1 ?_
  refine g_aloadN X1 hx hby d4_6 rfl rfl ?_
  refine g_getF X1 hx hby hZ hown (host := "") (Or.inl w29_) Via.refl e1 C d4_7 (fun T2 X2 e2 => ?_)
  refine g_ifN X2 hx hby d4_10 (teq (by decide : (0 : Int32) = (0 : Int32))).2 ?_
  refine g_iconst X2 hx hby (1 : Int32) d4_13 rfl ?_
  refine g_goto X2 hx hby 18 d4_14 (by decide) (by decide) ?_
  refine g_nret X2 hx hby (t := .boolean) (by simp) Bd.returns Bd.notSynchronized d4_18 e2 (by decide) (by decide) ?_
  show (Q_islat Z a cz h0 n0) (some (.int (1 : Int32))) _ _
  exact ⟨rfl, N0, rfl⟩

theorem d5_0 : decode jdk_42_method_54_code 0 = .ok (.aload_n 0, 1) := by decide +kernel
theorem d5_1 : decode jdk_42_method_54_code 1 = .ok (.getfield 9, 3) := by decide +kernel
theorem d5_4 : decode jdk_42_method_54_code 4 = .ok (.arraylength, 1) := by decide +kernel
theorem d5_5 : decode jdk_42_method_54_code 5 = .ok (.aload_n 0, 1) := by decide +kernel
theorem d5_6 : decode jdk_42_method_54_code 6 = .ok (.invokevirtual 335, 3) := by decide +kernel
theorem own_pd3 : parseMethodDescriptor "()B" = some ⟨[], some .byte⟩ := by decide +kernel
theorem d5_9 : decode jdk_42_method_54_code 9 = .ok (.ishr, 1) := by decide +kernel
theorem d5_10 : decode jdk_42_method_54_code 10 = .ok (.ireturn, 1) := by decide +kernel
def Q_slen (Z : State) (a : Addr) (b : Addr) (kb : ClassId) (cz : Int32) (h0 : Heap) (n0 : Nat) (v : Option Value) (h : Heap) (L : List Loc) : Prop := v = some (.int (15 : Int32)) ∧ Fr n0 L ∧ h = h0
set_option maxRecDepth 65536 in
set_option maxHeartbeats 40000000 in
theorem rm_slen (l : Launch) (Z : State) (a0 : Array Value) (hw : ∀ d ∈ tables_1, d.before a0 Z = true) (ws : List Jvm.Cond) (a : Addr) (b : Addr) (kb : ClassId) (cz : Int32) (h0 : Heap) (n0 : Nat) (Z0 : n0 ≤ h0.size) (O2 : Sta Z Z.heap "java/lang/String" "COMPACT_STRINGS" "Z" (.int cz)) (P5 : ¬ cz = (0 : Int32)) (OLD : Old Z n0 h0) (E : Exa Z h0 a "java/lang/String") (C : Fld Z h0 a "java/lang/String" "coder" "B" (.int (0 : Int32))) (VF : Fld Z h0 a "java/lang/String" "value" "[B" (.ref b)) (VB : Arv Z h0 b kb .byte (15 : Int32) [(.int (33 : Int32)), (.int (35 : Int32)), (.int (36 : Int32)), (.int (37 : Int32)), (.int (38 : Int32)), (.int (39 : Int32)), (.int (42 : Int32)), (.int (43 : Int32)), (.int (45 : Int32)), (.int (46 : Int32)), (.int (94 : Int32)), (.int (95 : Int32)), (.int (96 : Int32)), (.int (124 : Int32)), (.int (126 : Int32))] (.int (0 : Int32))) :
    MetFree l (⟨"java/lang/String", "length", "()I"⟩ : MethodName) (head1 (Jvm.Cond.code (⟨"java/lang/String", "length", "()I"⟩ : MethodName) jdk_42_method_54_code 1 (some .int) :: ws) ({ frames := 1, cells := 0, slots := 0, locals := 13 } : Room)) (fun aa_ U => aa_ = #[(.ref a)] ∧ Z.Warmed39 U.vm ∧ U.heap = h0) (fun _ _ _ _ _ => True) (fun _ U o_ U' => RetG U (Q_slen Z a b kb cz h0 n0) 0 0 U' o_) := by
  refine MetFree.of_bodySF (plainFor_of_name own_pn2) hisR ?_
  intro p e s m args below meth c_ s₁ Bd hml0 hP hK
  obtain ⟨rfl, hZ, hh⟩ := hP
  have hx := Bd.exec
  have hby := Bd.bytes
  have hml : c_.maxLocals = 1 := hml0
  have hown : s.vm.findClass "java/lang/String" = some m.cls := findClass_of_methodNamed Bd.named
  have hnm := (name_of_methodNamed Bd.named Bd.method).1
  have X0 : Stand p l e ({ frames := 1, cells := 0, slots := 0, locals := 13 } : Room) s m #[(.ref a)] below meth c_ s₁ [] 0 0 := Stand.of_body Bd
  have e0 : s₁.heap = h0 := by rw [← hh, Bd.state]; rfl
  have N0 := Fr.nil n0
  have w6_ := hw _ (List.mem_of_getElem? (i := 6) rfl)
  have w30_ := hw _ (List.mem_of_getElem? (i := 30) rfl)
  have w36_ := hw _ (List.mem_of_getElem? (i := 36) rfl)
  have w37_ := hw _ (List.mem_of_getElem? (i := 37) rfl)
  have w38_ := hw _ (List.mem_of_getElem? (i := 38) rfl)
  have w39_ := hw _ (List.mem_of_getElem? (i := 39) rfl)
  have w40_ := hw _ (List.mem_of_getElem? (i := 40) rfl)
  show Go p e below (RetG s (Q_slen Z a b kb cz h0 n0) 0 0) (s₁.setTop (entryFrame m #[(.ref a)] 1))
  rw [show entryFrame m #[(.ref a)] 1 = mkF m 0 #[.val (.ref a)] [] from by first | (simp [entryFrame, mkF, argsToLocals, Value.category]; done) | rfl]
  refine g_aloadN X0 hx hby d5_0 rfl rfl ?_
  refine g_getF X0 hx hby hZ hown (host := "") (Or.inl w30_) Via.refl e0 VF d5_1 (fun T1 X1 e1 => ?_)
  refine g_arraylength X1 hx hby hZ e1 VB d5_4 ?_
  refine g_aloadN X1 hx hby d5_5 rfl rfl ?_
  refine g_virtual X1 hx hby hZ hown (rm_coder l Z a0 hw [] a (0 : Int32) cz h0 n0 Z0 O2 P5 OLD C) w36_ w37_ (notFace_of_selects (args := #[]) (mvT hZ w39_)) w39_ w38_ w6_ w40_ (by decide) e1 E (by rw [hml]; rfl) [] (lenOf own_pd3 rfl) rfl rfl (Nat.le_of_ble_eq_true rfl) (Nat.le_of_ble_eq_true rfl) (Nat.le_of_ble_eq_true rfl) (Nat.le_of_ble_eq_true rfl) d5_6 (fun v2 T2 L2 X2 hQ2 => ?_)
  obtain ⟨rfl, N2q, eh2⟩ := hQ2
  have N2 := Fr.app N0 N2q
  refine g_topI (T := T2) (0 : Int32) (by decide) ?_
  refine g_ishr X2 hx hby d5_9 ?_
  refine g_topI (15 : Int32) (by decide) ?_
  refine g_iret X2 hx hby Bd.returns Bd.notSynchronized d5_10 eh2 (by decide) (by decide) ?_
  show (Q_slen Z a b kb cz h0 n0) (some (.int (15 : Int32))) _ _
  exact ⟨rfl, N2, rfl⟩

theorem d3_0 : decode jdk_42_method_80_code 0 = .ok (.aload_n 0, 1) := by decide +kernel
theorem d3_1 : decode jdk_42_method_80_code 1 = .ok (.invokevirtual 492, 3) := by decide +kernel
theorem own_pd4 : parseMethodDescriptor "()Z" = some ⟨[], some .boolean⟩ := by decide +kernel
theorem d3_4 : decode jdk_42_method_80_code 4 = .ok (.ifCond .eq 19, 3) := by decide +kernel
theorem d3_7 : decode jdk_42_method_80_code 7 = .ok (.aload_n 0, 1) := by decide +kernel
theorem d3_8 : decode jdk_42_method_80_code 8 = .ok (.getfield 9, 3) := by decide +kernel
theorem d3_11 : decode jdk_42_method_80_code 11 = .ok (.iload_n 1, 1) := by decide +kernel
theorem d3_12 : decode jdk_42_method_80_code 12 = .ok (.iload_n 2, 1) := by decide +kernel
theorem d3_13 : decode jdk_42_method_80_code 13 = .ok (.aload_n 0, 1) := by decide +kernel
theorem d3_14 : decode jdk_42_method_80_code 14 = .ok (.invokevirtual 505, 3) := by decide +kernel
theorem own_pd5 : parseMethodDescriptor "()I" = some ⟨[], some .int⟩ := by decide +kernel
theorem d3_17 : decode jdk_42_method_80_code 17 = .ok (.invokestatic 637, 3) := by decide +kernel
theorem d3_20 : decode jdk_42_method_80_code 20 = .ok (.goto 16, 3) := by decide +kernel
theorem d3_36 : decode jdk_42_method_80_code 36 = .ok (.ireturn, 1) := by decide +kernel
def Q_sio2 (Z : State) (a : Addr) (b : Addr) (kb : ClassId) (c : Int32) (cz : Int32) (h0 : Heap) (n0 : Nat) (v : Option Value) (h : Heap) (L : List Loc) : Prop := v = some (.int (own_idx c)) ∧ Fr n0 L ∧ h = h0
set_option maxRecDepth 65536 in
set_option maxHeartbeats 40000000 in
theorem rm_sio2 (l : Launch) (Z : State) (a0 : Array Value) (hw : ∀ d ∈ tables_1, d.before a0 Z = true) (ws : List Jvm.Cond) (a : Addr) (b : Addr) (kb : ClassId) (c : Int32) (cz : Int32) (h0 : Heap) (n0 : Nat) (Z0 : n0 ≤ h0.size) (O2 : Sta Z Z.heap "java/lang/String" "COMPACT_STRINGS" "Z" (.int cz)) (P5 : ¬ cz = (0 : Int32)) (OLD : Old Z n0 h0) (E : Exa Z h0 a "java/lang/String") (C : Fld Z h0 a "java/lang/String" "coder" "B" (.int (0 : Int32))) (VF : Fld Z h0 a "java/lang/String" "value" "[B" (.ref b)) (VB : Arv Z h0 b kb .byte (15 : Int32) [(.int (33 : Int32)), (.int (35 : Int32)), (.int (36 : Int32)), (.int (37 : Int32)), (.int (38 : Int32)), (.int (39 : Int32)), (.int (42 : Int32)), (.int (43 : Int32)), (.int (45 : Int32)), (.int (46 : Int32)), (.int (94 : Int32)), (.int (95 : Int32)), (.int (96 : Int32)), (.int (124 : Int32)), (.int (126 : Int32))] (.int (0 : Int32))) :
    MetFree l (⟨"java/lang/String", "indexOf", "(II)I"⟩ : MethodName) (head1 (Jvm.Cond.code (⟨"java/lang/String", "indexOf", "(II)I"⟩ : MethodName) jdk_42_method_80_code 3 (some .int) :: ws) ({ frames := 2, cells := 0, slots := 0, locals := 32 } : Room)) (fun aa_ U => aa_ = #[(.ref a), (.int c), (.int (0 : Int32))] ∧ Z.Warmed39 U.vm ∧ U.heap = h0) (fun _ _ _ _ _ => True) (fun _ U o_ U' => RetG U (Q_sio2 Z a b kb c cz h0 n0) 0 0 U' o_) := by
  refine MetFree.of_bodySF (plainFor_of_name own_pn2) hisR ?_
  intro p e s m args below meth c_ s₁ Bd hml0 hP hK
  obtain ⟨rfl, hZ, hh⟩ := hP
  have hx := Bd.exec
  have hby := Bd.bytes
  have hml : c_.maxLocals = 3 := hml0
  have hown : s.vm.findClass "java/lang/String" = some m.cls := findClass_of_methodNamed Bd.named
  have hnm := (name_of_methodNamed Bd.named Bd.method).1
  have X0 : Stand p l e ({ frames := 2, cells := 0, slots := 0, locals := 32 } : Room) s m #[(.ref a), (.int c), (.int (0 : Int32))] below meth c_ s₁ [] 0 0 := Stand.of_body Bd
  have e0 : s₁.heap = h0 := by rw [← hh, Bd.state]; rfl
  have N0 := Fr.nil n0
  have w6_ := hw _ (List.mem_of_getElem? (i := 6) rfl)
  have w23_ := hw _ (List.mem_of_getElem? (i := 23) rfl)
  have w24_ := hw _ (List.mem_of_getElem? (i := 24) rfl)
  have w25_ := hw _ (List.mem_of_getElem? (i := 25) rfl)
  have w26_ := hw _ (List.mem_of_getElem? (i := 26) rfl)
  have w27_ := hw _ (List.mem_of_getElem? (i := 27) rfl)
  have w30_ := hw _ (List.mem_of_getElem? (i := 30) rfl)
  have w31_ := hw _ (List.mem_of_getElem? (i := 31) rfl)
  have w32_ := hw _ (List.mem_of_getElem? (i := 32) rfl)
  have w33_ := hw _ (List.mem_of_getElem? (i := 33) rfl)
  have w34_ := hw _ (List.mem_of_getElem? (i := 34) rfl)
  have w35_ := hw _ (List.mem_of_getElem? (i := 35) rfl)
  have w41_ := hw _ (List.mem_of_getElem? (i := 41) rfl)
  have w42_ := hw _ (List.mem_of_getElem? (i := 42) rfl)
  have w43_ := hw _ (List.mem_of_getElem? (i := 43) rfl)
  have w44_ := hw _ (List.mem_of_getElem? (i := 44) rfl)
  show Go p e below (RetG s (Q_sio2 Z a b kb c cz h0 n0) 0 0) (s₁.setTop (entryFrame m #[(.ref a), (.int c), (.int (0 : Int32))] 3))
  rw [show entryFrame m #[(.ref a), (.int c), (.int (0 : Int32))] 3 = mkF m 0 #[.val (.ref a), .val (.int c), .val (.int (0 : Int32))] [] from by first | (simp [entryFrame, mkF, argsToLocals, Value.category]; done) | rfl]
  refine g_aloadN X0 hx hby d3_0 rfl rfl ?_
  refine g_virtual X0 hx hby hZ hown (rm_islat l Z a0 hw [] a cz h0 n0 Z0 O2 P5 OLD C) w23_ w24_ (notFace_of_selects (args := #[]) (mvT hZ w26_)) w26_ w25_ w6_ w27_ (by decide) e0 E (by rw [hml]; rfl) [] (lenOf own_pd4 rfl) rfl rfl (Nat.le_of_ble_eq_true rfl) (Nat.le_of_ble_eq_true rfl) (Nat.le_of_ble_eq_true rfl) (Nat.le_of_ble_eq_true rfl) d3_1 (fun v1 T1 L1 X1 hQ1 => ?_)
  obtain ⟨rfl, N1q, eh1⟩ := hQ1
  have N1 := Fr.app N0 N1q
  refine g_ifN X1 hx hby d3_4 (feq (by decide : ¬ ((1 : Int32) = (0 : Int32)))).1 ?_
  refine g_aloadN X1 hx hby d3_7 rfl rfl ?_
  refine g_getF X1 hx hby hZ hown (host := "") (Or.inl w30_) Via.refl eh1 VF d3_8 (fun T2 X2 e2 => ?_)
  refine g_iloadN X2 hx hby d3_11 rfl ?_
  refine g_iloadN X2 hx hby d3_12 rfl ?_
  refine g_aloadN X2 hx hby d3_13 rfl rfl ?_
  refine g_virtual X2 hx hby hZ hown (rm_slen l Z a0 hw [] a b kb cz h0 n0 Z0 O2 P5 OLD E C VF VB) w31_ w32_ (notFace_of_selects (args := #[]) (mvT hZ w34_)) w34_ w33_ w6_ w35_ (by decide) e2 E (by rw [hml]; rfl) [] (lenOf own_pd5 rfl) rfl rfl (Nat.le_of_ble_eq_true rfl) (Nat.le_of_ble_eq_true rfl) (Nat.le_of_ble_eq_true rfl) (Nat.le_of_ble_eq_true rfl) d3_14 (fun v3 T3 L3 X3 hQ3 => ?_)
  obtain ⟨rfl, N3q, eh3⟩ := hQ3
  have N3 := Fr.app N1 N3q
  refine g_static X3 hx hby hZ hown (rm_lio l Z a0 hw [] b kb c h0 n0 Z0 VB) w41_ w42_ w43_ w44_ (by decide) eh3 (by rw [hml]; rfl) [(.ref b), (.int c), (.int (0 : Int32)), (.int (15 : Int32))] (lenOf own_pd2 rfl) rfl rfl (Nat.le_of_ble_eq_true rfl) (Nat.le_of_ble_eq_true rfl) (Nat.le_of_ble_eq_true rfl) (Nat.le_of_ble_eq_true rfl) d3_17 (fun v4 T4 L4 X4 hQ4 => ?_)
  obtain ⟨rfl, N4q, eh4⟩ := hQ4
  have N4 := Fr.app N3 N4q
  refine g_at 20 rfl rfl rfl ?_
  refine g_goto X4 hx hby 36 d3_20 (by decide) (by decide) ?_
  refine g_iret X4 hx hby Bd.returns Bd.notSynchronized d3_36 eh4 (by decide) (by decide) ?_
  show (Q_sio2 Z a b kb c cz h0 n0) (some (.int (own_idx c))) _ _
  exact ⟨rfl, N4, rfl⟩

theorem d2_0 : decode jdk_42_method_79_code 0 = .ok (.aload_n 0, 1) := by decide +kernel
theorem d2_1 : decode jdk_42_method_79_code 1 = .ok (.iload_n 1, 1) := by decide +kernel
theorem d2_2 : decode jdk_42_method_79_code 2 = .ok (.iconst 0, 1) := by decide +kernel
theorem d2_3 : decode jdk_42_method_79_code 3 = .ok (.invokevirtual 633, 3) := by decide +kernel
theorem d2_6 : decode jdk_42_method_79_code 6 = .ok (.ireturn, 1) := by decide +kernel
def Q_sio1 (Z : State) (a : Addr) (b : Addr) (kb : ClassId) (c : Int32) (cz : Int32) (h0 : Heap) (n0 : Nat) (v : Option Value) (h : Heap) (L : List Loc) : Prop := v = some (.int (own_idx c)) ∧ Fr n0 L ∧ h = h0
set_option maxRecDepth 65536 in
set_option maxHeartbeats 40000000 in
theorem rm_sio1 (l : Launch) (Z : State) (a0 : Array Value) (hw : ∀ d ∈ tables_1, d.before a0 Z = true) (ws : List Jvm.Cond) (a : Addr) (b : Addr) (kb : ClassId) (c : Int32) (cz : Int32) (h0 : Heap) (n0 : Nat) (Z0 : n0 ≤ h0.size) (O2 : Sta Z Z.heap "java/lang/String" "COMPACT_STRINGS" "Z" (.int cz)) (P5 : ¬ cz = (0 : Int32)) (OLD : Old Z n0 h0) (E : Exa Z h0 a "java/lang/String") (C : Fld Z h0 a "java/lang/String" "coder" "B" (.int (0 : Int32))) (VF : Fld Z h0 a "java/lang/String" "value" "[B" (.ref b)) (VB : Arv Z h0 b kb .byte (15 : Int32) [(.int (33 : Int32)), (.int (35 : Int32)), (.int (36 : Int32)), (.int (37 : Int32)), (.int (38 : Int32)), (.int (39 : Int32)), (.int (42 : Int32)), (.int (43 : Int32)), (.int (45 : Int32)), (.int (46 : Int32)), (.int (94 : Int32)), (.int (95 : Int32)), (.int (96 : Int32)), (.int (124 : Int32)), (.int (126 : Int32))] (.int (0 : Int32))) :
    MetFree l (⟨"java/lang/String", "indexOf", "(I)I"⟩ : MethodName) (head1 (Jvm.Cond.code (⟨"java/lang/String", "indexOf", "(I)I"⟩ : MethodName) jdk_42_method_79_code 2 (some .int) :: ws) ({ frames := 3, cells := 0, slots := 0, locals := 46 } : Room)) (fun aa_ U => aa_ = #[(.ref a), (.int c)] ∧ Z.Warmed39 U.vm ∧ U.heap = h0) (fun _ _ _ _ _ => True) (fun _ U o_ U' => RetG U (Q_sio1 Z a b kb c cz h0 n0) 0 0 U' o_) := by
  refine MetFree.of_bodySF (plainFor_of_name own_pn2) hisR ?_
  intro p e s m args below meth c_ s₁ Bd hml0 hP hK
  obtain ⟨rfl, hZ, hh⟩ := hP
  have hx := Bd.exec
  have hby := Bd.bytes
  have hml : c_.maxLocals = 2 := hml0
  have hown : s.vm.findClass "java/lang/String" = some m.cls := findClass_of_methodNamed Bd.named
  have hnm := (name_of_methodNamed Bd.named Bd.method).1
  have X0 : Stand p l e ({ frames := 3, cells := 0, slots := 0, locals := 46 } : Room) s m #[(.ref a), (.int c)] below meth c_ s₁ [] 0 0 := Stand.of_body Bd
  have e0 : s₁.heap = h0 := by rw [← hh, Bd.state]; rfl
  have N0 := Fr.nil n0
  have w6_ := hw _ (List.mem_of_getElem? (i := 6) rfl)
  have w18_ := hw _ (List.mem_of_getElem? (i := 18) rfl)
  have w19_ := hw _ (List.mem_of_getElem? (i := 19) rfl)
  have w20_ := hw _ (List.mem_of_getElem? (i := 20) rfl)
  have w21_ := hw _ (List.mem_of_getElem? (i := 21) rfl)
  have w22_ := hw _ (List.mem_of_getElem? (i := 22) rfl)
  show Go p e below (RetG s (Q_sio1 Z a b kb c cz h0 n0) 0 0) (s₁.setTop (entryFrame m #[(.ref a), (.int c)] 2))
  rw [show entryFrame m #[(.ref a), (.int c)] 2 = mkF m 0 #[.val (.ref a), .val (.int c)] [] from by first | (simp [entryFrame, mkF, argsToLocals, Value.category]; done) | rfl]
  refine g_aloadN X0 hx hby d2_0 rfl rfl ?_
  refine g_iloadN X0 hx hby d2_1 rfl ?_
  refine g_iconst X0 hx hby (0 : Int32) d2_2 rfl ?_
  refine g_virtual X0 hx hby hZ hown (rm_sio2 l Z a0 hw [] a b kb c cz h0 n0 Z0 O2 P5 OLD E C VF VB) w18_ w19_ (notFace_of_selects (args := #[]) (mvT hZ w21_)) w21_ w20_ w6_ w22_ (by decide) e0 E (by rw [hml]; rfl) [(.int c), (.int (0 : Int32))] (lenOf own_pd1 rfl) rfl rfl (Nat.le_of_ble_eq_true rfl) (Nat.le_of_ble_eq_true rfl) (Nat.le_of_ble_eq_true rfl) (Nat.le_of_ble_eq_true rfl) d2_3 (fun v1 T1 L1 X1 hQ1 => ?_)
  obtain ⟨rfl, N1q, eh1⟩ := hQ1
  have N1 := Fr.app N0 N1q
  refine g_iret X1 hx hby Bd.returns Bd.notSynchronized d2_6 eh1 (by decide) (by decide) ?_
  show (Q_sio1 Z a b kb c cz h0 n0) (some (.int (own_idx c))) _ _
  exact ⟨rfl, N1, rfl⟩

theorem d1_0 : decode prog_13_method_3_code 0 = .ok (.iload_n 0, 1) := by decide +kernel
theorem d1_1 : decode prog_13_method_3_code 1 = .ok (.bipush 97, 2) := by decide +kernel
theorem d1_3 : decode prog_13_method_3_code 3 = .ok (.if_icmp .lt 9, 3) := by decide +kernel
theorem d1_12 : decode prog_13_method_3_code 12 = .ok (.iload_n 0, 1) := by decide +kernel
theorem d1_13 : decode prog_13_method_3_code 13 = .ok (.bipush 65, 2) := by decide +kernel
theorem d1_15 : decode prog_13_method_3_code 15 = .ok (.if_icmp .lt 9, 3) := by decide +kernel
theorem d1_24 : decode prog_13_method_3_code 24 = .ok (.iload_n 0, 1) := by decide +kernel
theorem d1_25 : decode prog_13_method_3_code 25 = .ok (.bipush 48, 2) := by decide +kernel
theorem d1_27 : decode prog_13_method_3_code 27 = .ok (.if_icmp .lt 9, 3) := by decide +kernel
theorem d1_36 : decode prog_13_method_3_code 36 = .ok (.ldc 27, 2) := by decide +kernel
theorem d1_38 : decode prog_13_method_3_code 38 = .ok (.iload_n 0, 1) := by decide +kernel
theorem d1_39 : decode prog_13_method_3_code 39 = .ok (.invokevirtual 29, 3) := by decide +kernel
theorem own_pd6 : parseMethodDescriptor "(I)I" = some ⟨[.int], some .int⟩ := by decide +kernel
theorem d1_42 : decode prog_13_method_3_code 42 = .ok (.ifCond .lt 7, 3) := by decide +kernel
theorem d1_49 : decode prog_13_method_3_code 49 = .ok (.iconst 0, 1) := by decide +kernel
theorem d1_50 : decode prog_13_method_3_code 50 = .ok (.ireturn, 1) := by decide +kernel
theorem d1_45 : decode prog_13_method_3_code 45 = .ok (.iconst 1, 1) := by decide +kernel
theorem d1_46 : decode prog_13_method_3_code 46 = .ok (.goto 4, 3) := by decide +kernel
theorem d1_30 : decode prog_13_method_3_code 30 = .ok (.iload_n 0, 1) := by decide +kernel
theorem d1_31 : decode prog_13_method_3_code 31 = .ok (.bipush 57, 2) := by decide +kernel
theorem d1_33 : decode prog_13_method_3_code 33 = .ok (.if_icmp .le 12, 3) := by decide +kernel
theorem d1_18 : decode prog_13_method_3_code 18 = .ok (.iload_n 0, 1) := by decide +kernel
theorem d1_19 : decode prog_13_method_3_code 19 = .ok (.bipush 90, 2) := by decide +kernel
theorem d1_21 : decode prog_13_method_3_code 21 = .ok (.if_icmp .le 24, 3) := by decide +kernel
theorem d1_6 : decode prog_13_method_3_code 6 = .ok (.iload_n 0, 1) := by decide +kernel
theorem d1_7 : decode prog_13_method_3_code 7 = .ok (.bipush 122, 2) := by decide +kernel
theorem d1_9 : decode prog_13_method_3_code 9 = .ok (.if_icmp .le 36, 3) := by decide +kernel
theorem own_pn3 : plainName "com/example/pathloom/pathloom/routing/HttpSyntax" = true := by first | (simp [plainName, overriddenIn]; done) | decide +kernel
def Q_tok (Z : State) (c : Int32) (cz : Int32) (h0 : Heap) (n0 : Nat) (v : Option Value) (h : Heap) (L : List Loc) : Prop := v = some (.int (own_tok c)) ∧ Fr n0 L ∧ Keep h0 h []
set_option maxRecDepth 65536 in
set_option maxHeartbeats 40000000 in
theorem rm_tok (l : Launch) (Z : State) (a0 : Array Value) (hw : ∀ d ∈ tables_1, d.before a0 Z = true) (ws : List Jvm.Cond) (c : Int32) (cz : Int32) (h0 : Heap) (n0 : Nat) (Z0 : n0 ≤ h0.size) (O2 : Sta Z Z.heap "java/lang/String" "COMPACT_STRINGS" "Z" (.int cz)) (P5 : ¬ cz = (0 : Int32)) (OLD : Old Z n0 h0) (hheld : Jvm.Lit.constHeld Z "com/example/pathloom/pathloom/routing/HttpSyntax" 27) (hcw : Jvm.Lit.compactW.before a0 Z = true) :
    MetFree l (⟨"com/example/pathloom/pathloom/routing/HttpSyntax", "isTokenChar", "(C)Z"⟩ : MethodName) (head1 (Jvm.Cond.code (⟨"com/example/pathloom/pathloom/routing/HttpSyntax", "isTokenChar", "(C)Z"⟩ : MethodName) prog_13_method_3_code 1 (some .boolean) :: ws) ({ frames := 4, cells := 2, slots := 64, locals := 59 } : Room)) (fun aa_ U => aa_ = #[(.int c)] ∧ (Z.Warmed39 U.vm ∧ U.vm.interned = Z.vm.interned) ∧ U.heap = h0) (fun _ _ _ _ _ => True) (fun _ U o_ U' => RetW U (Q_tok Z c cz h0 n0) 2 64 U' o_) := by
  refine MetFree.of_bodySF (plainFor_of_name own_pn3) hisR ?_
  intro p e s m args below meth c_ s₁ Bd hml0 hP hK
  obtain ⟨rfl, ⟨hZ, hI0⟩, hh⟩ := hP
  have hx := Bd.exec
  have hby := Bd.bytes
  have hml : c_.maxLocals = 1 := hml0
  have hS0 : s.Since s.vm 0 := (State.WarmedH.refl s).since 0
  have hown : s.vm.findClass "com/example/pathloom/pathloom/routing/HttpSyntax" = some m.cls := findClass_of_methodNamed Bd.named
  have hnm := (name_of_methodNamed Bd.named Bd.method).1
  have X0 : Stand p l e ({ frames := 4, cells := 2, slots := 64, locals := 59 } : Room) (s.setVm s.vm) m #[(.int c)] below meth c_ s₁ [] 0 0 := Stand.of_body Bd
  have e0 : s₁.heap = h0 := by rw [← hh, Bd.state]; rfl
  have N0 := Fr.nil n0
  have w5_ := hw _ (List.mem_of_getElem? (i := 5) rfl)
  have w6_ := hw _ (List.mem_of_getElem? (i := 6) rfl)
  have w13_ := hw _ (List.mem_of_getElem? (i := 13) rfl)
  have w14_ := hw _ (List.mem_of_getElem? (i := 14) rfl)
  have w15_ := hw _ (List.mem_of_getElem? (i := 15) rfl)
  have w16_ := hw _ (List.mem_of_getElem? (i := 16) rfl)
  have w17_ := hw _ (List.mem_of_getElem? (i := 17) rfl)
  have hkeep : ∀ (b : Addr) (cl : Cell), Z.heap[b]? = some cl → s.heap[b]? = some cl := fun b cl q => by rw [hh]; exact OLD.2.2 b cl q
  have wS : ∀ d ∈ Bundle.stringAtoms, d.before a0 Z = true := fun d hd => hw d ((by decide +kernel : ∀ d ∈ Bundle.stringAtoms, d ∈ tables_1) d hd)
  show Go p e below (RetW s (Q_tok Z c cz h0 n0) 2 64) (s₁.setTop (entryFrame m #[(.int c)] 1))
  rw [show entryFrame m #[(.int c)] 1 = mkF m 0 #[.val (.int c)] [] from by first | (simp [entryFrame, mkF, argsToLocals, Value.category]; done) | rfl]
  refine g_iloadN X0 hx hby d1_0 rfl ?_
  refine g_bipush X0 hx hby (97 : Int32) d1_1 rfl ?_
  by_cases hc3_1 : c < (97 : Int32)
  · skip
    refine g_icY X0 hx hby 12 d1_3 (tlt hc3_1).1 (by decide) (by decide) ?_
    refine g_iloadN X0 hx hby d1_12 rfl ?_
    refine g_bipush X0 hx hby (65 : Int32) d1_13 rfl ?_
    by_cases hc15_2 : c < (65 : Int32)
    · skip
      refine g_icY X0 hx hby 24 d1_15 (tlt hc15_2).1 (by decide) (by decide) ?_
      refine g_iloadN X0 hx hby d1_24 rfl ?_
      refine g_bipush X0 hx hby (48 : Int32) d1_25 rfl ?_
      by_cases hc27_3 : c < (48 : Int32)
      · skip
        refine g_icY X0 hx hby 36 d1_27 (tlt hc27_3).1 (by decide) (by decide) ?_
        refine g_ldcSV X0 hx hby hZ hown w5_ wS e0 hS0 (Nat.zero_le _) (Fr.nil _) hkeep hI0 hheld hcw [(.int (33 : Int32)), (.int (35 : Int32)), (.int (36 : Int32)), (.int (37 : Int32)), (.int (38 : Int32)), (.int (39 : Int32)), (.int (42 : Int32)), (.int (43 : Int32)), (.int (45 : Int32)), (.int (46 : Int32)), (.int (94 : Int32)), (.int (95 : Int32)), (.int (96 : Int32)), (.int (124 : Int32)), (.int (126 : Int32))] (15 : Int32) ⟨by decide, by decide⟩ (by decide) rfl 60 (by decide) (by decide) (by decide) (by decide) d1_36 (fun a4 T4 h4 kk4 t4 kt4 X4 e4 E4 hS4 hk4 hZ4 ho4 Es4 Cs4 Vs4 Bs4 Li4 => ?_)
        refine g_iloadN X4 hx hby d1_38 rfl ?_
        have f6 := (OLD.ext E4)
        have z7 := (Nat.le_trans Z0 E4.1)
        refine g_virtual X4 hx hby hZ4 ho4 (rm_sio1 l Z a0 hw [] a4 t4 kt4 c cz h4 n0 z7 O2 P5 f6 Es4 Cs4 Vs4 Bs4) w13_ w14_ (notFace_of_selects (args := #[]) (mvT hZ4 w16_)) w16_ w15_ w6_ w17_ (by decide) e4 Es4 (by rw [hml]; rfl) [(.int c)] (lenOf own_pd6 rfl) rfl rfl (Nat.le_of_ble_eq_true rfl) (Nat.le_of_ble_eq_true rfl) (Nat.le_of_ble_eq_true rfl) (Nat.le_of_ble_eq_true rfl) d1_39 (fun v5 T5 L5 X5 hQ5 => ?_)
        obtain ⟨rfl, N5q, eh5⟩ := hQ5
        have N5 := Fr.app N0 N5q
        by_cases hc42_8 : (own_idx c) < (0 : Int32)
        · skip
          refine g_ifY X5 hx hby 49 d1_42 (tlt hc42_8).1 (by decide) (by decide) ?_
          refine g_iconst X5 hx hby (0 : Int32) d1_49 rfl ?_
          refine g_nretW X5 hx hby (t := .boolean) (by simp) Bd.returns Bd.notSynchronized hS4 d1_50 eh5 hk4 (by decide) (by decide) ?_
          show (Q_tok Z c cz h0 n0) (some (.int (0 : Int32))) _ _
          exact ⟨by simp [own_tok, hc3_1, hc15_2, hc27_3, hc42_8], N5, ((Keep.refl h0 []).ext E4)⟩
        · skip
          refine g_ifN X5 hx hby d1_42 (flt hc42_8).1 ?_
          refine g_iconst X5 hx hby (1 : Int32) d1_45 rfl ?_
          refine g_goto X5 hx hby 50 d1_46 (by decide) (by decide) ?_
          refine g_nretW X5 hx hby (t := .boolean) (by simp) Bd.returns Bd.notSynchronized hS4 d1_50 eh5 hk4 (by decide) (by decide) ?_
          show (Q_tok Z c cz h0 n0) (some (.int (1 : Int32))) _ _
          exact ⟨by simp [own_tok, hc3_1, hc15_2, hc27_3, hc42_8], N5, ((Keep.refl h0 []).ext E4)⟩
      · skip
        refine g_icN X0 hx hby d1_27 (flt hc27_3).1 ?_
        refine g_iloadN X0 hx hby d1_30 rfl ?_
        refine g_bipush X0 hx hby (57 : Int32) d1_31 rfl ?_
        by_cases hc33_9 : (57 : Int32) < c
        · skip
          refine g_icN X0 hx hby d1_33 (tlt hc33_9).2.2.2 ?_
          refine g_ldcSV X0 hx hby hZ hown w5_ wS e0 hS0 (Nat.zero_le _) (Fr.nil _) hkeep hI0 hheld hcw [(.int (33 : Int32)), (.int (35 : Int32)), (.int (36 : Int32)), (.int (37 : Int32)), (.int (38 : Int32)), (.int (39 : Int32)), (.int (42 : Int32)), (.int (43 : Int32)), (.int (45 : Int32)), (.int (46 : Int32)), (.int (94 : Int32)), (.int (95 : Int32)), (.int (96 : Int32)), (.int (124 : Int32)), (.int (126 : Int32))] (15 : Int32) ⟨by decide, by decide⟩ (by decide) rfl 60 (by decide) (by decide) (by decide) (by decide) d1_36 (fun a10 T10 h10 kk10 t10 kt10 X10 e10 E10 hS10 hk10 hZ10 ho10 Es10 Cs10 Vs10 Bs10 Li10 => ?_)
          refine g_iloadN X10 hx hby d1_38 rfl ?_
          have f12 := (OLD.ext E10)
          have z13 := (Nat.le_trans Z0 E10.1)
          refine g_virtual X10 hx hby hZ10 ho10 (rm_sio1 l Z a0 hw [] a10 t10 kt10 c cz h10 n0 z13 O2 P5 f12 Es10 Cs10 Vs10 Bs10) w13_ w14_ (notFace_of_selects (args := #[]) (mvT hZ10 w16_)) w16_ w15_ w6_ w17_ (by decide) e10 Es10 (by rw [hml]; rfl) [(.int c)] (lenOf own_pd6 rfl) rfl rfl (Nat.le_of_ble_eq_true rfl) (Nat.le_of_ble_eq_true rfl) (Nat.le_of_ble_eq_true rfl) (Nat.le_of_ble_eq_true rfl) d1_39 (fun v11 T11 L11 X11 hQ11 => ?_)
          obtain ⟨rfl, N11q, eh11⟩ := hQ11
          have N11 := Fr.app N0 N11q
          by_cases hc42_14 : (own_idx c) < (0 : Int32)
          · skip
            refine g_ifY X11 hx hby 49 d1_42 (tlt hc42_14).1 (by decide) (by decide) ?_
            refine g_iconst X11 hx hby (0 : Int32) d1_49 rfl ?_
            refine g_nretW X11 hx hby (t := .boolean) (by simp) Bd.returns Bd.notSynchronized hS10 d1_50 eh11 hk10 (by decide) (by decide) ?_
            show (Q_tok Z c cz h0 n0) (some (.int (0 : Int32))) _ _
            exact ⟨by simp [own_tok, hc3_1, hc15_2, hc27_3, hc33_9, hc42_14], N11, ((Keep.refl h0 []).ext E10)⟩
          · skip
            refine g_ifN X11 hx hby d1_42 (flt hc42_14).1 ?_
            refine g_iconst X11 hx hby (1 : Int32) d1_45 rfl ?_
            refine g_goto X11 hx hby 50 d1_46 (by decide) (by decide) ?_
            refine g_nretW X11 hx hby (t := .boolean) (by simp) Bd.returns Bd.notSynchronized hS10 d1_50 eh11 hk10 (by decide) (by decide) ?_
            show (Q_tok Z c cz h0 n0) (some (.int (1 : Int32))) _ _
            exact ⟨by simp [own_tok, hc3_1, hc15_2, hc27_3, hc33_9, hc42_14], N11, ((Keep.refl h0 []).ext E10)⟩
        · skip
          refine g_icY X0 hx hby 45 d1_33 (flt hc33_9).2.2.2 (by decide) (by decide) ?_
          refine g_iconst X0 hx hby (1 : Int32) d1_45 rfl ?_
          refine g_goto X0 hx hby 50 d1_46 (by decide) (by decide) ?_
          refine g_nretW X0 hx hby (t := .boolean) (by simp) Bd.returns Bd.notSynchronized hS0 d1_50 e0 (Nat.zero_le _) (by decide) (by decide) ?_
          show (Q_tok Z c cz h0 n0) (some (.int (1 : Int32))) _ _
          exact ⟨by simp [own_tok, hc3_1, hc15_2, hc27_3, hc33_9], N0, (Keep.refl h0 [])⟩
    · skip
      refine g_icN X0 hx hby d1_15 (flt hc15_2).1 ?_
      refine g_iloadN X0 hx hby d1_18 rfl ?_
      refine g_bipush X0 hx hby (90 : Int32) d1_19 rfl ?_
      by_cases hc21_15 : (90 : Int32) < c
      · skip
        refine g_icN X0 hx hby d1_21 (tlt hc21_15).2.2.2 ?_
        refine g_iloadN X0 hx hby d1_24 rfl ?_
        refine g_bipush X0 hx hby (48 : Int32) d1_25 rfl ?_
        by_cases hc27_16 : c < (48 : Int32)
        · skip
          refine g_icY X0 hx hby 36 d1_27 (tlt hc27_16).1 (by decide) (by decide) ?_
          refine g_ldcSV X0 hx hby hZ hown w5_ wS e0 hS0 (Nat.zero_le _) (Fr.nil _) hkeep hI0 hheld hcw [(.int (33 : Int32)), (.int (35 : Int32)), (.int (36 : Int32)), (.int (37 : Int32)), (.int (38 : Int32)), (.int (39 : Int32)), (.int (42 : Int32)), (.int (43 : Int32)), (.int (45 : Int32)), (.int (46 : Int32)), (.int (94 : Int32)), (.int (95 : Int32)), (.int (96 : Int32)), (.int (124 : Int32)), (.int (126 : Int32))] (15 : Int32) ⟨by decide, by decide⟩ (by decide) rfl 60 (by decide) (by decide) (by decide) (by decide) d1_36 (fun a17 T17 h17 kk17 t17 kt17 X17 e17 E17 hS17 hk17 hZ17 ho17 Es17 Cs17 Vs17 Bs17 Li17 => ?_)
          refine g_iloadN X17 hx hby d1_38 rfl ?_
          have f19 := (OLD.ext E17)
          have z20 := (Nat.le_trans Z0 E17.1)
          refine g_virtual X17 hx hby hZ17 ho17 (rm_sio1 l Z a0 hw [] a17 t17 kt17 c cz h17 n0 z20 O2 P5 f19 Es17 Cs17 Vs17 Bs17) w13_ w14_ (notFace_of_selects (args := #[]) (mvT hZ17 w16_)) w16_ w15_ w6_ w17_ (by decide) e17 Es17 (by rw [hml]; rfl) [(.int c)] (lenOf own_pd6 rfl) rfl rfl (Nat.le_of_ble_eq_true rfl) (Nat.le_of_ble_eq_true rfl) (Nat.le_of_ble_eq_true rfl) (Nat.le_of_ble_eq_true rfl) d1_39 (fun v18 T18 L18 X18 hQ18 => ?_)
          obtain ⟨rfl, N18q, eh18⟩ := hQ18
          have N18 := Fr.app N0 N18q
          by_cases hc42_21 : (own_idx c) < (0 : Int32)
          · skip
            refine g_ifY X18 hx hby 49 d1_42 (tlt hc42_21).1 (by decide) (by decide) ?_
            refine g_iconst X18 hx hby (0 : Int32) d1_49 rfl ?_
            refine g_nretW X18 hx hby (t := .boolean) (by simp) Bd.returns Bd.notSynchronized hS17 d1_50 eh18 hk17 (by decide) (by decide) ?_
            show (Q_tok Z c cz h0 n0) (some (.int (0 : Int32))) _ _
            exact ⟨by simp [own_tok, hc3_1, hc15_2, hc21_15, hc27_16, hc42_21], N18, ((Keep.refl h0 []).ext E17)⟩
          · skip
            refine g_ifN X18 hx hby d1_42 (flt hc42_21).1 ?_
            refine g_iconst X18 hx hby (1 : Int32) d1_45 rfl ?_
            refine g_goto X18 hx hby 50 d1_46 (by decide) (by decide) ?_
            refine g_nretW X18 hx hby (t := .boolean) (by simp) Bd.returns Bd.notSynchronized hS17 d1_50 eh18 hk17 (by decide) (by decide) ?_
            show (Q_tok Z c cz h0 n0) (some (.int (1 : Int32))) _ _
            exact ⟨by simp [own_tok, hc3_1, hc15_2, hc21_15, hc27_16, hc42_21], N18, ((Keep.refl h0 []).ext E17)⟩
        · skip
          refine g_icN X0 hx hby d1_27 (flt hc27_16).1 ?_
          refine g_iloadN X0 hx hby d1_30 rfl ?_
          refine g_bipush X0 hx hby (57 : Int32) d1_31 rfl ?_
          by_cases hc33_22 : (57 : Int32) < c
          · skip
            refine g_icN X0 hx hby d1_33 (tlt hc33_22).2.2.2 ?_
            refine g_ldcSV X0 hx hby hZ hown w5_ wS e0 hS0 (Nat.zero_le _) (Fr.nil _) hkeep hI0 hheld hcw [(.int (33 : Int32)), (.int (35 : Int32)), (.int (36 : Int32)), (.int (37 : Int32)), (.int (38 : Int32)), (.int (39 : Int32)), (.int (42 : Int32)), (.int (43 : Int32)), (.int (45 : Int32)), (.int (46 : Int32)), (.int (94 : Int32)), (.int (95 : Int32)), (.int (96 : Int32)), (.int (124 : Int32)), (.int (126 : Int32))] (15 : Int32) ⟨by decide, by decide⟩ (by decide) rfl 60 (by decide) (by decide) (by decide) (by decide) d1_36 (fun a23 T23 h23 kk23 t23 kt23 X23 e23 E23 hS23 hk23 hZ23 ho23 Es23 Cs23 Vs23 Bs23 Li23 => ?_)
            refine g_iloadN X23 hx hby d1_38 rfl ?_
            have f25 := (OLD.ext E23)
            have z26 := (Nat.le_trans Z0 E23.1)
            refine g_virtual X23 hx hby hZ23 ho23 (rm_sio1 l Z a0 hw [] a23 t23 kt23 c cz h23 n0 z26 O2 P5 f25 Es23 Cs23 Vs23 Bs23) w13_ w14_ (notFace_of_selects (args := #[]) (mvT hZ23 w16_)) w16_ w15_ w6_ w17_ (by decide) e23 Es23 (by rw [hml]; rfl) [(.int c)] (lenOf own_pd6 rfl) rfl rfl (Nat.le_of_ble_eq_true rfl) (Nat.le_of_ble_eq_true rfl) (Nat.le_of_ble_eq_true rfl) (Nat.le_of_ble_eq_true rfl) d1_39 (fun v24 T24 L24 X24 hQ24 => ?_)
            obtain ⟨rfl, N24q, eh24⟩ := hQ24
            have N24 := Fr.app N0 N24q
            by_cases hc42_27 : (own_idx c) < (0 : Int32)
            · skip
              refine g_ifY X24 hx hby 49 d1_42 (tlt hc42_27).1 (by decide) (by decide) ?_
              refine g_iconst X24 hx hby (0 : Int32) d1_49 rfl ?_
              refine g_nretW X24 hx hby (t := .boolean) (by simp) Bd.returns Bd.notSynchronized hS23 d1_50 eh24 hk23 (by decide) (by decide) ?_
              show (Q_tok Z c cz h0 n0) (some (.int (0 : Int32))) _ _
              exact ⟨by simp [own_tok, hc3_1, hc15_2, hc21_15, hc27_16, hc33_22, hc42_27], N24, ((Keep.refl h0 []).ext E23)⟩
            · skip
              refine g_ifN X24 hx hby d1_42 (flt hc42_27).1 ?_
              refine g_iconst X24 hx hby (1 : Int32) d1_45 rfl ?_
              refine g_goto X24 hx hby 50 d1_46 (by decide) (by decide) ?_
              refine g_nretW X24 hx hby (t := .boolean) (by simp) Bd.returns Bd.notSynchronized hS23 d1_50 eh24 hk23 (by decide) (by decide) ?_
              show (Q_tok Z c cz h0 n0) (some (.int (1 : Int32))) _ _
              exact ⟨by simp [own_tok, hc3_1, hc15_2, hc21_15, hc27_16, hc33_22, hc42_27], N24, ((Keep.refl h0 []).ext E23)⟩
          · skip
            refine g_icY X0 hx hby 45 d1_33 (flt hc33_22).2.2.2 (by decide) (by decide) ?_
            refine g_iconst X0 hx hby (1 : Int32) d1_45 rfl ?_
            refine g_goto X0 hx hby 50 d1_46 (by decide) (by decide) ?_
            refine g_nretW X0 hx hby (t := .boolean) (by simp) Bd.returns Bd.notSynchronized hS0 d1_50 e0 (Nat.zero_le _) (by decide) (by decide) ?_
            show (Q_tok Z c cz h0 n0) (some (.int (1 : Int32))) _ _
            exact ⟨by simp [own_tok, hc3_1, hc15_2, hc21_15, hc27_16, hc33_22], N0, (Keep.refl h0 [])⟩
      · skip
        refine g_icY X0 hx hby 45 d1_21 (flt hc21_15).2.2.2 (by decide) (by decide) ?_
        refine g_iconst X0 hx hby (1 : Int32) d1_45 rfl ?_
        refine g_goto X0 hx hby 50 d1_46 (by decide) (by decide) ?_
        refine g_nretW X0 hx hby (t := .boolean) (by simp) Bd.returns Bd.notSynchronized hS0 d1_50 e0 (Nat.zero_le _) (by decide) (by decide) ?_
        show (Q_tok Z c cz h0 n0) (some (.int (1 : Int32))) _ _
        exact ⟨by simp [own_tok, hc3_1, hc15_2, hc21_15], N0, (Keep.refl h0 [])⟩
  · skip
    refine g_icN X0 hx hby d1_3 (flt hc3_1).1 ?_
    refine g_iloadN X0 hx hby d1_6 rfl ?_
    refine g_bipush X0 hx hby (122 : Int32) d1_7 rfl ?_
    by_cases hc9_28 : (122 : Int32) < c
    · skip
      refine g_icN X0 hx hby d1_9 (tlt hc9_28).2.2.2 ?_
      refine g_iloadN X0 hx hby d1_12 rfl ?_
      refine g_bipush X0 hx hby (65 : Int32) d1_13 rfl ?_
      by_cases hc15_29 : c < (65 : Int32)
      · skip
        refine g_icY X0 hx hby 24 d1_15 (tlt hc15_29).1 (by decide) (by decide) ?_
        refine g_iloadN X0 hx hby d1_24 rfl ?_
        refine g_bipush X0 hx hby (48 : Int32) d1_25 rfl ?_
        by_cases hc27_30 : c < (48 : Int32)
        · skip
          refine g_icY X0 hx hby 36 d1_27 (tlt hc27_30).1 (by decide) (by decide) ?_
          refine g_ldcSV X0 hx hby hZ hown w5_ wS e0 hS0 (Nat.zero_le _) (Fr.nil _) hkeep hI0 hheld hcw [(.int (33 : Int32)), (.int (35 : Int32)), (.int (36 : Int32)), (.int (37 : Int32)), (.int (38 : Int32)), (.int (39 : Int32)), (.int (42 : Int32)), (.int (43 : Int32)), (.int (45 : Int32)), (.int (46 : Int32)), (.int (94 : Int32)), (.int (95 : Int32)), (.int (96 : Int32)), (.int (124 : Int32)), (.int (126 : Int32))] (15 : Int32) ⟨by decide, by decide⟩ (by decide) rfl 60 (by decide) (by decide) (by decide) (by decide) d1_36 (fun a31 T31 h31 kk31 t31 kt31 X31 e31 E31 hS31 hk31 hZ31 ho31 Es31 Cs31 Vs31 Bs31 Li31 => ?_)
          refine g_iloadN X31 hx hby d1_38 rfl ?_
          have f33 := (OLD.ext E31)
          have z34 := (Nat.le_trans Z0 E31.1)
          refine g_virtual X31 hx hby hZ31 ho31 (rm_sio1 l Z a0 hw [] a31 t31 kt31 c cz h31 n0 z34 O2 P5 f33 Es31 Cs31 Vs31 Bs31) w13_ w14_ (notFace_of_selects (args := #[]) (mvT hZ31 w16_)) w16_ w15_ w6_ w17_ (by decide) e31 Es31 (by rw [hml]; rfl) [(.int c)] (lenOf own_pd6 rfl) rfl rfl (Nat.le_of_ble_eq_true rfl) (Nat.le_of_ble_eq_true rfl) (Nat.le_of_ble_eq_true rfl) (Nat.le_of_ble_eq_true rfl) d1_39 (fun v32 T32 L32 X32 hQ32 => ?_)
          obtain ⟨rfl, N32q, eh32⟩ := hQ32
          have N32 := Fr.app N0 N32q
          by_cases hc42_35 : (own_idx c) < (0 : Int32)
          · skip
            refine g_ifY X32 hx hby 49 d1_42 (tlt hc42_35).1 (by decide) (by decide) ?_
            refine g_iconst X32 hx hby (0 : Int32) d1_49 rfl ?_
            refine g_nretW X32 hx hby (t := .boolean) (by simp) Bd.returns Bd.notSynchronized hS31 d1_50 eh32 hk31 (by decide) (by decide) ?_
            show (Q_tok Z c cz h0 n0) (some (.int (0 : Int32))) _ _
            exact ⟨by simp [own_tok, hc3_1, hc9_28, hc15_29, hc27_30, hc42_35], N32, ((Keep.refl h0 []).ext E31)⟩
          · skip
            refine g_ifN X32 hx hby d1_42 (flt hc42_35).1 ?_
            refine g_iconst X32 hx hby (1 : Int32) d1_45 rfl ?_
            refine g_goto X32 hx hby 50 d1_46 (by decide) (by decide) ?_
            refine g_nretW X32 hx hby (t := .boolean) (by simp) Bd.returns Bd.notSynchronized hS31 d1_50 eh32 hk31 (by decide) (by decide) ?_
            show (Q_tok Z c cz h0 n0) (some (.int (1 : Int32))) _ _
            exact ⟨by simp [own_tok, hc3_1, hc9_28, hc15_29, hc27_30, hc42_35], N32, ((Keep.refl h0 []).ext E31)⟩
        · skip
          refine g_icN X0 hx hby d1_27 (flt hc27_30).1 ?_
          refine g_iloadN X0 hx hby d1_30 rfl ?_
          refine g_bipush X0 hx hby (57 : Int32) d1_31 rfl ?_
          by_cases hc33_36 : (57 : Int32) < c
          · skip
            refine g_icN X0 hx hby d1_33 (tlt hc33_36).2.2.2 ?_
            refine g_ldcSV X0 hx hby hZ hown w5_ wS e0 hS0 (Nat.zero_le _) (Fr.nil _) hkeep hI0 hheld hcw [(.int (33 : Int32)), (.int (35 : Int32)), (.int (36 : Int32)), (.int (37 : Int32)), (.int (38 : Int32)), (.int (39 : Int32)), (.int (42 : Int32)), (.int (43 : Int32)), (.int (45 : Int32)), (.int (46 : Int32)), (.int (94 : Int32)), (.int (95 : Int32)), (.int (96 : Int32)), (.int (124 : Int32)), (.int (126 : Int32))] (15 : Int32) ⟨by decide, by decide⟩ (by decide) rfl 60 (by decide) (by decide) (by decide) (by decide) d1_36 (fun a37 T37 h37 kk37 t37 kt37 X37 e37 E37 hS37 hk37 hZ37 ho37 Es37 Cs37 Vs37 Bs37 Li37 => ?_)
            refine g_iloadN X37 hx hby d1_38 rfl ?_
            have f39 := (OLD.ext E37)
            have z40 := (Nat.le_trans Z0 E37.1)
            refine g_virtual X37 hx hby hZ37 ho37 (rm_sio1 l Z a0 hw [] a37 t37 kt37 c cz h37 n0 z40 O2 P5 f39 Es37 Cs37 Vs37 Bs37) w13_ w14_ (notFace_of_selects (args := #[]) (mvT hZ37 w16_)) w16_ w15_ w6_ w17_ (by decide) e37 Es37 (by rw [hml]; rfl) [(.int c)] (lenOf own_pd6 rfl) rfl rfl (Nat.le_of_ble_eq_true rfl) (Nat.le_of_ble_eq_true rfl) (Nat.le_of_ble_eq_true rfl) (Nat.le_of_ble_eq_true rfl) d1_39 (fun v38 T38 L38 X38 hQ38 => ?_)
            obtain ⟨rfl, N38q, eh38⟩ := hQ38
            have N38 := Fr.app N0 N38q
            by_cases hc42_41 : (own_idx c) < (0 : Int32)
            · skip
              refine g_ifY X38 hx hby 49 d1_42 (tlt hc42_41).1 (by decide) (by decide) ?_
              refine g_iconst X38 hx hby (0 : Int32) d1_49 rfl ?_
              refine g_nretW X38 hx hby (t := .boolean) (by simp) Bd.returns Bd.notSynchronized hS37 d1_50 eh38 hk37 (by decide) (by decide) ?_
              show (Q_tok Z c cz h0 n0) (some (.int (0 : Int32))) _ _
              exact ⟨by simp [own_tok, hc3_1, hc9_28, hc15_29, hc27_30, hc33_36, hc42_41], N38, ((Keep.refl h0 []).ext E37)⟩
            · skip
              refine g_ifN X38 hx hby d1_42 (flt hc42_41).1 ?_
              refine g_iconst X38 hx hby (1 : Int32) d1_45 rfl ?_
              refine g_goto X38 hx hby 50 d1_46 (by decide) (by decide) ?_
              refine g_nretW X38 hx hby (t := .boolean) (by simp) Bd.returns Bd.notSynchronized hS37 d1_50 eh38 hk37 (by decide) (by decide) ?_
              show (Q_tok Z c cz h0 n0) (some (.int (1 : Int32))) _ _
              exact ⟨by simp [own_tok, hc3_1, hc9_28, hc15_29, hc27_30, hc33_36, hc42_41], N38, ((Keep.refl h0 []).ext E37)⟩
          · skip
            refine g_icY X0 hx hby 45 d1_33 (flt hc33_36).2.2.2 (by decide) (by decide) ?_
            refine g_iconst X0 hx hby (1 : Int32) d1_45 rfl ?_
            refine g_goto X0 hx hby 50 d1_46 (by decide) (by decide) ?_
            refine g_nretW X0 hx hby (t := .boolean) (by simp) Bd.returns Bd.notSynchronized hS0 d1_50 e0 (Nat.zero_le _) (by decide) (by decide) ?_
            show (Q_tok Z c cz h0 n0) (some (.int (1 : Int32))) _ _
            exact ⟨by simp [own_tok, hc3_1, hc9_28, hc15_29, hc27_30, hc33_36], N0, (Keep.refl h0 [])⟩
      · skip
        refine g_icN X0 hx hby d1_15 (flt hc15_29).1 ?_
        refine g_iloadN X0 hx hby d1_18 rfl ?_
        refine g_bipush X0 hx hby (90 : Int32) d1_19 rfl ?_
        by_cases hc21_42 : (90 : Int32) < c
        · skip
          refine g_icN X0 hx hby d1_21 (tlt hc21_42).2.2.2 ?_
          refine g_iloadN X0 hx hby d1_24 rfl ?_
          refine g_bipush X0 hx hby (48 : Int32) d1_25 rfl ?_
          by_cases hc27_43 : c < (48 : Int32)
          · skip
            refine g_icY X0 hx hby 36 d1_27 (tlt hc27_43).1 (by decide) (by decide) ?_
            refine g_ldcSV X0 hx hby hZ hown w5_ wS e0 hS0 (Nat.zero_le _) (Fr.nil _) hkeep hI0 hheld hcw [(.int (33 : Int32)), (.int (35 : Int32)), (.int (36 : Int32)), (.int (37 : Int32)), (.int (38 : Int32)), (.int (39 : Int32)), (.int (42 : Int32)), (.int (43 : Int32)), (.int (45 : Int32)), (.int (46 : Int32)), (.int (94 : Int32)), (.int (95 : Int32)), (.int (96 : Int32)), (.int (124 : Int32)), (.int (126 : Int32))] (15 : Int32) ⟨by decide, by decide⟩ (by decide) rfl 60 (by decide) (by decide) (by decide) (by decide) d1_36 (fun a44 T44 h44 kk44 t44 kt44 X44 e44 E44 hS44 hk44 hZ44 ho44 Es44 Cs44 Vs44 Bs44 Li44 => ?_)
            refine g_iloadN X44 hx hby d1_38 rfl ?_
            have f46 := (OLD.ext E44)
            have z47 := (Nat.le_trans Z0 E44.1)
            refine g_virtual X44 hx hby hZ44 ho44 (rm_sio1 l Z a0 hw [] a44 t44 kt44 c cz h44 n0 z47 O2 P5 f46 Es44 Cs44 Vs44 Bs44) w13_ w14_ (notFace_of_selects (args := #[]) (mvT hZ44 w16_)) w16_ w15_ w6_ w17_ (by decide) e44 Es44 (by rw [hml]; rfl) [(.int c)] (lenOf own_pd6 rfl) rfl rfl (Nat.le_of_ble_eq_true rfl) (Nat.le_of_ble_eq_true rfl) (Nat.le_of_ble_eq_true rfl) (Nat.le_of_ble_eq_true rfl) d1_39 (fun v45 T45 L45 X45 hQ45 => ?_)
            obtain ⟨rfl, N45q, eh45⟩ := hQ45
            have N45 := Fr.app N0 N45q
            by_cases hc42_48 : (own_idx c) < (0 : Int32)
            · skip
              refine g_ifY X45 hx hby 49 d1_42 (tlt hc42_48).1 (by decide) (by decide) ?_
              refine g_iconst X45 hx hby (0 : Int32) d1_49 rfl ?_
              refine g_nretW X45 hx hby (t := .boolean) (by simp) Bd.returns Bd.notSynchronized hS44 d1_50 eh45 hk44 (by decide) (by decide) ?_
              show (Q_tok Z c cz h0 n0) (some (.int (0 : Int32))) _ _
              exact ⟨by simp [own_tok, hc3_1, hc9_28, hc15_29, hc21_42, hc27_43, hc42_48], N45, ((Keep.refl h0 []).ext E44)⟩
            · skip
              refine g_ifN X45 hx hby d1_42 (flt hc42_48).1 ?_
              refine g_iconst X45 hx hby (1 : Int32) d1_45 rfl ?_
              refine g_goto X45 hx hby 50 d1_46 (by decide) (by decide) ?_
              refine g_nretW X45 hx hby (t := .boolean) (by simp) Bd.returns Bd.notSynchronized hS44 d1_50 eh45 hk44 (by decide) (by decide) ?_
              show (Q_tok Z c cz h0 n0) (some (.int (1 : Int32))) _ _
              exact ⟨by simp [own_tok, hc3_1, hc9_28, hc15_29, hc21_42, hc27_43, hc42_48], N45, ((Keep.refl h0 []).ext E44)⟩
          · skip
            refine g_icN X0 hx hby d1_27 (flt hc27_43).1 ?_
            refine g_iloadN X0 hx hby d1_30 rfl ?_
            refine g_bipush X0 hx hby (57 : Int32) d1_31 rfl ?_
            by_cases hc33_49 : (57 : Int32) < c
            · skip
              refine g_icN X0 hx hby d1_33 (tlt hc33_49).2.2.2 ?_
              refine g_ldcSV X0 hx hby hZ hown w5_ wS e0 hS0 (Nat.zero_le _) (Fr.nil _) hkeep hI0 hheld hcw [(.int (33 : Int32)), (.int (35 : Int32)), (.int (36 : Int32)), (.int (37 : Int32)), (.int (38 : Int32)), (.int (39 : Int32)), (.int (42 : Int32)), (.int (43 : Int32)), (.int (45 : Int32)), (.int (46 : Int32)), (.int (94 : Int32)), (.int (95 : Int32)), (.int (96 : Int32)), (.int (124 : Int32)), (.int (126 : Int32))] (15 : Int32) ⟨by decide, by decide⟩ (by decide) rfl 60 (by decide) (by decide) (by decide) (by decide) d1_36 (fun a50 T50 h50 kk50 t50 kt50 X50 e50 E50 hS50 hk50 hZ50 ho50 Es50 Cs50 Vs50 Bs50 Li50 => ?_)
              refine g_iloadN X50 hx hby d1_38 rfl ?_
              have f52 := (OLD.ext E50)
              have z53 := (Nat.le_trans Z0 E50.1)
              refine g_virtual X50 hx hby hZ50 ho50 (rm_sio1 l Z a0 hw [] a50 t50 kt50 c cz h50 n0 z53 O2 P5 f52 Es50 Cs50 Vs50 Bs50) w13_ w14_ (notFace_of_selects (args := #[]) (mvT hZ50 w16_)) w16_ w15_ w6_ w17_ (by decide) e50 Es50 (by rw [hml]; rfl) [(.int c)] (lenOf own_pd6 rfl) rfl rfl (Nat.le_of_ble_eq_true rfl) (Nat.le_of_ble_eq_true rfl) (Nat.le_of_ble_eq_true rfl) (Nat.le_of_ble_eq_true rfl) d1_39 (fun v51 T51 L51 X51 hQ51 => ?_)
              obtain ⟨rfl, N51q, eh51⟩ := hQ51
              have N51 := Fr.app N0 N51q
              refine g_at 42 rfl rfl rfl ?_
              by_cases hc42_54 : (own_idx c) < (0 : Int32)
              · skip
                refine g_ifY X51 hx hby 49 d1_42 (tlt hc42_54).1 (by decide) (by decide) ?_
                refine g_iconst X51 hx hby (0 : Int32) d1_49 rfl ?_
                refine g_nretW X51 hx hby (t := .boolean) (by simp) Bd.returns Bd.notSynchronized hS50 d1_50 eh51 hk50 (by decide) (by decide) ?_
                show (Q_tok Z c cz h0 n0) (some (.int (0 : Int32))) _ _
                exact ⟨by simp [own_tok, hc3_1, hc9_28, hc15_29, hc21_42, hc27_43, hc33_49, hc42_54], N51, ((Keep.refl h0 []).ext E50)⟩
              · skip
                refine g_ifN X51 hx hby d1_42 (flt hc42_54).1 ?_
                refine g_iconst X51 hx hby (1 : Int32) d1_45 rfl ?_
                refine g_goto X51 hx hby 50 d1_46 (by decide) (by decide) ?_
                refine g_nretW X51 hx hby (t := .boolean) (by simp) Bd.returns Bd.notSynchronized hS50 d1_50 eh51 hk50 (by decide) (by decide) ?_
                show (Q_tok Z c cz h0 n0) (some (.int (1 : Int32))) _ _
                exact ⟨by simp [own_tok, hc3_1, hc9_28, hc15_29, hc21_42, hc27_43, hc33_49, hc42_54], N51, ((Keep.refl h0 []).ext E50)⟩
            · skip
              refine g_icY X0 hx hby 45 d1_33 (flt hc33_49).2.2.2 (by decide) (by decide) ?_
              refine g_iconst X0 hx hby (1 : Int32) d1_45 rfl ?_
              refine g_goto X0 hx hby 50 d1_46 (by decide) (by decide) ?_
              refine g_nretW X0 hx hby (t := .boolean) (by simp) Bd.returns Bd.notSynchronized hS0 d1_50 e0 (Nat.zero_le _) (by decide) (by decide) ?_
              show (Q_tok Z c cz h0 n0) (some (.int (1 : Int32))) _ _
              exact ⟨by simp [own_tok, hc3_1, hc9_28, hc15_29, hc21_42, hc27_43, hc33_49], N0, (Keep.refl h0 [])⟩
        · skip
          refine g_icY X0 hx hby 45 d1_21 (flt hc21_42).2.2.2 (by decide) (by decide) ?_
          refine g_iconst X0 hx hby (1 : Int32) d1_45 rfl ?_
          refine g_goto X0 hx hby 50 d1_46 (by decide) (by decide) ?_
          refine g_nretW X0 hx hby (t := .boolean) (by simp) Bd.returns Bd.notSynchronized hS0 d1_50 e0 (Nat.zero_le _) (by decide) (by decide) ?_
          show (Q_tok Z c cz h0 n0) (some (.int (1 : Int32))) _ _
          exact ⟨by simp [own_tok, hc3_1, hc9_28, hc15_29, hc21_42], N0, (Keep.refl h0 [])⟩
    · skip
      refine g_icY X0 hx hby 45 d1_9 (flt hc9_28).2.2.2 (by decide) (by decide) ?_
      refine g_iconst X0 hx hby (1 : Int32) d1_45 rfl ?_
      refine g_goto X0 hx hby 50 d1_46 (by decide) (by decide) ?_
      refine g_nretW X0 hx hby (t := .boolean) (by simp) Bd.returns Bd.notSynchronized hS0 d1_50 e0 (Nat.zero_le _) (by decide) (by decide) ?_
      show (Q_tok Z c cz h0 n0) (some (.int (1 : Int32))) _ _
      exact ⟨by simp [own_tok, hc3_1, hc9_28], N0, (Keep.refl h0 [])⟩

theorem own_pd7 : parseMethodDescriptor "(C)Z" = some ⟨[.char], some .boolean⟩ := by decide +kernel
def Q_law (Z : State) (x0 : Int32) (cz : Int32) (h0 : Heap) (n0 : Nat) (v : Option Value) (h : Heap) (L : List Loc) : Prop := v = some (.int 1) ∧ Fr n0 L
set_option maxRecDepth 65536 in
set_option maxHeartbeats 40000000 in
theorem rm_law (l : Launch) (Z : State) (a0 : Array Value) (hw : ∀ d ∈ tables_1, d.before a0 Z = true) (ws : List Jvm.Cond) (x0 : Int32) (cz : Int32) (h0 : Heap) (n0 : Nat) (Z0 : n0 ≤ h0.size) (O2 : Sta Z Z.heap "java/lang/String" "COMPACT_STRINGS" "Z" (.int cz)) (P5 : ¬ cz = (0 : Int32)) (OLD : Old Z n0 h0) (hheld : Jvm.Lit.constHeld Z "com/example/pathloom/pathloom/routing/HttpSyntax" 27) (hcw : Jvm.Lit.compactW.before a0 Z = true) :
    MetFree l Jvm.Pilot.@@N@@.x (head1 (Jvm.Cond.code Jvm.Pilot.@@N@@.x Jvm.Pilot.@@N@@.code Jvm.Pilot.@@N@@.maxLocals Jvm.Pilot.@@N@@.ret :: ws) room_1) (fun aa_ U => aa_ = #[(.int x0)] ∧ (Z.Warmed39 U.vm ∧ U.vm.interned = Z.vm.interned) ∧ U.heap = h0) (fun _ _ _ _ _ => True) (fun _ U o_ U' => RetW U (Q_law Z x0 cz h0 n0) 8 1088 U' o_) := by
  refine MetFree.of_bodySF (plainFor_of_name own_pn1) hisR ?_
  intro p e s m args below meth c_ s₁ Bd hml0 hP hK
  obtain ⟨rfl, ⟨hZ, hI0⟩, hh⟩ := hP
  have hx := Bd.exec
  have hby := Bd.bytes
  have hml : c_.maxLocals = 4 := hml0
  have hS0 : s.Since s.vm 0 := (State.WarmedH.refl s).since 0
  have hown : s.vm.findClass "com/example/pathloom/pathloom/routing/HttpSyntaxIsTokenCharPinLaw" = some m.cls := findClass_of_methodNamed Bd.named
  have hnm := (name_of_methodNamed Bd.named Bd.method).1
  have X0 : Stand p l e room_1 (s.setVm s.vm) m #[(.int x0)] below meth c_ s₁ [] 0 0 := Stand.of_body Bd
  have e0 : s₁.heap = h0 := by rw [← hh, Bd.state]; rfl
  have N0 := Fr.nil n0
  have w0_ := hw _ (List.mem_of_getElem? (i := 0) rfl)
  have w1_ := hw _ (List.mem_of_getElem? (i := 1) rfl)
  have w2_ := hw _ (List.mem_of_getElem? (i := 2) rfl)
  have w3_ := hw _ (List.mem_of_getElem? (i := 3) rfl)
  have w4_ := hw _ (List.mem_of_getElem? (i := 4) rfl)
  have w58_ := hw _ (List.mem_of_getElem? (i := 58) rfl)
  have w59_ := hw _ (List.mem_of_getElem? (i := 59) rfl)
  have w60_ := hw _ (List.mem_of_getElem? (i := 60) rfl)
  have w61_ := hw _ (List.mem_of_getElem? (i := 61) rfl)
  show Go p e below (RetW s (Q_law Z x0 cz h0 n0) 8 1088) (s₁.setTop (entryFrame m #[(.int x0)] maxLocals))
  rw [show entryFrame m #[(.int x0)] maxLocals = mkF m 0 #[.val (.int x0), .unset, .unset, .unset] [] from by first | (simp [entryFrame, mkF, argsToLocals, Value.category, maxLocals]; done) | rfl]
  refine g_iloadN X0 hx hby at_0 rfl ?_
  refine g_ldcI X0 hx hby hZ hown w0_ at_1 ?_
  refine g_iand X0 hx hby at_3 ?_
  refine g_istoreN X0 hx hby at_4 (l' := #[.val (.int x0), .val (.int (x0 &&& (65535 : Int32))), .unset, .unset]) rfl ?_
  obtain ⟨u, e_u⟩ : ∃ z, z = (x0 &&& (65535 : Int32)) := ⟨_, rfl⟩
  rw [← e_u]
  have hu : 0 ≤ u.toInt ∧ u.toInt < 65536 := by rw [e_u]; exact own_mask _
  refine g_iloadN X0 hx hby at_5 rfl ?_
  refine g_i2c X0 hx hby at_6 ?_
  refine g_topI u (own_i2c hu) ?_
  refine g_istoreN X0 hx hby at_7 (l' := #[.val (.int x0), .val (.int u), .val (.int u), .unset]) rfl ?_
  refine g_iloadN X0 hx hby at_8 rfl ?_
  refine g_bipush X0 hx hby (33 : Int32) at_9 rfl ?_
  by_cases hc11_1 : u < (33 : Int32)
  · skip
    refine g_icY X0 hx hby 31 at_11 (tlt hc11_1).1 (by decide) (by decide) ?_
    refine g_iconst X0 hx hby (0 : Int32) at_31 rfl ?_
    refine g_istoreN X0 hx hby at_32 (l' := #[.val (.int x0), .val (.int u), .val (.int u), .val (.int (0 : Int32))]) rfl ?_
    refine g_iloadN X0 hx hby at_33 rfl ?_
    refine g_staticW X0 hx hby hZ hown (PV := fun vm => Z.Warmed39 vm ∧ vm.interned = Z.vm.interned) (rm_tok l Z a0 hw [] u cz h0 n0 Z0 O2 P5 OLD hheld hcw) (fun _ q => ⟨State.Warmed39.trans hZ q.wide, q.interned_eq.trans hI0⟩) hS0 (Nat.zero_le _) w1_ w2_ w3_ w4_ (by decide) e0 (by rw [hml]; rfl) [(.int u)] (lenOf own_pd7 rfl) rfl rfl (Nat.le_of_ble_eq_true rfl) (Nat.le_of_ble_eq_true rfl) (Nat.le_of_ble_eq_true rfl) (Nat.le_of_ble_eq_true rfl) at_34 (fun v2 T2 L2 X2 hS2 hZ2 ho2 hQ2 => ?_)
    obtain ⟨rfl, N2q, K2⟩ := hQ2
    have N2 := Fr.app N0 N2q
    refine g_iloadN X2 hx hby at_37 rfl ?_
    refine g_icN X2 hx hby at_38 (teq (by rw [own_fin hu]; simp [hc11_1] : (own_tok u) = (0 : Int32))).2 ?_
    refine g_iconst X2 hx hby (1 : Int32) at_41 rfl ?_
    refine g_goto X2 hx hby 46 at_42 (by decide) (by decide) ?_
    refine g_nretW X2 hx hby (t := .boolean) (by simp) Bd.returns Bd.notSynchronized hS2 at_46 rfl (Nat.le_refl _) (by decide) (by decide) ?_
    show (Q_law Z x0 cz h0 n0) (some (.int (1 : Int32))) _ _
    exact ⟨rfl, N2⟩
  · skip
    refine g_icN X0 hx hby at_11 (flt hc11_1).1 ?_
    refine g_iloadN X0 hx hby at_14 rfl ?_
    refine g_bipush X0 hx hby (126 : Int32) at_15 rfl ?_
    by_cases hc17_3 : (126 : Int32) < u
    · skip
      refine g_icY X0 hx hby 31 at_17 (tlt hc17_3).2.2.1 (by decide) (by decide) ?_
      refine g_iconst X0 hx hby (0 : Int32) at_31 rfl ?_
      refine g_istoreN X0 hx hby at_32 (l' := #[.val (.int x0), .val (.int u), .val (.int u), .val (.int (0 : Int32))]) rfl ?_
      refine g_iloadN X0 hx hby at_33 rfl ?_
      refine g_staticW X0 hx hby hZ hown (PV := fun vm => Z.Warmed39 vm ∧ vm.interned = Z.vm.interned) (rm_tok l Z a0 hw [] u cz h0 n0 Z0 O2 P5 OLD hheld hcw) (fun _ q => ⟨State.Warmed39.trans hZ q.wide, q.interned_eq.trans hI0⟩) hS0 (Nat.zero_le _) w1_ w2_ w3_ w4_ (by decide) e0 (by rw [hml]; rfl) [(.int u)] (lenOf own_pd7 rfl) rfl rfl (Nat.le_of_ble_eq_true rfl) (Nat.le_of_ble_eq_true rfl) (Nat.le_of_ble_eq_true rfl) (Nat.le_of_ble_eq_true rfl) at_34 (fun v4 T4 L4 X4 hS4 hZ4 ho4 hQ4 => ?_)
      obtain ⟨rfl, N4q, K4⟩ := hQ4
      have N4 := Fr.app N0 N4q
      refine g_iloadN X4 hx hby at_37 rfl ?_
      refine g_icN X4 hx hby at_38 (teq (by rw [own_fin hu]; simp [hc11_1, hc17_3] : (own_tok u) = (0 : Int32))).2 ?_
      refine g_iconst X4 hx hby (1 : Int32) at_41 rfl ?_
      refine g_goto X4 hx hby 46 at_42 (by decide) (by decide) ?_
      refine g_nretW X4 hx hby (t := .boolean) (by simp) Bd.returns Bd.notSynchronized hS4 at_46 rfl (Nat.le_refl _) (by decide) (by decide) ?_
      show (Q_law Z x0 cz h0 n0) (some (.int (1 : Int32))) _ _
      exact ⟨rfl, N4⟩
    · skip
      refine g_icN X0 hx hby at_17 (flt hc17_3).2.2.1 ?_
      refine g_iloadN X0 hx hby at_20 rfl ?_
      refine g_static X0 hx hby hZ hown (rm_isdel l Z a0 hw [] u h0 n0 Z0 ) w58_ w59_ w60_ w61_ (by decide) e0 (by rw [hml]; rfl) [(.int u)] (lenOf own_pd0 rfl) rfl rfl (Nat.le_of_ble_eq_true rfl) (Nat.le_of_ble_eq_true rfl) (Nat.le_of_ble_eq_true rfl) (Nat.le_of_ble_eq_true rfl) at_21 (fun v5 T5 L5 X5 hQ5 => ?_)
      obtain ⟨rfl, N5q, eh5⟩ := hQ5
      have N5 := Fr.app N0 N5q
      by_cases hc24_6 : (own_del u) = (0 : Int32)
      · skip
        refine g_ifN X5 hx hby at_24 (teq hc24_6).2 ?_
        refine g_iconst X5 hx hby (1 : Int32) at_27 rfl ?_
        refine g_goto X5 hx hby 32 at_28 (by decide) (by decide) ?_
        refine g_istoreN X5 hx hby at_32 (l' := #[.val (.int x0), .val (.int u), .val (.int u), .val (.int (1 : Int32))]) rfl ?_
        refine g_iloadN X5 hx hby at_33 rfl ?_
        refine g_staticW X5 hx hby hZ hown (PV := fun vm => Z.Warmed39 vm ∧ vm.interned = Z.vm.interned) (rm_tok l Z a0 hw [] u cz h0 n0 Z0 O2 P5 OLD hheld hcw) (fun _ q => ⟨State.Warmed39.trans hZ q.wide, q.interned_eq.trans hI0⟩) hS0 (Nat.zero_le _) w1_ w2_ w3_ w4_ (by decide) eh5 (by rw [hml]; rfl) [(.int u)] (lenOf own_pd7 rfl) rfl rfl (Nat.le_of_ble_eq_true rfl) (Nat.le_of_ble_eq_true rfl) (Nat.le_of_ble_eq_true rfl) (Nat.le_of_ble_eq_true rfl) at_34 (fun v7 T7 L7 X7 hS7 hZ7 ho7 hQ7 => ?_)
        obtain ⟨rfl, N7q, K7⟩ := hQ7
        have N7 := Fr.app N5 N7q
        refine g_iloadN X7 hx hby at_37 rfl ?_
        refine g_icN X7 hx hby at_38 (teq (by rw [own_fin hu]; simp [hc11_1, hc17_3, hc24_6] : (own_tok u) = (1 : Int32))).2 ?_
        refine g_iconst X7 hx hby (1 : Int32) at_41 rfl ?_
        refine g_goto X7 hx hby 46 at_42 (by decide) (by decide) ?_
        refine g_nretW X7 hx hby (t := .boolean) (by simp) Bd.returns Bd.notSynchronized hS7 at_46 rfl (Nat.le_refl _) (by decide) (by decide) ?_
        show (Q_law Z x0 cz h0 n0) (some (.int (1 : Int32))) _ _
        exact ⟨rfl, N7⟩
      · skip
        refine g_ifY X5 hx hby 31 at_24 (feq hc24_6).2 (by decide) (by decide) ?_
        refine g_iconst X5 hx hby (0 : Int32) at_31 rfl ?_
        refine g_istoreN X5 hx hby at_32 (l' := #[.val (.int x0), .val (.int u), .val (.int u), .val (.int (0 : Int32))]) rfl ?_
        refine g_iloadN X5 hx hby at_33 rfl ?_
        refine g_staticW X5 hx hby hZ hown (PV := fun vm => Z.Warmed39 vm ∧ vm.interned = Z.vm.interned) (rm_tok l Z a0 hw [] u cz h0 n0 Z0 O2 P5 OLD hheld hcw) (fun _ q => ⟨State.Warmed39.trans hZ q.wide, q.interned_eq.trans hI0⟩) hS0 (Nat.zero_le _) w1_ w2_ w3_ w4_ (by decide) eh5 (by rw [hml]; rfl) [(.int u)] (lenOf own_pd7 rfl) rfl rfl (Nat.le_of_ble_eq_true rfl) (Nat.le_of_ble_eq_true rfl) (Nat.le_of_ble_eq_true rfl) (Nat.le_of_ble_eq_true rfl) at_34 (fun v8 T8 L8 X8 hS8 hZ8 ho8 hQ8 => ?_)
        obtain ⟨rfl, N8q, K8⟩ := hQ8
        have N8 := Fr.app N5 N8q
        refine g_iloadN X8 hx hby at_37 rfl ?_
        refine g_icN X8 hx hby at_38 (teq (by rw [own_fin hu]; simp [hc11_1, hc17_3, hc24_6] : (own_tok u) = (0 : Int32))).2 ?_
        refine g_iconst X8 hx hby (1 : Int32) at_41 rfl ?_
        refine g_goto X8 hx hby 46 at_42 (by decide) (by decide) ?_
        refine g_nretW X8 hx hby (t := .boolean) (by simp) Bd.returns Bd.notSynchronized hS8 at_46 rfl (Nat.le_refl _) (by decide) (by decide) ?_
        show (Q_law Z x0 cz h0 n0) (some (.int (1 : Int32))) _ _
        exact ⟨rfl, N8⟩

set_option maxRecDepth 65536 in
set_option maxHeartbeats 40000000 in
theorem comes_1 {Post : Tables → Env → Array Value → State → Outcome → State → Prop} (hpost : ∀ tb e args s v u, (limb_1_1.after args s (.returned v) u = true ∧ limb_1_2.after args s (.returned v) u = true ∧ True) → ReturnedEndW s (.returned v) u (Jvm.fieldLocs frame_1_writes args s ++ Jvm.arrayLocs frame_1_arrays args s ++ Jvm.staticLocs frame_1_statics s) 8 1088 → Post tb e args s (.returned v) u) :
    ArmFor flags0 classFile x code maxLocals ret World_1 tables_1 room_1 Calls_1 rest_1 Pre_1 Post := by
  intro l hfl _ _ p e ha hc hk s m args below hf hA hF happ hP
  obtain ⟨hcalls, hrest, hpre⟩ := hP
  obtain ⟨-, -, -, hnamed, -, -, -, hat⟩ := (Spec.applies_iff hf).mp happ
  obtain ⟨hg, hn⟩ := and_e (Cond.before_iff.mp (show (Jvm.Cond.and given_1 narrow_1).before args s = true from hpre))
  obtain ⟨hcount, hg1⟩ := and_e hg
  have ga0 := hg1
  obtain ⟨w0, rfl⟩ : ∃ w0 : Value, args = #[w0] := by
    have hs : args.size = 1 := by simpa [Cond.value, given_1] using hcount
    obtain ⟨L⟩ := args
    match L, hs with
    | [w0], _ => exact ⟨w0, rfl⟩
  have hw := fun d (hd : d ∈ tables_1) => atoms_spec (ws := Jvm.Cond.code x code maxLocals ret :: tables_1) hat d (List.mem_cons_of_mem _ hd)
  have hfit : Fit s := fun {y c} hc i hi => by
    obtain ⟨ha, rfl⟩ := Array.getElem?_eq_some_iff.mp hc
    have q := List.all_eq_true.mp ((Array.all_eq_true_iff_forall_mem.mp hF) _ (Array.getElem_mem ha)) i (List.mem_range.mpr hi)
    simpa [Array.getElem?_eq_getElem hi] using q
  obtain ⟨hsets, hown0⟩ := atoms_of _ (rest_1_c_eq ▸ (show rest_1_c.before _ s = true from hrest))
  have hr0 := Cond.before_iff.mp hown0
  obtain ⟨i0, ei0⟩ := is_v ga0
  obtain rfl : w0 = (.int i0) := Option.some.inj ei0
  obtain ⟨cz, ecz⟩ := is_v (Cond.before_iff.mp (hsets _ (List.mem_of_getElem? (i := 1) rfl)))
  have O2 := Sta.start ecz (Or.inl (hsets _ (List.mem_of_getElem? (i := 0) rfl)))
  have P5 : ¬ cz = (0 : Int32) := gotF (Cond.eq_ints ecz (Term.int_eval 0)) (not_v (Cond.before_iff.mp (hsets _ (List.mem_of_getElem? (i := 2) rfl))))
  have hheld : Jvm.Lit.constHeld s "com/example/pathloom/pathloom/routing/HttpSyntax" 27 := hcalls.1 ("com/example/pathloom/pathloom/routing/HttpSyntax", 27) (by simp [consts_1])
  have hcw : Jvm.Lit.compactW.before #[Value.int i0] s = true := hsets _ (List.mem_of_getElem? (i := 2) rfl)
  obtain ⟨n, o, h1, h2, h3, _, L, rfl, ⟨rfl, N⟩, hq⟩ := rm_law l s _ hw tables_1 i0 cz s.heap s.heap.size (Nat.le_refl _) O2 P5 (Old.start s) hheld hcw p e ha hc hk s m _ below hf ((Spec.applies_iff_loose hf).mp happ).1 ⟨rfl, ⟨State.Warmed39.refl s, rfl⟩, rfl⟩ trivial
  refine ⟨n, _, h1, h2, h3, hpost _ _ _ _ _ _ ⟨Cond.after_iff.mpr rfl, Cond.after_iff.mpr (eq_i res_at (Term.int_eval (1)) rfl), trivial⟩ (own_widen hq N (by decide) (by decide))⟩
theorem main_1_1 : Claimed_1_1 := comes_1 fun _ _ _ _ _ _ h hF => ⟨h.1, hF⟩
theorem main_1_2 : Claimed_1_2 := comes_1 fun _ _ _ _ _ _ h hF => ⟨h.2.1, hF⟩

end Jvm.Pilot.@@N@@
namespace Jvm.Pilot.@@N@@
open Jvm Jvm.ClassFile Sem Op Lib Jvm.Free Jvm.Stand Jvm.Pilot.@@N@@.Jvm.D
/-! MADE BY PROGRAM (witnessworld.py) out of the Statement's table words and the real class files: 18 classes; the members and pool entries that the words name. The judged class is class 1, her method 2. -/
namespace start1
open Jvm.ClassFile
def u (s : String) : CpInfo := .utf8 (stringToUtf16 s)
/-- a pool by its gaps: so many unusable entries, then the entry; so many at the end -/
def gap : Nat → List CpInfo → List CpInfo
  | 0, r => r
  | n + 1, r => .unusable :: gap n r
def poolList (es : List (Nat × CpInfo)) (last : Nat) : List CpInfo := es.foldr (fun e r => gap e.1 (e.2 :: r)) (gap last [])
def pool (es : List (Nat × CpInfo)) (last : Nat) : Array CpInfo := ⟨poolList es last⟩
def fileOf (pool : Array CpInfo) (this : Nat) (attrs : Array Attribute := #[]) (ms : Array MethodInfo := #[]) (fl : Nat := 33) (sup : Nat := 0) (ifs : Array Nat := #[]) (fds : Array FieldInfo := #[]) : ClassFile where
  minorVersion := 0
  majorVersion := 65
  constantPool := pool
  accessFlags := fl
  thisClass := this
  superClass := sup
  interfaces := ifs
  fields := fds
  methods := ms
  attributes := attrs
def plain (name : String) (sup : Option ClassId) : Class where
  name := name
  kind := .ordinary
  loader := none
  accessFlags := 33
  super := sup
  interfaces := #[]
  cf := none
  fields := #[]
  methods := #[]
  instanceTypes := #[]
  staticTypes := #[]
  resolved := #[]
  callSites := []
  init := .initialized
  statics := none
  mirror := none

def pool0 : Array CpInfo := pool [(5, u "<init>"), (0, u "()V"), (1, .class_ 10), (1, u "java/lang/Object")] 113

def k0m0 : Method := { name := "<init>", desc := "()V", sig := { parameters := [], returnType := none }, accessFlags := 1, code := none }
/-- java/lang/Object -/
def k0 : Class := { plain "java/lang/Object" none with
  accessFlags := 33
  interfaces := #[]
  cf := some (fileOf pool0 8 #[] #[{ accessFlags := 1, nameIndex := 5, descriptorIndex := 6, attributes := #[] }] 33 0 #[] #[])
  fields := #[]
  methods := #[k0m0]
  instanceTypes := #[]
  staticTypes := #[]
  resolved := Array.replicate 124 none
  statics := none }

def pool1 : Array CpInfo := pool [(2, .class_ 4), (1, u "java/lang/Object"), (0, u "<init>"), (0, u "()V"), (0, .integer 65535), (0, .methodref 9 10), (0, .class_ 11), (0, .nameAndType 12 13), (0, u "com/example/pathloom/pathloom/routing/HttpSyntaxIsTokenCharPinLaw"), (0, u "isDelimiter"), (0, u "(I)Z"), (0, .methodref 15 16), (0, .class_ 17), (0, .nameAndType 18 19), (0, u "com/example/pathloom/pathloom/routing/HttpSyntax"), (0, u "isTokenChar"), (0, u "(C)Z"), (3, u "law")] 2

def k1m0 : Method := { name := "<init>", desc := "()V", sig := { parameters := [], returnType := none }, accessFlags := 2, code := none }
def k1c1 : Code := { maxStack := 2, maxLocals := 1, code := method_2_code, exceptionTable := #[], attributes := #[] }
def k1m1 : Method := { name := "isDelimiter", desc := "(I)Z", sig := { parameters := [.int], returnType := some .boolean }, accessFlags := 10, code := some k1c1 }
def k1c2 : Code := { maxStack := 2, maxLocals := 4, code := code, exceptionTable := #[], attributes := #[] }
def k1m2 : Method := { name := "law", desc := "(I)Z", sig := { parameters := [.int], returnType := some .boolean }, accessFlags := 9, code := some k1c2 }
/-- com/example/pathloom/pathloom/routing/HttpSyntaxIsTokenCharPinLaw -/
def k1 : Class := { plain "com/example/pathloom/pathloom/routing/HttpSyntaxIsTokenCharPinLaw" (some 0) with
  accessFlags := 49
  interfaces := #[]
  cf := some (fileOf pool1 9 #[] #[{ accessFlags := 2, nameIndex := 5, descriptorIndex := 6, attributes := #[] }, { accessFlags := 10, nameIndex := 12, descriptorIndex := 13, attributes := #[] }, { accessFlags := 9, nameIndex := 23, descriptorIndex := 13, attributes := #[] }] 49 2 #[] #[])
  fields := #[]
  methods := #[k1m0, k1m1, k1m2]
  instanceTypes := #[]
  staticTypes := #[]
  resolved := Array.replicate 26 none
  statics := none }

def pool2 : Array CpInfo := pool [(2, .class_ 4), (1, u "java/lang/Object"), (0, u "<init>"), (0, u "()V"), (1, .class_ 10), (1, u "java/lang/String"), (11, .class_ 24), (1, u "com/example/pathloom/pathloom/routing/HttpSyntax"), (0, u "isTokenChar"), (0, u "(C)Z"), (0, .string 28), (0, u "!#$%&'*+-.^_`|~"), (0, .methodref 8 30), (0, .nameAndType 31 32), (0, u "indexOf"), (0, u "(I)I")] 7

def k2m0 : Method := { name := "<init>", desc := "()V", sig := { parameters := [], returnType := none }, accessFlags := 2, code := none }
def k2c1 : Code := { maxStack := 2, maxLocals := 1, code := prog_13_method_3_code, exceptionTable := #[], attributes := #[] }
def k2m1 : Method := { name := "isTokenChar", desc := "(C)Z", sig := { parameters := [.char], returnType := some .boolean }, accessFlags := 9, code := some k2c1 }
/-- com/example/pathloom/pathloom/routing/HttpSyntax -/
def k2 : Class := { plain "com/example/pathloom/pathloom/routing/HttpSyntax" (some 0) with
  accessFlags := 49
  interfaces := #[]
  cf := some (fileOf pool2 22 #[] #[{ accessFlags := 2, nameIndex := 5, descriptorIndex := 6, attributes := #[] }, { accessFlags := 9, nameIndex := 25, descriptorIndex := 26, attributes := #[] }] 49 2 #[] #[])
  fields := #[]
  methods := #[k2m0, k2m1]
  instanceTypes := #[]
  staticTypes := #[]
  resolved := Array.replicate 40 none
  statics := none }

def pool3 : Array CpInfo := pool [(1, .class_ 2), (0, u "java/io/Serializable"), (0, .class_ 4), (0, u "java/lang/Object")] 2

/-- java/io/Serializable -/
def k3 : Class := { plain "java/io/Serializable" (some 0) with
  accessFlags := 1537
  interfaces := #[]
  cf := some (fileOf pool3 1 #[] #[] 1537 3 #[] #[])
  fields := #[]
  methods := #[]
  instanceTypes := #[]
  staticTypes := #[]
  resolved := Array.replicate 7 none
  statics := none }

def pool4 : Array CpInfo := pool [(1, .class_ 2), (0, u "java/lang/Comparable"), (0, .class_ 4), (0, u "java/lang/Object")] 7

/-- java/lang/Comparable -/
def k4 : Class := { plain "java/lang/Comparable" (some 0) with
  accessFlags := 1537
  interfaces := #[]
  cf := some (fileOf pool4 1 #[] #[] 1537 3 #[] #[])
  fields := #[]
  methods := #[]
  instanceTypes := #[]
  staticTypes := #[]
  resolved := Array.replicate 12 none
  statics := none }

def pool5 : Array CpInfo := pool [(2, .class_ 4), (1, u "java/lang/CharSequence"), (42, .class_ 48), (0, u "java/lang/CharSequence$1CodePointIterator"), (10, .class_ 60), (0, u "java/lang/CharSequence$1CharIterator"), (5, .class_ 67), (0, u "java/lang/Object")] 63

/-- java/lang/CharSequence -/
def k5 : Class := { plain "java/lang/CharSequence" (some 0) with
  accessFlags := 1537
  interfaces := #[]
  cf := some (fileOf pool5 2 #[.nestMembers #[47, 59]] #[] 1537 66 #[] #[])
  fields := #[]
  methods := #[]
  instanceTypes := #[]
  staticTypes := #[]
  resolved := Array.replicate 131 none
  statics := none }

def pool6 : Array CpInfo := pool [(1, .class_ 2), (0, u "java/lang/constant/Constable"), (0, .class_ 4), (0, u "java/lang/Object")] 6

/-- java/lang/constant/Constable -/
def k6 : Class := { plain "java/lang/constant/Constable" (some 0) with
  accessFlags := 1537
  interfaces := #[]
  cf := some (fileOf pool6 1 #[] #[] 1537 3 #[] #[])
  fields := #[]
  methods := #[]
  instanceTypes := #[]
  staticTypes := #[]
  resolved := Array.replicate 11 none
  statics := none }

def pool7 : Array CpInfo := pool [(1, .class_ 2), (0, u "java/lang/constant/ConstantDesc"), (0, .class_ 4), (0, u "java/lang/Object")] 32

/-- java/lang/constant/ConstantDesc -/
def k7 : Class := { plain "java/lang/constant/ConstantDesc" (some 0) with
  accessFlags := 1537
  interfaces := #[]
  cf := some (fileOf pool7 1 #[] #[] 1537 3 #[] #[])
  fields := #[]
  methods := #[]
  instanceTypes := #[]
  staticTypes := #[]
  resolved := Array.replicate 37 none
  statics := none }

def pool8 : Array CpInfo := pool [(2, .class_ 4), (1, u "java/lang/Object"), (0, u "<init>"), (0, u "()V"), (2, .fieldref 10 11), (0, .class_ 12), (0, .nameAndType 13 14), (0, u "java/lang/String"), (0, u "value"), (0, u "[B"), (0, .fieldref 10 16), (0, .nameAndType 17 18), (0, u "coder"), (0, u "B"), (2, u "hash"), (0, u "I"), (2, u "hashIsZero"), (0, u "Z"), (11, .fieldref 10 39), (0, .nameAndType 40 26), (0, u "COMPACT_STRINGS"), (66, .class_ 109), (1, u "java/lang/StringLatin1"), (32, u "()Z"), (191, u "()I"), (0, .methodref 10 336), (0, .nameAndType 17 337), (0, u "()B"), (154, .methodref 10 493), (0, .nameAndType 494 142), (0, u "isLatin1"), (10, .methodref 10 506), (0, .nameAndType 507 334), (0, u "length"), (67, .class_ 576), (0, u "java/lang/CharSequence"), (22, u "CASE_INSENSITIVE_ORDER"), (0, u "Ljava/util/Comparator;"), (32, .methodref 10 634), (0, .nameAndType 635 636), (0, u "indexOf"), (0, u "(II)I"), (0, .methodref 107 638), (0, .nameAndType 635 639), (0, u "([BIII)I"), (125, u "(I)I"), (335, u "serialPersistentFields"), (0, u "[Ljava/io/ObjectStreamField;"), (0, .class_ 1104), (0, u "java/lang/String$CaseInsensitiveComparator"), (1, .class_ 1107), (0, u "java/io/Serializable"), (0, .class_ 1109), (0, u "java/lang/Comparable"), (0, .class_ 1111), (0, u "java/lang/constant/Constable"), (0, .class_ 1113), (0, u "java/lang/constant/ConstantDesc"), (2, u "serialVersionUID"), (0, u "J"), (3, u "REPL"), (0, u "C"), (2, u "LATIN1"), (1, u "UTF16")] 323

def k8m0 : Method := { name := "<init>", desc := "()V", sig := { parameters := [], returnType := none }, accessFlags := 1, code := none }
def k8c1 : Code := { maxStack := 2, maxLocals := 1, code := jdk_42_method_54_code, exceptionTable := #[], attributes := #[] }
def k8m1 : Method := { name := "length", desc := "()I", sig := { parameters := [], returnType := some .int }, accessFlags := 1, code := some k8c1 }
def k8c2 : Code := { maxStack := 3, maxLocals := 2, code := jdk_42_method_79_code, exceptionTable := #[], attributes := #[] }
def k8m2 : Method := { name := "indexOf", desc := "(I)I", sig := { parameters := [.int], returnType := some .int }, accessFlags := 1, code := some k8c2 }
def k8c3 : Code := { maxStack := 4, maxLocals := 3, code := jdk_42_method_80_code, exceptionTable := #[], attributes := #[] }
def k8m3 : Method := { name := "indexOf", desc := "(II)I", sig := { parameters := [.int, .int], returnType := some .int }, accessFlags := 1, code := some k8c3 }
def k8c4 : Code := { maxStack := 1, maxLocals := 1, code := jdk_42_method_152_code, exceptionTable := #[], attributes := #[] }
def k8m4 : Method := { name := "coder", desc := "()B", sig := { parameters := [], returnType := some .byte }, accessFlags := 0, code := some k8c4 }
def k8c5 : Code := { maxStack := 1, maxLocals := 1, code := jdk_42_method_154_code, exceptionTable := #[], attributes := #[] }
def k8m5 : Method := { name := "isLatin1", desc := "()Z", sig := { parameters := [], returnType := some .boolean }, accessFlags := 0, code := some k8c5 }
/-- java/lang/String -/
def k8 : Class := { plain "java/lang/String" (some 0) with
  accessFlags := 49
  interfaces := #[3, 4, 5, 6, 7]
  cf := some (fileOf pool8 10 #[.nestMembers #[1103]] #[{ accessFlags := 1, nameIndex := 5, descriptorIndex := 6, attributes := #[] }, { accessFlags := 1, nameIndex := 507, descriptorIndex := 334, attributes := #[] }, { accessFlags := 1, nameIndex := 635, descriptorIndex := 765, attributes := #[] }, { accessFlags := 1, nameIndex := 635, descriptorIndex := 636, attributes := #[] }, { accessFlags := 0, nameIndex := 17, descriptorIndex := 337, attributes := #[] }, { accessFlags := 0, nameIndex := 494, descriptorIndex := 142, attributes := #[] }] 49 2 #[1106, 1108, 575, 1110, 1112] #[{ accessFlags := 18, nameIndex := 13, descriptorIndex := 14, attributes := #[] }, { accessFlags := 18, nameIndex := 17, descriptorIndex := 18, attributes := #[] }, { accessFlags := 2, nameIndex := 21, descriptorIndex := 22, attributes := #[] }, { accessFlags := 2, nameIndex := 25, descriptorIndex := 26, attributes := #[] }, { accessFlags := 26, nameIndex := 1116, descriptorIndex := 1117, attributes := #[] }, { accessFlags := 24, nameIndex := 40, descriptorIndex := 26, attributes := #[] }, { accessFlags := 26, nameIndex := 1101, descriptorIndex := 1102, attributes := #[] }, { accessFlags := 26, nameIndex := 1121, descriptorIndex := 1122, attributes := #[] }, { accessFlags := 25, nameIndex := 599, descriptorIndex := 600, attributes := #[] }, { accessFlags := 24, nameIndex := 1125, descriptorIndex := 18, attributes := #[] }, { accessFlags := 24, nameIndex := 1127, descriptorIndex := 18, attributes := #[] }])
  fields := #[{ name := "value", type := (.array .byte), accessFlags := 18, slot := 0, constantValue := 0 }, { name := "coder", type := .byte, accessFlags := 18, slot := 1, constantValue := 0 }, { name := "hash", type := .int, accessFlags := 2, slot := 2, constantValue := 0 }, { name := "hashIsZero", type := .boolean, accessFlags := 2, slot := 3, constantValue := 0 }, { name := "serialVersionUID", type := .long, accessFlags := 26, slot := 0, constantValue := 0 }, { name := "COMPACT_STRINGS", type := .boolean, accessFlags := 24, slot := 1, constantValue := 0 }, { name := "serialPersistentFields", type := (.array (.object "java/io/ObjectStreamField")), accessFlags := 26, slot := 2, constantValue := 0 }, { name := "REPL", type := .char, accessFlags := 26, slot := 3, constantValue := 0 }, { name := "CASE_INSENSITIVE_ORDER", type := (.object "java/util/Comparator"), accessFlags := 25, slot := 4, constantValue := 0 }, { name := "LATIN1", type := .byte, accessFlags := 24, slot := 5, constantValue := 0 }, { name := "UTF16", type := .byte, accessFlags := 24, slot := 6, constantValue := 0 }]
  methods := #[k8m0, k8m1, k8m2, k8m3, k8m4, k8m5]
  instanceTypes := #[(.array .byte), .byte, .int, .boolean]
  staticTypes := #[.long, .boolean, (.array (.object "java/io/ObjectStreamField")), .char, (.object "java/util/Comparator"), .byte, .byte]
  resolved := Array.replicate 1451 none
  statics := some 0 }

def pool9 : Array CpInfo := pool [(4, .class_ 6), (1, u "java/lang/Object"), (0, u "<init>"), (0, u "()V"), (5, .class_ 16), (1, u "java/lang/StringLatin1"), (21, .methodref 39 40), (0, .class_ 41), (0, .nameAndType 42 43), (0, u "java/lang/Math"), (0, u "min"), (0, u "(II)I"), (44, .methodref 14 89), (0, .nameAndType 90 91), (0, u "canEncode"), (0, u "(I)Z"), (0, .methodref 39 93), (0, .nameAndType 94 43), (0, u "max"), (0, .methodref 14 96), (0, .nameAndType 97 98), (0, u "indexOfChar"), (0, u "([BIII)I"), (2, u "indexOf"), (19, u "$assertionsDisabled"), (0, u "Z"), (98, .class_ 223), (1, u "java/lang/StringLatin1$LinesSpliterator"), (166, .class_ 391), (0, u "java/lang/StringLatin1$CharsSpliterator")] 3

def k9m0 : Method := { name := "<init>", desc := "()V", sig := { parameters := [], returnType := none }, accessFlags := 0, code := none }
def k9c1 : Code := { maxStack := 2, maxLocals := 1, code := jdk_43_method_4_code, exceptionTable := #[], attributes := #[] }
def k9m1 : Method := { name := "canEncode", desc := "(I)Z", sig := { parameters := [.int], returnType := some .boolean }, accessFlags := 9, code := some k9c1 }
def k9c2 : Code := { maxStack := 4, maxLocals := 4, code := jdk_43_method_22_code, exceptionTable := #[], attributes := #[] }
def k9m2 : Method := { name := "indexOf", desc := "([BIII)I", sig := { parameters := [(.array .byte), .int, .int, .int], returnType := some .int }, accessFlags := 9, code := some k9c2 }
def k9c3 : Code := { maxStack := 2, maxLocals := 6, code := jdk_43_method_23_code, exceptionTable := #[], attributes := #[] }
def k9m3 : Method := { name := "indexOfChar", desc := "([BIII)I", sig := { parameters := [(.array .byte), .int, .int, .int], returnType := some .int }, accessFlags := 10, code := some k9c3 }
/-- java/lang/StringLatin1 -/
def k9 : Class := { plain "java/lang/StringLatin1" (some 0) with
  accessFlags := 48
  interfaces := #[]
  cf := some (fileOf pool9 14 #[.nestMembers #[390, 221]] #[{ accessFlags := 0, nameIndex := 7, descriptorIndex := 8, attributes := #[] }, { accessFlags := 9, nameIndex := 90, descriptorIndex := 91, attributes := #[] }, { accessFlags := 9, nameIndex := 101, descriptorIndex := 98, attributes := #[] }, { accessFlags := 10, nameIndex := 97, descriptorIndex := 98, attributes := #[] }] 48 4 #[] #[{ accessFlags := 4120, nameIndex := 121, descriptorIndex := 122, attributes := #[] }])
  fields := #[{ name := "$assertionsDisabled", type := .boolean, accessFlags := 4120, slot := 0, constantValue := 0 }]
  methods := #[k9m0, k9m1, k9m2, k9m3]
  instanceTypes := #[]
  staticTypes := #[.boolean]
  resolved := Array.replicate 395 none
  statics := none }

def pool10 : Array CpInfo := pool [(1, .class_ 2), (0, u "java/lang/Math"), (1, .class_ 6), (1, u "java/lang/Object"), (0, u "<init>"), (0, u "()V"), (89, .class_ 100), (1, u "java/lang/Math$RandomNumberGeneratorHolder"), (71, u "negativeZeroFloatBits"), (0, u "J"), (2, u "negativeZeroDoubleBits"), (21, u "max"), (2, u "min"), (43, u "$assertionsDisabled"), (0, u "Z"), (88, u "(II)I"), (2, u "twoToTheDoubleScaleDown"), (0, u "D"), (4, u "twoToTheDoubleScaleUp"), (9, u "E"), (3, u "PI"), (2, u "TAU"), (2, u "DEGREES_TO_RADIANS"), (0, u "RADIANS_TO_DEGREES")] 94

def k10m0 : Method := { name := "<init>", desc := "()V", sig := { parameters := [], returnType := none }, accessFlags := 2, code := none }
def k10c1 : Code := { maxStack := 2, maxLocals := 2, code := jdk_29_method_65_code, exceptionTable := #[], attributes := #[] }
def k10m1 : Method := { name := "max", desc := "(II)I", sig := { parameters := [.int, .int], returnType := some .int }, accessFlags := 9, code := some k10c1 }
def k10c2 : Code := { maxStack := 2, maxLocals := 2, code := jdk_29_method_69_code, exceptionTable := #[], attributes := #[] }
def k10m2 : Method := { name := "min", desc := "(II)I", sig := { parameters := [.int, .int], returnType := some .int }, accessFlags := 9, code := some k10c2 }
/-- java/lang/Math -/
def k10 : Class := { plain "java/lang/Math" (some 0) with
  accessFlags := 49
  interfaces := #[]
  cf := some (fileOf pool10 1 #[.nestMembers #[98]] #[{ accessFlags := 2, nameIndex := 7, descriptorIndex := 8, attributes := #[] }, { accessFlags := 9, nameIndex := 198, descriptorIndex := 335, attributes := #[] }, { accessFlags := 9, nameIndex := 201, descriptorIndex := 335, attributes := #[] }] 49 4 #[] #[{ accessFlags := 25, nameIndex := 354, descriptorIndex := 339, attributes := #[] }, { accessFlags := 25, nameIndex := 358, descriptorIndex := 339, attributes := #[] }, { accessFlags := 25, nameIndex := 361, descriptorIndex := 339, attributes := #[] }, { accessFlags := 26, nameIndex := 364, descriptorIndex := 339, attributes := #[] }, { accessFlags := 26, nameIndex := 365, descriptorIndex := 339, attributes := #[] }, { accessFlags := 26, nameIndex := 172, descriptorIndex := 173, attributes := #[] }, { accessFlags := 26, nameIndex := 176, descriptorIndex := 173, attributes := #[] }, { accessFlags := 8, nameIndex := 344, descriptorIndex := 339, attributes := #[] }, { accessFlags := 8, nameIndex := 338, descriptorIndex := 339, attributes := #[] }, { accessFlags := 4120, nameIndex := 245, descriptorIndex := 246, attributes := #[] }])
  fields := #[{ name := "E", type := .double, accessFlags := 25, slot := 0, constantValue := 0 }, { name := "PI", type := .double, accessFlags := 25, slot := 1, constantValue := 0 }, { name := "TAU", type := .double, accessFlags := 25, slot := 2, constantValue := 0 }, { name := "DEGREES_TO_RADIANS", type := .double, accessFlags := 26, slot := 3, constantValue := 0 }, { name := "RADIANS_TO_DEGREES", type := .double, accessFlags := 26, slot := 4, constantValue := 0 }, { name := "negativeZeroFloatBits", type := .long, accessFlags := 26, slot := 5, constantValue := 0 }, { name := "negativeZeroDoubleBits", type := .long, accessFlags := 26, slot := 6, constantValue := 0 }, { name := "twoToTheDoubleScaleUp", type := .double, accessFlags := 8, slot := 7, constantValue := 0 }, { name := "twoToTheDoubleScaleDown", type := .double, accessFlags := 8, slot := 8, constantValue := 0 }, { name := "$assertionsDisabled", type := .boolean, accessFlags := 4120, slot := 9, constantValue := 0 }]
  methods := #[k10m0, k10m1, k10m2]
  instanceTypes := #[]
  staticTypes := #[.double, .double, .double, .double, .double, .long, .long, .double, .double, .boolean]
  resolved := Array.replicate 460 none
  statics := none }

def pool11 : Array CpInfo := pool [(2, .class_ 4), (1, u "java/lang/Object"), (0, u "<init>"), (0, u "()V"), (17, .class_ 26), (1, u "jdk/internal/util/Preconditions"), (28, .class_ 56), (0, u "jdk/internal/util/Preconditions$4"), (57, .class_ 115), (0, u "jdk/internal/util/Preconditions$1"), (7, u "SIOOBE_FORMATTER"), (0, u "Ljava/util/function/BiFunction;"), (0, .class_ 126), (0, u "jdk/internal/util/Preconditions$2"), (3, u "AIOOBE_FORMATTER"), (0, .class_ 132), (0, u "jdk/internal/util/Preconditions$3"), (3, u "IOOBE_FORMATTER")] 57

def k11m0 : Method := { name := "<init>", desc := "()V", sig := { parameters := [], returnType := none }, accessFlags := 1, code := none }
/-- jdk/internal/util/Preconditions -/
def k11 : Class := { plain "jdk/internal/util/Preconditions" (some 0) with
  accessFlags := 33
  interfaces := #[]
  cf := some (fileOf pool11 24 #[.nestMembers #[55, 131, 125, 114]] #[{ accessFlags := 1, nameIndex := 5, descriptorIndex := 6, attributes := #[] }] 33 2 #[] #[{ accessFlags := 25, nameIndex := 123, descriptorIndex := 124, attributes := #[] }, { accessFlags := 25, nameIndex := 130, descriptorIndex := 124, attributes := #[] }, { accessFlags := 25, nameIndex := 136, descriptorIndex := 124, attributes := #[] }])
  fields := #[{ name := "SIOOBE_FORMATTER", type := (.object "java/util/function/BiFunction"), accessFlags := 25, slot := 0, constantValue := 0 }, { name := "AIOOBE_FORMATTER", type := (.object "java/util/function/BiFunction"), accessFlags := 25, slot := 1, constantValue := 0 }, { name := "IOOBE_FORMATTER", type := (.object "java/util/function/BiFunction"), accessFlags := 25, slot := 2, constantValue := 0 }]
  methods := #[k11m0]
  instanceTypes := #[]
  staticTypes := #[(.object "java/util/function/BiFunction"), (.object "java/util/function/BiFunction"), (.object "java/util/function/BiFunction")]
  resolved := Array.replicate 194 none
  statics := some 1 }

def pool12 : Array CpInfo := pool [(9, u "<init>"), (6, .class_ 18), (1, u "java/lang/Object"), (0, u "()V"), (1, .class_ 23), (1, u "jdk/internal/util/ArraysSupport"), (0, u "LOG2_ARRAY_LONG_INDEX_SCALE"), (0, u "I"), (2, u "U"), (0, u "Ljdk/internal/misc/Unsafe;"), (8, u "BIG_ENDIAN"), (0, u "Z"), (8, u "LOG2_BYTE_BIT_SIZE"), (4, u "LOG2_ARRAY_INT_INDEX_SCALE"), (54, u "JLA"), (0, u "Ljdk/internal/access/JavaLangAccess;"), (11, u "LOG2_ARRAY_BOOLEAN_INDEX_SCALE"), (9, u "LOG2_ARRAY_BYTE_INDEX_SCALE"), (5, u "LOG2_ARRAY_CHAR_INDEX_SCALE"), (5, u "LOG2_ARRAY_SHORT_INDEX_SCALE"), (18, u "LOG2_ARRAY_FLOAT_INDEX_SCALE"), (24, u "LOG2_ARRAY_DOUBLE_INDEX_SCALE"), (89, u "T_BOOLEAN"), (2, u "T_CHAR"), (1, u "T_FLOAT"), (1, u "T_DOUBLE"), (1, u "T_BYTE"), (1, u "T_SHORT"), (1, u "T_INT"), (1, u "T_LONG"), (1, u "SOFT_MAX_ARRAY_LENGTH")] 83

def k12m0 : Method := { name := "<init>", desc := "()V", sig := { parameters := [], returnType := none }, accessFlags := 2, code := none }
/-- jdk/internal/util/ArraysSupport -/
def k12 : Class := { plain "jdk/internal/util/ArraysSupport" (some 0) with
  accessFlags := 33
  interfaces := #[]
  cf := some (fileOf pool12 21 #[] #[{ accessFlags := 2, nameIndex := 9, descriptorIndex := 19, attributes := #[] }] 33 16 #[] #[{ accessFlags := 24, nameIndex := 28, descriptorIndex := 29, attributes := #[] }, { accessFlags := 26, nameIndex := 38, descriptorIndex := 39, attributes := #[] }, { accessFlags := 25, nameIndex := 121, descriptorIndex := 25, attributes := #[] }, { accessFlags := 25, nameIndex := 131, descriptorIndex := 25, attributes := #[] }, { accessFlags := 25, nameIndex := 137, descriptorIndex := 25, attributes := #[] }, { accessFlags := 25, nameIndex := 143, descriptorIndex := 25, attributes := #[] }, { accessFlags := 25, nameIndex := 53, descriptorIndex := 25, attributes := #[] }, { accessFlags := 25, nameIndex := 24, descriptorIndex := 25, attributes := #[] }, { accessFlags := 25, nameIndex := 162, descriptorIndex := 25, attributes := #[] }, { accessFlags := 25, nameIndex := 187, descriptorIndex := 25, attributes := #[] }, { accessFlags := 26, nameIndex := 48, descriptorIndex := 25, attributes := #[] }, { accessFlags := 25, nameIndex := 277, descriptorIndex := 25, attributes := #[] }, { accessFlags := 25, nameIndex := 280, descriptorIndex := 25, attributes := #[] }, { accessFlags := 25, nameIndex := 282, descriptorIndex := 25, attributes := #[] }, { accessFlags := 25, nameIndex := 284, descriptorIndex := 25, attributes := #[] }, { accessFlags := 25, nameIndex := 286, descriptorIndex := 25, attributes := #[] }, { accessFlags := 25, nameIndex := 288, descriptorIndex := 25, attributes := #[] }, { accessFlags := 25, nameIndex := 290, descriptorIndex := 25, attributes := #[] }, { accessFlags := 25, nameIndex := 292, descriptorIndex := 25, attributes := #[] }, { accessFlags := 26, nameIndex := 108, descriptorIndex := 109, attributes := #[] }, { accessFlags := 25, nameIndex := 294, descriptorIndex := 25, attributes := #[] }])
  fields := #[{ name := "U", type := (.object "jdk/internal/misc/Unsafe"), accessFlags := 24, slot := 0, constantValue := 0 }, { name := "BIG_ENDIAN", type := .boolean, accessFlags := 26, slot := 1, constantValue := 0 }, { name := "LOG2_ARRAY_BOOLEAN_INDEX_SCALE", type := .int, accessFlags := 25, slot := 2, constantValue := 0 }, { name := "LOG2_ARRAY_BYTE_INDEX_SCALE", type := .int, accessFlags := 25, slot := 3, constantValue := 0 }, { name := "LOG2_ARRAY_CHAR_INDEX_SCALE", type := .int, accessFlags := 25, slot := 4, constantValue := 0 }, { name := "LOG2_ARRAY_SHORT_INDEX_SCALE", type := .int, accessFlags := 25, slot := 5, constantValue := 0 }, { name := "LOG2_ARRAY_INT_INDEX_SCALE", type := .int, accessFlags := 25, slot := 6, constantValue := 0 }, { name := "LOG2_ARRAY_LONG_INDEX_SCALE", type := .int, accessFlags := 25, slot := 7, constantValue := 0 }, { name := "LOG2_ARRAY_FLOAT_INDEX_SCALE", type := .int, accessFlags := 25, slot := 8, constantValue := 0 }, { name := "LOG2_ARRAY_DOUBLE_INDEX_SCALE", type := .int, accessFlags := 25, slot := 9, constantValue := 0 }, { name := "LOG2_BYTE_BIT_SIZE", type := .int, accessFlags := 26, slot := 10, constantValue := 0 }, { name := "T_BOOLEAN", type := .int, accessFlags := 25, slot := 11, constantValue := 0 }, { name := "T_CHAR", type := .int, accessFlags := 25, slot := 12, constantValue := 0 }, { name := "T_FLOAT", type := .int, accessFlags := 25, slot := 13, constantValue := 0 }, { name := "T_DOUBLE", type := .int, accessFlags := 25, slot := 14, constantValue := 0 }, { name := "T_BYTE", type := .int, accessFlags := 25, slot := 15, constantValue := 0 }, { name := "T_SHORT", type := .int, accessFlags := 25, slot := 16, constantValue := 0 }, { name := "T_INT", type := .int, accessFlags := 25, slot := 17, constantValue := 0 }, { name := "T_LONG", type := .int, accessFlags := 25, slot := 18, constantValue := 0 }, { name := "JLA", type := (.object "jdk/internal/access/JavaLangAccess"), accessFlags := 26, slot := 19, constantValue := 0 }, { name := "SOFT_MAX_ARRAY_LENGTH", type := .int, accessFlags := 25, slot := 20, constantValue := 0 }]
  methods := #[k12m0]
  instanceTypes := #[]
  staticTypes := #[(.object "jdk/internal/misc/Unsafe"), .boolean, .int, .int, .int, .int, .int, .int, .int, .int, .int, .int, .int, .int, .int, .int, .int, .int, .int, (.object "jdk/internal/access/JavaLangAccess"), .int]
  resolved := Array.replicate 378 none
  statics := none }

def pool13 : Array CpInfo := pool [(1, u "java/lang/Cloneable"), (0, .class_ 1), (0, u "java/lang/Object"), (0, .class_ 3)] 3

/-- java/lang/Cloneable -/
def k13 : Class := { plain "java/lang/Cloneable" (some 0) with
  accessFlags := 1537
  interfaces := #[]
  cf := some (fileOf pool13 2 #[] #[] 1537 4 #[] #[])
  fields := #[]
  methods := #[]
  instanceTypes := #[]
  staticTypes := #[]
  resolved := Array.replicate 8 none
  statics := none }

/-- the primitive byte -/
def k14 : Class := { plain "byte" none with kind := .primitive 'B', accessFlags := 0x411 }
/-- [B -/
def k15 : Class := { plain "[B" (some 0) with kind := .array 14 .byte, interfaces := #[13, 3], accessFlags := 1041 }

/-- the primitive int -/
def k16 : Class := { plain "int" none with kind := .primitive 'I', accessFlags := 0x411 }
/-- [I -/
def k17 : Class := { plain "[I" (some 0) with kind := .array 16 .int, interfaces := #[13, 3], accessFlags := 1041 }

def heap : Heap := #[{ cls := 8, slots := #[.long 0, .int 1, .null, .int 0, .null, .int 0, .int 0], vm := .statics 8 },
  { cls := 11, slots := #[.null, .null, .null], vm := .statics 11 }]
def classes : Array Class := #[k0, k1, k2, k3, k4, k5, k6, k7, k8, k9, k10, k11, k12, k13, k14, k15, k16, k17]
def interned : List (Array UInt16 × Addr) := []
def slotsUsed : Nat := 10
def theMethod : MethodId := ⟨1, 2⟩
def args0 : Array Value := #[.int 5]
def aboutOver (below : List Frame) : State where
  vm := { classes := classes, interned := interned.toArray }
  heap := heap
  slotsUsed := slotsUsed
  threads := #[{ frames := .invoking theMethod args0 :: below }]
def below0 : List Frame := [.native { method := ⟨0, 0⟩, args := #[] }]
def about1 : State := aboutOver below0
def p0 : Program := .bare "" "" ""
def e0 : Env := launch0.env 0 0 0
theorem w_frames : about1.frames = Frame.invoking theMethod args0 :: below0 := rfl
set_option maxRecDepth 65536 in
theorem w_args : argsFit about1.vm theMethod args0 = true := by decide +kernel
set_option maxRecDepth 65536 in
theorem w_heap : heapFits about1 = true := by decide +kernel
set_option maxRecDepth 65536 in
theorem w_runnable : about1.curStatus? = some .runnable := by decide +kernel
set_option maxRecDepth 65536 in
theorem w_alone : about1.alone = true := by decide +kernel
set_option maxRecDepth 65536 in
theorem w_named : about1.methodNamed? x = some theMethod := by decide +kernel
set_option maxRecDepth 65536 in
theorem w_hears : about1.hears theMethod below0 = true := by decide +kernel
set_option maxRecDepth 65536 in
theorem w_ripe : about1.ripe theMethod args0 below0 = true := by decide +kernel
theorem w_running : about1.status = .running := rfl
set_option maxRecDepth 65536 in
theorem w_room : about1.hasRoom e0.platform room_1 = true :=
  launch0.hasRoom_least _ room_1 (by decide +kernel) (by decide +kernel) (by decide +kernel) (by decide +kernel) (by decide +kernel) (by decide +kernel)
theorem allAtoms_all (ts : List Jvm.Cond) (a : Array Jvm.Value) (st : Jvm.State) : (allAtoms ts).before a st = ts.all (fun c => c.before a st) := by
  induction ts with
  | nil => rfl
  | cons c t ih =>
    show (Jvm.Cond.and c (allAtoms t)).before a st = _
    rw [Jvm.Cond.before_and, ih, List.all_cons]
def words1 : List Jvm.Cond := Jvm.Cond.code x code maxLocals ret :: tables_1
/-- a 'code' word, met by the world's own term for the bytes: nothing is compared byte by byte -/
theorem code_word {y : MethodName} {bytes : ByteArray} {mx : Nat} {rt : Option FieldType} {a : Array Value} {s : State} {m : MethodId} {meth : Method} {c : Code} (h1 : s.methodNamed? y = some m) (h2 : s.vm.method? m = some meth) (h3 : meth.code = some c) (h4 : c.code = bytes)
    (h5 : (c.maxLocals == mx && c.exceptionTable.isEmpty && decide (c.maxStack ≤ mostOperands) && decide (meth.sig.returnType = rt) && !meth.locks && decide (parseMethodDescriptor y.desc = some meth.sig)) = true) : (Jvm.Cond.code y bytes mx rt).before a s = true := by
  simp only [Bool.and_eq_true, beq_iff_eq, Bool.not_eq_true', decide_eq_true_eq] at h5
  obtain ⟨⟨⟨⟨⟨g1, g2⟩, g3⟩, g4⟩, g5⟩, g6⟩ := h5
  simp [Cond.before, Cond.holds, Cond.value, h1, h2, h3, h4, g1, g2, g3, g4, g5, g6]
def isCode : Jvm.Cond → Bool
  | .code _ _ _ _ => true
  | _ => false
theorem all_split {L : List Jvm.Cond} {P : Jvm.Cond → Bool} (h1 : L.all (fun c => isCode c || P c) = true) (h2 : ∀ c ∈ L.filter isCode, P c = true) : L.all P = true := by
  refine List.all_eq_true.mpr fun c hc => ?_
  have h := List.all_eq_true.mp h1 c hc
  rcases Bool.eq_false_or_eq_true (isCode c) with hi | hi
  · exact h2 c (List.mem_filter.mpr ⟨hc, hi⟩)
  · simpa [hi] using h
set_option maxRecDepth 65536 in
theorem w_c0 : (Jvm.Cond.code x code maxLocals ret).before args0 about1 = true := code_word (m := ⟨1, 2⟩) (meth := k1m2) (c := k1c2) (by decide +kernel) rfl rfl rfl (by decide +kernel)
set_option maxRecDepth 65536 in
theorem w_c1 : (Jvm.Cond.code ({ cls := "com/example/pathloom/pathloom/routing/HttpSyntax", name := "isTokenChar", desc := "(C)Z" } : Jvm.MethodName) prog_13_method_3_code (1 : Nat) (Option.some Jvm.ClassFile.FieldType.boolean)).before args0 about1 = true := code_word (m := ⟨2, 1⟩) (meth := k2m1) (c := k2c1) (by decide +kernel) rfl rfl rfl (by decide +kernel)
set_option maxRecDepth 65536 in
theorem w_c2 : (Jvm.Cond.code ({ cls := "java/lang/String", name := "indexOf", desc := "(I)I" } : Jvm.MethodName) jdk_42_method_79_code (2 : Nat) (Option.some Jvm.ClassFile.FieldType.int)).before args0 about1 = true := code_word (m := ⟨8, 2⟩) (meth := k8m2) (c := k8c2) (by decide +kernel) rfl rfl rfl (by decide +kernel)
set_option maxRecDepth 65536 in
theorem w_c3 : (Jvm.Cond.code ({ cls := "java/lang/String", name := "indexOf", desc := "(II)I" } : Jvm.MethodName) jdk_42_method_80_code (3 : Nat) (Option.some Jvm.ClassFile.FieldType.int)).before args0 about1 = true := code_word (m := ⟨8, 3⟩) (meth := k8m3) (c := k8c3) (by decide +kernel) rfl rfl rfl (by decide +kernel)
set_option maxRecDepth 65536 in
theorem w_c4 : (Jvm.Cond.code ({ cls := "java/lang/String", name := "isLatin1", desc := "()Z" } : Jvm.MethodName) jdk_42_method_154_code (1 : Nat) (Option.some Jvm.ClassFile.FieldType.boolean)).before args0 about1 = true := code_word (m := ⟨8, 5⟩) (meth := k8m5) (c := k8c5) (by decide +kernel) rfl rfl rfl (by decide +kernel)
set_option maxRecDepth 65536 in
theorem w_c5 : (Jvm.Cond.code ({ cls := "java/lang/String", name := "length", desc := "()I" } : Jvm.MethodName) jdk_42_method_54_code (1 : Nat) (Option.some Jvm.ClassFile.FieldType.int)).before args0 about1 = true := code_word (m := ⟨8, 1⟩) (meth := k8m1) (c := k8c1) (by decide +kernel) rfl rfl rfl (by decide +kernel)
set_option maxRecDepth 65536 in
theorem w_c6 : (Jvm.Cond.code ({ cls := "java/lang/String", name := "coder", desc := "()B" } : Jvm.MethodName) jdk_42_method_152_code (1 : Nat) (Option.some Jvm.ClassFile.FieldType.byte)).before args0 about1 = true := code_word (m := ⟨8, 4⟩) (meth := k8m4) (c := k8c4) (by decide +kernel) rfl rfl rfl (by decide +kernel)
set_option maxRecDepth 65536 in
theorem w_c7 : (Jvm.Cond.code ({ cls := "java/lang/StringLatin1", name := "indexOf", desc := "([BIII)I" } : Jvm.MethodName) jdk_43_method_22_code (4 : Nat) (Option.some Jvm.ClassFile.FieldType.int)).before args0 about1 = true := code_word (m := ⟨9, 2⟩) (meth := k9m2) (c := k9c2) (by decide +kernel) rfl rfl rfl (by decide +kernel)
set_option maxRecDepth 65536 in
theorem w_c8 : (Jvm.Cond.code ({ cls := "java/lang/StringLatin1", name := "canEncode", desc := "(I)Z" } : Jvm.MethodName) jdk_43_method_4_code (1 : Nat) (Option.some Jvm.ClassFile.FieldType.boolean)).before args0 about1 = true := code_word (m := ⟨9, 1⟩) (meth := k9m1) (c := k9c1) (by decide +kernel) rfl rfl rfl (by decide +kernel)
set_option maxRecDepth 65536 in
theorem w_c9 : (Jvm.Cond.code ({ cls := "java/lang/Math", name := "max", desc := "(II)I" } : Jvm.MethodName) jdk_29_method_65_code (2 : Nat) (Option.some Jvm.ClassFile.FieldType.int)).before args0 about1 = true := code_word (m := ⟨10, 1⟩) (meth := k10m1) (c := k10c1) (by decide +kernel) rfl rfl rfl (by decide +kernel)
set_option maxRecDepth 65536 in
theorem w_c10 : (Jvm.Cond.code ({ cls := "java/lang/Math", name := "min", desc := "(II)I" } : Jvm.MethodName) jdk_29_method_69_code (2 : Nat) (Option.some Jvm.ClassFile.FieldType.int)).before args0 about1 = true := code_word (m := ⟨10, 2⟩) (meth := k10m2) (c := k10c2) (by decide +kernel) rfl rfl rfl (by decide +kernel)
set_option maxRecDepth 65536 in
theorem w_c11 : (Jvm.Cond.code ({ cls := "java/lang/StringLatin1", name := "indexOfChar", desc := "([BIII)I" } : Jvm.MethodName) jdk_43_method_23_code (6 : Nat) (Option.some Jvm.ClassFile.FieldType.int)).before args0 about1 = true := code_word (m := ⟨9, 3⟩) (meth := k9m3) (c := k9c3) (by decide +kernel) rfl rfl rfl (by decide +kernel)
set_option maxRecDepth 65536 in
theorem w_c12 : (Jvm.Cond.code ({ cls := "com/example/pathloom/pathloom/routing/HttpSyntaxIsTokenCharPinLaw", name := "isDelimiter", desc := "(I)Z" } : Jvm.MethodName) method_2_code (1 : Nat) (Option.some Jvm.ClassFile.FieldType.boolean)).before args0 about1 = true := code_word (m := ⟨1, 1⟩) (meth := k1m1) (c := k1c1) (by decide +kernel) rfl rfl rfl (by decide +kernel)
def codes1 : List Jvm.Cond := [Jvm.Cond.code x code maxLocals ret, Jvm.Cond.code ({ cls := "com/example/pathloom/pathloom/routing/HttpSyntax", name := "isTokenChar", desc := "(C)Z" } : Jvm.MethodName) prog_13_method_3_code (1 : Nat) (Option.some Jvm.ClassFile.FieldType.boolean), Jvm.Cond.code ({ cls := "java/lang/String", name := "indexOf", desc := "(I)I" } : Jvm.MethodName) jdk_42_method_79_code (2 : Nat) (Option.some Jvm.ClassFile.FieldType.int), Jvm.Cond.code ({ cls := "java/lang/String", name := "indexOf", desc := "(II)I" } : Jvm.MethodName) jdk_42_method_80_code (3 : Nat) (Option.some Jvm.ClassFile.FieldType.int), Jvm.Cond.code ({ cls := "java/lang/String", name := "isLatin1", desc := "()Z" } : Jvm.MethodName) jdk_42_method_154_code (1 : Nat) (Option.some Jvm.ClassFile.FieldType.boolean), Jvm.Cond.code ({ cls := "java/lang/String", name := "length", desc := "()I" } : Jvm.MethodName) jdk_42_method_54_code (1 : Nat) (Option.some Jvm.ClassFile.FieldType.int), Jvm.Cond.code ({ cls := "java/lang/String", name := "coder", desc := "()B" } : Jvm.MethodName) jdk_42_method_152_code (1 : Nat) (Option.some Jvm.ClassFile.FieldType.byte), Jvm.Cond.code ({ cls := "java/lang/StringLatin1", name := "indexOf", desc := "([BIII)I" } : Jvm.MethodName) jdk_43_method_22_code (4 : Nat) (Option.some Jvm.ClassFile.FieldType.int), Jvm.Cond.code ({ cls := "java/lang/StringLatin1", name := "canEncode", desc := "(I)Z" } : Jvm.MethodName) jdk_43_method_4_code (1 : Nat) (Option.some Jvm.ClassFile.FieldType.boolean), Jvm.Cond.code ({ cls := "java/lang/Math", name := "max", desc := "(II)I" } : Jvm.MethodName) jdk_29_method_65_code (2 : Nat) (Option.some Jvm.ClassFile.FieldType.int), Jvm.Cond.code ({ cls := "java/lang/Math", name := "min", desc := "(II)I" } : Jvm.MethodName) jdk_29_method_69_code (2 : Nat) (Option.some Jvm.ClassFile.FieldType.int), Jvm.Cond.code ({ cls := "java/lang/StringLatin1", name := "indexOfChar", desc := "([BIII)I" } : Jvm.MethodName) jdk_43_method_23_code (6 : Nat) (Option.some Jvm.ClassFile.FieldType.int), Jvm.Cond.code ({ cls := "com/example/pathloom/pathloom/routing/HttpSyntaxIsTokenCharPinLaw", name := "isDelimiter", desc := "(I)Z" } : Jvm.MethodName) method_2_code (1 : Nat) (Option.some Jvm.ClassFile.FieldType.boolean)]
set_option maxRecDepth 65536 in
theorem codes_eq : words1.filter isCode = codes1 := rfl
theorem w_codes : ∀ c ∈ words1.filter isCode, c.before args0 about1 = true := by
  rw [codes_eq]
  intro c hc
  simp only [codes1, List.mem_cons, List.not_mem_nil, or_false] at hc
  rcases hc with rfl | rfl | rfl | rfl | rfl | rfl | rfl | rfl | rfl | rfl | rfl | rfl | rfl
  · exact w_c0
  · exact w_c1
  · exact w_c2
  · exact w_c3
  · exact w_c4
  · exact w_c5
  · exact w_c6
  · exact w_c7
  · exact w_c8
  · exact w_c9
  · exact w_c10
  · exact w_c11
  · exact w_c12
set_option maxRecDepth 65536 in
theorem w_t1 : (words1.take 24).all (fun c => isCode c || c.before args0 about1) = true := by decide +kernel
set_option maxRecDepth 65536 in
theorem w_t2 : ((words1.drop 24).take 24).all (fun c => isCode c || c.before args0 about1) = true := by decide +kernel
set_option maxRecDepth 65536 in
theorem w_t3 : ((words1.drop 24).drop 24).all (fun c => isCode c || c.before args0 about1) = true := by decide +kernel
theorem w_tables : (allAtoms (Jvm.Cond.code x code maxLocals ret :: tables_1)).before args0 about1 = true := by
  rw [allAtoms_all]
  show words1.all (fun c => c.before args0 about1) = true
  refine all_split ?_ w_codes
  rw [← List.take_append_drop 24 words1, List.all_append, w_t1, ← List.take_append_drop 24 (words1.drop 24), List.all_append, w_t2, w_t3]
  rfl
set_option maxRecDepth 65536 in
theorem w_rest : rest_1_c.before args0 about1 = true := by decide +kernel
set_option maxRecDepth 65536 in
theorem w_case : (Jvm.Cond.and given_1 narrow_1).before args0 about1 = true := by decide +kernel
set_option maxRecDepth 65536 in
theorem w_consts : constsHeld consts_1 about1 := Jvm.Lit.constsHeldB_iff.mp (by decide +kernel)
theorem w_applies : (headSpec (Jvm.Cond.code x code maxLocals ret :: tables_1) room_1).applies x e0.platform about1 = true :=
  (Spec.applies_iff w_frames).mpr ⟨w_running, w_runnable, w_alone, w_named, w_hears, w_ripe, w_room, w_tables⟩
theorem atStart : AtStart classFile x code maxLocals ret World_1 tables_1 room_1 Calls_1 rest_1 Pre_1 launch0 p0 e0 about1 theMethod args0 below0 :=
  ⟨lists_1, trivial, launch0.admits_env _ _ _, launch0.least_env, fairChoices_fair.cas, fairChoices_fair.clock, w_frames, w_args, w_heap, w_applies, ⟨w_consts, trivial⟩, w_rest, w_case⟩
end start1
theorem witness_1 : WitnessClaimed_1 := ⟨start1.p0, start1.e0, start1.about1, start1.theMethod, start1.args0, start1.below0, start1.atStart⟩
end Jvm.Pilot.@@N@@
