import JvmDerived
import JvmDerived.Pilot.@@N@@Statement
import JvmDerived.Pilot.@@N@@Code
set_option linter.unusedVariables false
set_option linter.unusedSimpArgs false

namespace Jvm.Own
open Sem ClassFile Op Lib Jvm.Stand Jvm.Free Jvm.LawKit Jvm.RoadKit
def Go (p : Program) (e : Env) (below : List Frame) (G : State → Outcome → Prop) (σ : State) : Prop := ∃ s₂ o, Steps p.tables e below σ s₂ ∧ s₂.status = .running ∧ Ended s₂ below o ∧ G s₂ o
theorem Go.step {p : Program} {e : Env} {below : List Frame} {G : State → Outcome → Prop} {σ σ' : State} (h : ∀ t, Steps p.tables e below σ' t → Steps p.tables e below σ t) (k : Go p e below G σ') : Go p e below G σ := by
  obtain ⟨s₂, o, h1, h2⟩ := k
  exact ⟨s₂, o, h _ h1, h2⟩
def RetG (s : State) (Q : Option Value → Heap → List Loc → Prop) (cells slots : Nat) (s₂ : State) (o : Outcome) : Prop := ∃ v L, o = .returned v ∧ Q v s₂.heap L ∧ FrameEnd s o s₂ L cells slots
section
variable {p : Program} {l : Launch} {e : Env} {R : Room} {s : State} {m : MethodId} {args : Array Value} {below : List Frame} {meth : Method} {c : Code} {T : State} {locs : List Loc} {k n : Nat} {G : State → Outcome → Prop} {code : ByteArray} {pc : Nat} {Ls : Array Slot} {st : List Value} {Z : State} {a0 : Array Value} {h : Heap} {n0 : Nat}
theorem Go.leave (X : Stand p l e R s m args below meth c T locs k n) {v : Option Value} (hv : meth.sig.returnType = none → v = none) (hlocks : meth.locks = false) {Q : Option Value → Heap → List Loc → Prop} {cells slots : Nat} {σ : State} (eT : T.heap = h) (hq : Q v h locs) (hk : k ≤ cells) (hn : n ≤ slots)
    (st : ∀ fs, (∀ (f : JFrame) (acts : List Action), f.method = m → f.locked = none → f.entered = [] → (doReturn e (T.setTop f) acts v).1 = T.setFrames fs) → Steps p.tables e below σ (T.setFrames fs)) : Go p e below (RetG s Q cells slots) σ := by
  obtain ⟨fs, hr, hrun, hended, hW, hsame⟩ := X.leave (v := v) hv hlocks
  subst eT
  exact ⟨_, _, st fs hr, hrun, hended, _, _, rfl, hq, ⟨_, rfl⟩, hW, hsame.mono hk hn⟩
/-- null or some object -/
def Rf (v : Value) : Prop := v = .null ∨ ∃ a, v = .ref a
theorem Rf.is {v : Value} (r : Rf v) : v.isRef = true := by rcases r with rfl | ⟨a, rfl⟩ <;> rfl
theorem Rf.cat {v : Value} (r : Rf v) : v.category = 1 := by rcases r with rfl | ⟨a, rfl⟩ <;> rfl
theorem Rf.nar {v : Value} (r : Rf v) {c : String} : narrow (.object c) v = v := by rcases r with rfl | ⟨a, rfl⟩ <;> rfl
theorem Rf.fit {v : Value} (r : Rf v) {c : String} : fits (.object c) v = true := by rcases r with rfl | ⟨a, rfl⟩ <;> rfl
theorem Rf.store {v : Value} (r : Rf v) {ls ls' : Array Slot} {i : Nat} {o : Slot} (hold : ls[i]? = some o) (ho : One o) (hl : ls.setIfInBounds i (.val v) = ls') : storeLocals ls i v = some ls' := by rw [XS.store1 hold ho r.cat, hl]
theorem Rf.of {v : Value} (h : v.isRef = true) : Rf v := ref_cases h
theorem selOf {U : State} {as : Array Value} {y : MethodName} {n : Nat} (wi : (Cond.instantiable y.cls n).before as U = true) (wp : (Cond.privateMethod y).before #[] U = true) (wm : (Cond.instanceMethod y).before as U = true) (hy : y.cls ≠ "java/lang/invoke/MethodHandle" ∧ y.cls ≠ "java/lang/invoke/VarHandle") : (Cond.selects y.cls y y).before as U = true := by
  obtain ⟨c, k, h1, h2, -, h4, -⟩ := Cond.instantiable_spec wi
  exact selects_self_of_private h1 h2 (Bool.or_eq_false_iff.mp h4).1 (Cond.privateMethod_at wp) wm hy
theorem g_iload (X : Stand p l e R s m args below meth c T locs k n) (hx : p.tables.exec = Jvm.exec) (hby : c.code = code) {j : Nat} {v : Int32} (hd : decode code pc = .ok (.iload j, 2)) (hl : Ls[j]? = some (.val (.int v))) (K : Go p e below G (T.setTop (mkF m (pc + 2) Ls (.int v :: st)))) : Go p e below G (T.setTop (mkF m pc Ls st)) := Go.step (fun t q => XS.iload X.here hx rfl (hb hby hd) hl q) K
theorem g_iloadN (X : Stand p l e R s m args below meth c T locs k n) (hx : p.tables.exec = Jvm.exec) (hby : c.code = code) {j : Fin 4} {v : Int32} (hd : decode code pc = .ok (.iload_n j, 1)) (hl : Ls[j.val]? = some (.val (.int v))) (K : Go p e below G (T.setTop (mkF m (pc + 1) Ls (.int v :: st)))) : Go p e below G (T.setTop (mkF m pc Ls st)) := Go.step (fun t q => XS.iloadN X.here hx rfl (hb hby hd) hl q) K
theorem g_lload (X : Stand p l e R s m args below meth c T locs k n) (hx : p.tables.exec = Jvm.exec) (hby : c.code = code) {j : Nat} {v : Int64} (hd : decode code pc = .ok (.lload j, 2)) (hl : Ls[j]? = some (.val (.long v))) (K : Go p e below G (T.setTop (mkF m (pc + 2) Ls (.long v :: st)))) : Go p e below G (T.setTop (mkF m pc Ls st)) := Go.step (fun t q => XS.lload X.here hx rfl (hb hby hd) hl q) K
theorem g_lloadN (X : Stand p l e R s m args below meth c T locs k n) (hx : p.tables.exec = Jvm.exec) (hby : c.code = code) {j : Fin 4} {v : Int64} (hd : decode code pc = .ok (.lload_n j, 1)) (hl : Ls[j.val]? = some (.val (.long v))) (K : Go p e below G (T.setTop (mkF m (pc + 1) Ls (.long v :: st)))) : Go p e below G (T.setTop (mkF m pc Ls st)) := Go.step (fun t q => XS.lloadN X.here hx rfl (hb hby hd) hl q) K
theorem g_aload (X : Stand p l e R s m args below meth c T locs k n) (hx : p.tables.exec = Jvm.exec) (hby : c.code = code) {j : Nat} {v : Value} (hd : decode code pc = .ok (.aload j, 2)) (hl : Ls[j]? = some (.val v)) (hv : v.isRef = true) (K : Go p e below G (T.setTop (mkF m (pc + 2) Ls (v :: st)))) : Go p e below G (T.setTop (mkF m pc Ls st)) := Go.step (fun t q => XS.aload X.here hx rfl (hb hby hd) hl hv q) K
theorem g_aloadN (X : Stand p l e R s m args below meth c T locs k n) (hx : p.tables.exec = Jvm.exec) (hby : c.code = code) {j : Fin 4} {v : Value} (hd : decode code pc = .ok (.aload_n j, 1)) (hl : Ls[j.val]? = some (.val v)) (hv : v.isRef = true) (K : Go p e below G (T.setTop (mkF m (pc + 1) Ls (v :: st)))) : Go p e below G (T.setTop (mkF m pc Ls st)) := Go.step (fun t q => XS.aloadN X.here hx rfl (hb hby hd) hl hv q) K
theorem g_istore (X : Stand p l e R s m args below meth c T locs k n) (hx : p.tables.exec = Jvm.exec) (hby : c.code = code) {j : Nat} {x : Int32} {rest : List Value} {l' : Array Slot} (hd : decode code pc = .ok (.istore j, 2)) (hl : storeLocals Ls j (.int x) = some l') (K : Go p e below G (T.setTop (mkF m (pc + 2) l' rest))) : Go p e below G (T.setTop (mkF m pc Ls (.int x :: rest))) := Go.step (fun t q => XS.istore X.here hx rfl (hb hby hd) rfl hl q) K
theorem g_istoreN (X : Stand p l e R s m args below meth c T locs k n) (hx : p.tables.exec = Jvm.exec) (hby : c.code = code) {j : Fin 4} {x : Int32} {rest : List Value} {l' : Array Slot} (hd : decode code pc = .ok (.istore_n j, 1)) (hl : storeLocals Ls j.val (.int x) = some l') (K : Go p e below G (T.setTop (mkF m (pc + 1) l' rest))) : Go p e below G (T.setTop (mkF m pc Ls (.int x :: rest))) := Go.step (fun t q => XS.istoreN X.here hx rfl (hb hby hd) rfl hl q) K
theorem g_lstore (X : Stand p l e R s m args below meth c T locs k n) (hx : p.tables.exec = Jvm.exec) (hby : c.code = code) {j : Nat} {x : Int64} {rest : List Value} {l' : Array Slot} (hd : decode code pc = .ok (.lstore j, 2)) (hl : storeLocals Ls j (.long x) = some l') (K : Go p e below G (T.setTop (mkF m (pc + 2) l' rest))) : Go p e below G (T.setTop (mkF m pc Ls (.long x :: rest))) := Go.step (fun t q => XS.lstore X.here hx rfl (hb hby hd) rfl hl q) K
theorem g_lstoreN (X : Stand p l e R s m args below meth c T locs k n) (hx : p.tables.exec = Jvm.exec) (hby : c.code = code) {j : Fin 4} {x : Int64} {rest : List Value} {l' : Array Slot} (hd : decode code pc = .ok (.lstore_n j, 1)) (hl : storeLocals Ls j.val (.long x) = some l') (K : Go p e below G (T.setTop (mkF m (pc + 1) l' rest))) : Go p e below G (T.setTop (mkF m pc Ls (.long x :: rest))) := Go.step (fun t q => XS.lstoreN X.here hx rfl (hb hby hd) rfl hl q) K
theorem g_astore (X : Stand p l e R s m args below meth c T locs k n) (hx : p.tables.exec = Jvm.exec) (hby : c.code = code) {j : Nat} {x : Value} {rest : List Value} {l' : Array Slot} (hd : decode code pc = .ok (.astore j, 2)) (hv : x.isRef = true) (hl : storeLocals Ls j x = some l') (K : Go p e below G (T.setTop (mkF m (pc + 2) l' rest))) : Go p e below G (T.setTop (mkF m pc Ls (x :: rest))) := Go.step (fun t q => XS.astore X.here hx rfl (hb hby hd) rfl hv hl q) K
theorem g_astoreN (X : Stand p l e R s m args below meth c T locs k n) (hx : p.tables.exec = Jvm.exec) (hby : c.code = code) {j : Fin 4} {x : Value} {rest : List Value} {l' : Array Slot} (hd : decode code pc = .ok (.astore_n j, 1)) (hv : x.isRef = true) (hl : storeLocals Ls j.val x = some l') (K : Go p e below G (T.setTop (mkF m (pc + 1) l' rest))) : Go p e below G (T.setTop (mkF m pc Ls (x :: rest))) := Go.step (fun t q => XS.astoreN X.here hx rfl (hb hby hd) rfl hv hl q) K
theorem g_iconst (X : Stand p l e R s m args below meth c T locs k n) (hx : p.tables.exec = Jvm.exec) (hby : c.code = code) {i : Int} (v : Int32) (hd : decode code pc = .ok (.iconst i, 1)) (hv : Int32.ofInt i = v) (K : Go p e below G (T.setTop (mkF m (pc + 1) Ls (.int v :: st)))) : Go p e below G (T.setTop (mkF m pc Ls st)) := Go.step (fun t q => XS.iconst X.here hx rfl (hb hby hd) (by rw [hv]; exact q)) K
theorem g_bipush (X : Stand p l e R s m args below meth c T locs k n) (hx : p.tables.exec = Jvm.exec) (hby : c.code = code) {i : Int} (v : Int32) (hd : decode code pc = .ok (.bipush i, 2)) (hv : (Int8.ofInt i).toInt32 = v) (K : Go p e below G (T.setTop (mkF m (pc + 2) Ls (.int v :: st)))) : Go p e below G (T.setTop (mkF m pc Ls st)) := Go.step (fun t q => XS.bipush X.here hx rfl (hb hby hd) (by rw [hv]; exact q)) K
theorem g_sipush (X : Stand p l e R s m args below meth c T locs k n) (hx : p.tables.exec = Jvm.exec) (hby : c.code = code) {i : Int} (v : Int32) (hd : decode code pc = .ok (.sipush i, 3)) (hv : (Int16.ofInt i).toInt32 = v) (K : Go p e below G (T.setTop (mkF m (pc + 3) Ls (.int v :: st)))) : Go p e below G (T.setTop (mkF m pc Ls st)) := Go.step (fun t q => XS.sipush X.here hx rfl (hb hby hd) (by rw [hv]; exact q)) K
theorem g_lconst (X : Stand p l e R s m args below meth c T locs k n) (hx : p.tables.exec = Jvm.exec) (hby : c.code = code) {j : Fin 2} (v : Int64) (hd : decode code pc = .ok (.lconst j, 1)) (hv : Int64.ofNat j = v) (K : Go p e below G (T.setTop (mkF m (pc + 1) Ls (.long v :: st)))) : Go p e below G (T.setTop (mkF m pc Ls st)) := Go.step (fun t q => XS.lconst X.here hx rfl (hb hby hd) (by rw [hv]; exact q)) K
theorem g_topI {x : Int32} (y : Int32) (q : x = y) {rest : List Value} (K : Go p e below G (T.setTop (mkF m pc Ls (.int y :: rest)))) : Go p e below G (T.setTop (mkF m pc Ls (.int x :: rest))) := q ▸ K
theorem g_topJ {x : Int64} (y : Int64) (q : x = y) {rest : List Value} (K : Go p e below G (T.setTop (mkF m pc Ls (.long y :: rest)))) : Go p e below G (T.setTop (mkF m pc Ls (.long x :: rest))) := q ▸ K
theorem g_at {ls ls' : Array Slot} {st' : List Value} (pc' : Nat) (h1 : pc = pc') (h2 : ls = ls') (h3 : st = st') (K : Go p e below G (T.setTop (mkF m pc' ls' st'))) : Go p e below G (T.setTop (mkF m pc ls st)) := h1 ▸ h2 ▸ h3 ▸ K
theorem g_aconst_null (X : Stand p l e R s m args below meth c T locs k n) (hx : p.tables.exec = Jvm.exec) (hby : c.code = code)  (hd : decode code pc = .ok (.aconst_null, 1)) (K : Go p e below G (T.setTop (mkF m (pc + 1) Ls (.null :: st)))) : Go p e below G (T.setTop (mkF m pc Ls st)) := Go.step (fun t q => XS.aconstNull X.here hx rfl (hb hby hd)  q) K
theorem g_iadd (X : Stand p l e R s m args below meth c T locs k n) (hx : p.tables.exec = Jvm.exec) (hby : c.code = code) {x y : Int32} {rest : List Value} (hd : decode code pc = .ok (.iadd, 1)) (K : Go p e below G (T.setTop (mkF m (pc + 1) Ls (.int (x + y) :: rest)))) : Go p e below G (T.setTop (mkF m pc Ls (.int y :: .int x :: rest))) := Go.step (fun t q => XS.iadd X.here hx rfl (hb hby hd) rfl q) K
theorem g_ladd (X : Stand p l e R s m args below meth c T locs k n) (hx : p.tables.exec = Jvm.exec) (hby : c.code = code) {x y : Int64} {rest : List Value} (hd : decode code pc = .ok (.ladd, 1)) (K : Go p e below G (T.setTop (mkF m (pc + 1) Ls (.long (x + y) :: rest)))) : Go p e below G (T.setTop (mkF m pc Ls (.long y :: .long x :: rest))) := Go.step (fun t q => XS.ladd X.here hx rfl (hb hby hd) rfl q) K
theorem g_isub (X : Stand p l e R s m args below meth c T locs k n) (hx : p.tables.exec = Jvm.exec) (hby : c.code = code) {x y : Int32} {rest : List Value} (hd : decode code pc = .ok (.isub, 1)) (K : Go p e below G (T.setTop (mkF m (pc + 1) Ls (.int (x - y) :: rest)))) : Go p e below G (T.setTop (mkF m pc Ls (.int y :: .int x :: rest))) := Go.step (fun t q => XS.isub X.here hx rfl (hb hby hd) rfl q) K
theorem g_lsub (X : Stand p l e R s m args below meth c T locs k n) (hx : p.tables.exec = Jvm.exec) (hby : c.code = code) {x y : Int64} {rest : List Value} (hd : decode code pc = .ok (.lsub, 1)) (K : Go p e below G (T.setTop (mkF m (pc + 1) Ls (.long (x - y) :: rest)))) : Go p e below G (T.setTop (mkF m pc Ls (.long y :: .long x :: rest))) := Go.step (fun t q => XS.lsub X.here hx rfl (hb hby hd) rfl q) K
theorem g_imul (X : Stand p l e R s m args below meth c T locs k n) (hx : p.tables.exec = Jvm.exec) (hby : c.code = code) {x y : Int32} {rest : List Value} (hd : decode code pc = .ok (.imul, 1)) (K : Go p e below G (T.setTop (mkF m (pc + 1) Ls (.int (x * y) :: rest)))) : Go p e below G (T.setTop (mkF m pc Ls (.int y :: .int x :: rest))) := Go.step (fun t q => XS.imul X.here hx rfl (hb hby hd) rfl q) K
theorem g_lmul (X : Stand p l e R s m args below meth c T locs k n) (hx : p.tables.exec = Jvm.exec) (hby : c.code = code) {x y : Int64} {rest : List Value} (hd : decode code pc = .ok (.lmul, 1)) (K : Go p e below G (T.setTop (mkF m (pc + 1) Ls (.long (x * y) :: rest)))) : Go p e below G (T.setTop (mkF m pc Ls (.long y :: .long x :: rest))) := Go.step (fun t q => XS.lmul X.here hx rfl (hb hby hd) rfl q) K
theorem g_iand (X : Stand p l e R s m args below meth c T locs k n) (hx : p.tables.exec = Jvm.exec) (hby : c.code = code) {x y : Int32} {rest : List Value} (hd : decode code pc = .ok (.iand, 1)) (K : Go p e below G (T.setTop (mkF m (pc + 1) Ls (.int (x &&& y) :: rest)))) : Go p e below G (T.setTop (mkF m pc Ls (.int y :: .int x :: rest))) := Go.step (fun t q => XS.iand X.here hx rfl (hb hby hd) rfl q) K
theorem g_land (X : Stand p l e R s m args below meth c T locs k n) (hx : p.tables.exec = Jvm.exec) (hby : c.code = code) {x y : Int64} {rest : List Value} (hd : decode code pc = .ok (.land, 1)) (K : Go p e below G (T.setTop (mkF m (pc + 1) Ls (.long (x &&& y) :: rest)))) : Go p e below G (T.setTop (mkF m pc Ls (.long y :: .long x :: rest))) := Go.step (fun t q => XS.land X.here hx rfl (hb hby hd) rfl q) K
theorem g_ior (X : Stand p l e R s m args below meth c T locs k n) (hx : p.tables.exec = Jvm.exec) (hby : c.code = code) {x y : Int32} {rest : List Value} (hd : decode code pc = .ok (.ior, 1)) (K : Go p e below G (T.setTop (mkF m (pc + 1) Ls (.int (x ||| y) :: rest)))) : Go p e below G (T.setTop (mkF m pc Ls (.int y :: .int x :: rest))) := Go.step (fun t q => XS.ior X.here hx rfl (hb hby hd) rfl q) K
theorem g_lor (X : Stand p l e R s m args below meth c T locs k n) (hx : p.tables.exec = Jvm.exec) (hby : c.code = code) {x y : Int64} {rest : List Value} (hd : decode code pc = .ok (.lor, 1)) (K : Go p e below G (T.setTop (mkF m (pc + 1) Ls (.long (x ||| y) :: rest)))) : Go p e below G (T.setTop (mkF m pc Ls (.long y :: .long x :: rest))) := Go.step (fun t q => XS.lor X.here hx rfl (hb hby hd) rfl q) K
theorem g_ixor (X : Stand p l e R s m args below meth c T locs k n) (hx : p.tables.exec = Jvm.exec) (hby : c.code = code) {x y : Int32} {rest : List Value} (hd : decode code pc = .ok (.ixor, 1)) (K : Go p e below G (T.setTop (mkF m (pc + 1) Ls (.int (x ^^^ y) :: rest)))) : Go p e below G (T.setTop (mkF m pc Ls (.int y :: .int x :: rest))) := Go.step (fun t q => XS.ixor X.here hx rfl (hb hby hd) rfl q) K
theorem g_lxor (X : Stand p l e R s m args below meth c T locs k n) (hx : p.tables.exec = Jvm.exec) (hby : c.code = code) {x y : Int64} {rest : List Value} (hd : decode code pc = .ok (.lxor, 1)) (K : Go p e below G (T.setTop (mkF m (pc + 1) Ls (.long (x ^^^ y) :: rest)))) : Go p e below G (T.setTop (mkF m pc Ls (.long y :: .long x :: rest))) := Go.step (fun t q => XS.lxor X.here hx rfl (hb hby hd) rfl q) K
theorem g_ishl (X : Stand p l e R s m args below meth c T locs k n) (hx : p.tables.exec = Jvm.exec) (hby : c.code = code) {x y : Int32} {rest : List Value} (hd : decode code pc = .ok (.ishl, 1)) (K : Go p e below G (T.setTop (mkF m (pc + 1) Ls (.int (x <<< (y &&& 31)) :: rest)))) : Go p e below G (T.setTop (mkF m pc Ls (.int y :: .int x :: rest))) := Go.step (fun t q => XS.ishl X.here hx rfl (hb hby hd) rfl q) K
theorem g_ishr (X : Stand p l e R s m args below meth c T locs k n) (hx : p.tables.exec = Jvm.exec) (hby : c.code = code) {x y : Int32} {rest : List Value} (hd : decode code pc = .ok (.ishr, 1)) (K : Go p e below G (T.setTop (mkF m (pc + 1) Ls (.int (x >>> (y &&& 31)) :: rest)))) : Go p e below G (T.setTop (mkF m pc Ls (.int y :: .int x :: rest))) := Go.step (fun t q => XS.ishr X.here hx rfl (hb hby hd) rfl q) K
theorem g_iushr (X : Stand p l e R s m args below meth c T locs k n) (hx : p.tables.exec = Jvm.exec) (hby : c.code = code) {x y : Int32} {rest : List Value} (hd : decode code pc = .ok (.iushr, 1)) (K : Go p e below G (T.setTop (mkF m (pc + 1) Ls (.int ((x.toUInt32 >>> (y &&& 31).toUInt32).toInt32) :: rest)))) : Go p e below G (T.setTop (mkF m pc Ls (.int y :: .int x :: rest))) := Go.step (fun t q => XS.iushr X.here hx rfl (hb hby hd) rfl q) K
theorem g_lshl (X : Stand p l e R s m args below meth c T locs k n) (hx : p.tables.exec = Jvm.exec) (hby : c.code = code) {x : Int64} {y : Int32} {rest : List Value} (hd : decode code pc = .ok (.lshl, 1)) (K : Go p e below G (T.setTop (mkF m (pc + 1) Ls (.long (x <<< (y &&& 0x3f).toInt64) :: rest)))) : Go p e below G (T.setTop (mkF m pc Ls (.int y :: .long x :: rest))) := Go.step (fun t q => XS.lshl X.here hx rfl (hb hby hd) rfl q) K
theorem g_lshr (X : Stand p l e R s m args below meth c T locs k n) (hx : p.tables.exec = Jvm.exec) (hby : c.code = code) {x : Int64} {y : Int32} {rest : List Value} (hd : decode code pc = .ok (.lshr, 1)) (K : Go p e below G (T.setTop (mkF m (pc + 1) Ls (.long (x >>> (y &&& 0x3f).toInt64) :: rest)))) : Go p e below G (T.setTop (mkF m pc Ls (.int y :: .long x :: rest))) := Go.step (fun t q => XS.lshr X.here hx rfl (hb hby hd) rfl q) K
theorem g_lushr (X : Stand p l e R s m args below meth c T locs k n) (hx : p.tables.exec = Jvm.exec) (hby : c.code = code) {x : Int64} {y : Int32} {rest : List Value} (hd : decode code pc = .ok (.lushr, 1)) (K : Go p e below G (T.setTop (mkF m (pc + 1) Ls (.long ((x.toUInt64 >>> (y &&& 0x3f).toInt64.toUInt64).toInt64) :: rest)))) : Go p e below G (T.setTop (mkF m pc Ls (.int y :: .long x :: rest))) := Go.step (fun t q => XS.lushr X.here hx rfl (hb hby hd) rfl q) K
theorem g_ineg (X : Stand p l e R s m args below meth c T locs k n) (hx : p.tables.exec = Jvm.exec) (hby : c.code = code) {x : Int32} {rest : List Value} (hd : decode code pc = .ok (.ineg, 1)) (K : Go p e below G (T.setTop (mkF m (pc + 1) Ls (.int (-x) :: rest)))) : Go p e below G (T.setTop (mkF m pc Ls (.int x :: rest))) := Go.step (fun t q => XS.ineg X.here hx rfl (hb hby hd) rfl q) K
theorem g_lneg (X : Stand p l e R s m args below meth c T locs k n) (hx : p.tables.exec = Jvm.exec) (hby : c.code = code) {x : Int64} {rest : List Value} (hd : decode code pc = .ok (.lneg, 1)) (K : Go p e below G (T.setTop (mkF m (pc + 1) Ls (.long (-x) :: rest)))) : Go p e below G (T.setTop (mkF m pc Ls (.long x :: rest))) := Go.step (fun t q => XS.lneg X.here hx rfl (hb hby hd) rfl q) K
theorem g_i2l (X : Stand p l e R s m args below meth c T locs k n) (hx : p.tables.exec = Jvm.exec) (hby : c.code = code) {x : Int32} {rest : List Value} (hd : decode code pc = .ok (.i2l, 1)) (K : Go p e below G (T.setTop (mkF m (pc + 1) Ls (.long (x.toInt64) :: rest)))) : Go p e below G (T.setTop (mkF m pc Ls (.int x :: rest))) := Go.step (fun t q => XS.i2l X.here hx rfl (hb hby hd) rfl q) K
theorem g_l2i (X : Stand p l e R s m args below meth c T locs k n) (hx : p.tables.exec = Jvm.exec) (hby : c.code = code) {x : Int64} {rest : List Value} (hd : decode code pc = .ok (.l2i, 1)) (K : Go p e below G (T.setTop (mkF m (pc + 1) Ls (.int (x.toInt32) :: rest)))) : Go p e below G (T.setTop (mkF m pc Ls (.long x :: rest))) := Go.step (fun t q => XS.l2i X.here hx rfl (hb hby hd) rfl q) K
theorem g_i2b (X : Stand p l e R s m args below meth c T locs k n) (hx : p.tables.exec = Jvm.exec) (hby : c.code = code) {x : Int32} {rest : List Value} (hd : decode code pc = .ok (.i2b, 1)) (K : Go p e below G (T.setTop (mkF m (pc + 1) Ls (.int (x.toInt8.toInt32) :: rest)))) : Go p e below G (T.setTop (mkF m pc Ls (.int x :: rest))) := Go.step (fun t q => XS.i2b X.here hx rfl (hb hby hd) rfl q) K
theorem g_i2s (X : Stand p l e R s m args below meth c T locs k n) (hx : p.tables.exec = Jvm.exec) (hby : c.code = code) {x : Int32} {rest : List Value} (hd : decode code pc = .ok (.i2s, 1)) (K : Go p e below G (T.setTop (mkF m (pc + 1) Ls (.int (x.toInt16.toInt32) :: rest)))) : Go p e below G (T.setTop (mkF m pc Ls (.int x :: rest))) := Go.step (fun t q => XS.i2s X.here hx rfl (hb hby hd) rfl q) K
theorem g_i2c (X : Stand p l e R s m args below meth c T locs k n) (hx : p.tables.exec = Jvm.exec) (hby : c.code = code) {x : Int32} {rest : List Value} (hd : decode code pc = .ok (.i2c, 1)) (K : Go p e below G (T.setTop (mkF m (pc + 1) Ls (.int (x.toUInt32.toUInt16.toUInt32.toInt32) :: rest)))) : Go p e below G (T.setTop (mkF m pc Ls (.int x :: rest))) := Go.step (fun t q => XS.i2c X.here hx rfl (hb hby hd) rfl q) K
theorem g_lcmp (X : Stand p l e R s m args below meth c T locs k n) (hx : p.tables.exec = Jvm.exec) (hby : c.code = code) {x y : Int64} {rest : List Value} (hd : decode code pc = .ok (.lcmp, 1)) (K : Go p e below G (T.setTop (mkF m (pc + 1) Ls (.int (lcmpW x y) :: rest)))) : Go p e below G (T.setTop (mkF m pc Ls (.long y :: .long x :: rest))) := Go.step (fun t q => XS.lcmp X.here hx rfl (hb hby hd) rfl q) K
theorem g_idiv (X : Stand p l e R s m args below meth c T locs k n) (hx : p.tables.exec = Jvm.exec) (hby : c.code = code) {x y : Int32} {rest : List Value} (hd : decode code pc = .ok (.idiv, 1)) (hy : y ≠ 0) (K : Go p e below G (T.setTop (mkF m (pc + 1) Ls (.int (x / y) :: rest)))) : Go p e below G (T.setTop (mkF m pc Ls (.int y :: .int x :: rest))) := Go.step (fun t q => XS.idiv X.here hx rfl (hb hby hd) rfl hy q) K
theorem g_irem (X : Stand p l e R s m args below meth c T locs k n) (hx : p.tables.exec = Jvm.exec) (hby : c.code = code) {x y : Int32} {rest : List Value} (hd : decode code pc = .ok (.irem, 1)) (hy : y ≠ 0) (K : Go p e below G (T.setTop (mkF m (pc + 1) Ls (.int (x % y) :: rest)))) : Go p e below G (T.setTop (mkF m pc Ls (.int y :: .int x :: rest))) := Go.step (fun t q => iremM X hx rfl (hb hby hd) rfl hy q) K
theorem g_iinc (X : Stand p l e R s m args below meth c T locs k n) (hx : p.tables.exec = Jvm.exec) (hby : c.code = code) {j : Nat} {cst : Int} {x : Int32} {l' : Array Slot} (v : Int32) (hd : decode code pc = .ok (.iinc j cst, 3)) (hl : Ls[j]? = some (.val (.int x))) (hv : x + Int32.ofInt cst = v) (hl' : storeLocals Ls j (.int v) = some l') (K : Go p e below G (T.setTop (mkF m (pc + 3) l' st))) : Go p e below G (T.setTop (mkF m pc Ls st)) := Go.step (fun t q => XS.iinc X.here hx rfl (hb hby hd) hl (by rw [hv]; exact hl') q) K
theorem g_dup (X : Stand p l e R s m args below meth c T locs k n) (hx : p.tables.exec = Jvm.exec) (hby : c.code = code) {x : Value} {rest : List Value} (hd : decode code pc = .ok (.dup, 1)) (hc : x.category = 1) (K : Go p e below G (T.setTop (mkF m (pc + 1) Ls (x :: x :: rest)))) : Go p e below G (T.setTop (mkF m pc Ls (x :: rest))) := Go.step (fun t q => XS.dup X.here hx rfl (hb hby hd) rfl hc q) K
theorem g_dup_x1 (X : Stand p l e R s m args below meth c T locs k n) (hx : p.tables.exec = Jvm.exec) (hby : c.code = code) {x y : Value} {rest : List Value} (hd : decode code pc = .ok (.dup_x1, 1)) (hc : x.category = 1) (hc2 : y.category = 1) (K : Go p e below G (T.setTop (mkF m (pc + 1) Ls (x :: y :: x :: rest)))) : Go p e below G (T.setTop (mkF m pc Ls (x :: y :: rest))) := Go.step (fun t q => XS.dupX1 X.here hx rfl (hb hby hd) rfl hc hc2 q) K
theorem g_pop (X : Stand p l e R s m args below meth c T locs k n) (hx : p.tables.exec = Jvm.exec) (hby : c.code = code) {x : Value} {rest : List Value} (hd : decode code pc = .ok (.pop, 1)) (hc : x.category = 1) (K : Go p e below G (T.setTop (mkF m (pc + 1) Ls rest))) : Go p e below G (T.setTop (mkF m pc Ls (x :: rest))) := Go.step (fun t q => XS.pop X.here hx rfl (hb hby hd) rfl hc q) K
theorem g_dup2 (X : Stand p l e R s m args below meth c T locs k n) (hx : p.tables.exec = Jvm.exec) (hby : c.code = code) {x y : Value} {rest : List Value} (hd : decode code pc = .ok (.dup2, 1)) (hc : x.category = 1) (hc2 : y.category = 1) (K : Go p e below G (T.setTop (mkF m (pc + 1) Ls (x :: y :: x :: y :: rest)))) : Go p e below G (T.setTop (mkF m pc Ls (x :: y :: rest))) := Go.step (fun t q => XT.dup2 X.here hx rfl (hb hby hd) rfl hc hc2 q) K
theorem g_dup2L (X : Stand p l e R s m args below meth c T locs k n) (hx : p.tables.exec = Jvm.exec) (hby : c.code = code) {x : Int64} {rest : List Value} (hd : decode code pc = .ok (.dup2, 1)) (K : Go p e below G (T.setTop (mkF m (pc + 1) Ls (.long x :: .long x :: rest)))) : Go p e below G (T.setTop (mkF m pc Ls (.long x :: rest))) := Go.step (fun t q => XT.dup2L X.here hx rfl (hb hby hd) rfl q) K
theorem g_pop2J (X : Stand p l e R s m args below meth c T locs k n) (hx : p.tables.exec = Jvm.exec) (hby : c.code = code) {x : Int64} {rest : List Value} (hd : decode code pc = .ok (.pop2, 1)) (K : Go p e below G (T.setTop (mkF m (pc + 1) Ls rest))) : Go p e below G (T.setTop (mkF m pc Ls (.long x :: rest))) := Go.step (fun t q => by
  have hd' := hb hby hd
  show Steps p.tables e below (T.setTop { method := m, pc := pc, locals := Ls, stack := .long x :: rest, locked := none }) t
  jvm_step X.here [X.here.top, hx, hd', Value.category]
  exact q) K
theorem g_goto (X : Stand p l e R s m args below meth c T locs k n) (hx : p.tables.exec = Jvm.exec) (hby : c.code = code) {d : Int} (pc' : Nat) (hd : decode code pc = .ok (.goto d, 3)) (ho : 0 ≤ (pc : Int) + d) (hp : ((pc : Int) + d).toNat = pc') (K : Go p e below G (T.setTop (mkF m pc' Ls st))) : Go p e below G (T.setTop (mkF m pc Ls st)) := Go.step (fun t q => XS.goto X.here hx rfl (pc0 := pc) (pc' := pc') rfl (hb hby hd) ho hp q) K
theorem g_ifY (X : Stand p l e R s m args below meth c T locs k n) (hx : p.tables.exec = Jvm.exec) (hby : c.code = code) {cd : ClassFile.Cond} {x : Int32} {rest : List Value} {d : Int} (pc' : Nat) (hd : decode code pc = .ok (.ifCond cd d, 3)) (hc : if_icmp.holds cd x 0 = true) (ho : 0 ≤ (pc : Int) + d) (hp : ((pc : Int) + d).toNat = pc') (K : Go p e below G (T.setTop (mkF m pc' Ls rest))) : Go p e below G (T.setTop (mkF m pc Ls (.int x :: rest))) := Go.step (fun t q => XS.ifYes X.here hx rfl (pc0 := pc) (pc' := pc') rfl (hb hby hd) rfl ((if0 _ _).trans hc) ho hp q) K
theorem g_ifN (X : Stand p l e R s m args below meth c T locs k n) (hx : p.tables.exec = Jvm.exec) (hby : c.code = code) {cd : ClassFile.Cond} {x : Int32} {rest : List Value} {d : Int} (hd : decode code pc = .ok (.ifCond cd d, 3)) (hc : if_icmp.holds cd x 0 = false) (K : Go p e below G (T.setTop (mkF m (pc + 3) Ls rest))) : Go p e below G (T.setTop (mkF m pc Ls (.int x :: rest))) := Go.step (fun t q => XS.ifNo X.here hx rfl (hb hby hd) rfl ((if0 _ _).trans hc) q) K
theorem g_icY (X : Stand p l e R s m args below meth c T locs k n) (hx : p.tables.exec = Jvm.exec) (hby : c.code = code) {cd : ClassFile.Cond} {x y : Int32} {rest : List Value} {d : Int} (pc' : Nat) (hd : decode code pc = .ok (.if_icmp cd d, 3)) (hc : if_icmp.holds cd x y = true) (ho : 0 ≤ (pc : Int) + d) (hp : ((pc : Int) + d).toNat = pc') (K : Go p e below G (T.setTop (mkF m pc' Ls rest))) : Go p e below G (T.setTop (mkF m pc Ls (.int y :: .int x :: rest))) := Go.step (fun t q => XS.icmpYes X.here hx rfl (pc0 := pc) (pc' := pc') rfl (hb hby hd) rfl hc ho hp q) K
theorem g_icN (X : Stand p l e R s m args below meth c T locs k n) (hx : p.tables.exec = Jvm.exec) (hby : c.code = code) {cd : ClassFile.Cond} {x y : Int32} {rest : List Value} {d : Int} (hd : decode code pc = .ok (.if_icmp cd d, 3)) (hc : if_icmp.holds cd x y = false) (K : Go p e below G (T.setTop (mkF m (pc + 3) Ls rest))) : Go p e below G (T.setTop (mkF m pc Ls (.int y :: .int x :: rest))) := Go.step (fun t q => XS.icmpNo X.here hx rfl (hb hby hd) rfl hc q) K
theorem g_acmp (X : Stand p l e R s m args below meth c T locs k n) (hx : p.tables.exec = Jvm.exec) (hby : c.code = code) {cd : ACond} {x y : Value} (h1 : x.isRef = true) (h2 : y.isRef = true) {rest : List Value} {d : Int} (pc' : Nat) (same : Bool) (hd : decode code pc = .ok (.if_acmp cd d, 3)) (hq : decide (x = y) = same) (ho : 0 ≤ (pc : Int) + d) (hp : pc' = if acV cd same = true then ((pc : Int) + d).toNat else pc + 3) (K : Go p e below G (T.setTop (mkF m pc' Ls rest))) : Go p e below G (T.setTop (mkF m pc Ls (y :: x :: rest))) := Go.step (fun t q => Jvm.RoadKit.acmp (g := mkF m pc Ls (y :: x :: rest)) X hx rfl h1 h2 (pc0 := pc) (pc' := pc') (same := same) rfl (hb hby hd) rfl hq ho hp q) K
theorem g_ifnullY (X : Stand p l e R s m args below meth c T locs k n) (hx : p.tables.exec = Jvm.exec) (hby : c.code = code) {rest : List Value} {d : Int} (pc' : Nat) (hd : decode code pc = .ok (.ifnull d, 3)) (ho : 0 ≤ (pc : Int) + d) (hp : ((pc : Int) + d).toNat = pc') (K : Go p e below G (T.setTop (mkF m pc' Ls rest))) : Go p e below G (T.setTop (mkF m pc Ls (.null :: rest))) := Go.step (fun t q => XS.ifnullYes X.here hx rfl (pc0 := pc) (pc' := pc') rfl (hb hby hd) rfl ho hp q) K
theorem g_ifnullN (X : Stand p l e R s m args below meth c T locs k n) (hx : p.tables.exec = Jvm.exec) (hby : c.code = code) {b : Addr} {rest : List Value} {d : Int} (hd : decode code pc = .ok (.ifnull d, 3)) (K : Go p e below G (T.setTop (mkF m (pc + 3) Ls rest))) : Go p e below G (T.setTop (mkF m pc Ls (.ref b :: rest))) := Go.step (fun t q => XS.ifnullNo X.here hx rfl (hb hby hd) rfl q) K
theorem g_ifnonnullY (X : Stand p l e R s m args below meth c T locs k n) (hx : p.tables.exec = Jvm.exec) (hby : c.code = code) {b : Addr} {rest : List Value} {d : Int} (pc' : Nat) (hd : decode code pc = .ok (.ifnonnull d, 3)) (ho : 0 ≤ (pc : Int) + d) (hp : ((pc : Int) + d).toNat = pc') (K : Go p e below G (T.setTop (mkF m pc' Ls rest))) : Go p e below G (T.setTop (mkF m pc Ls (.ref b :: rest))) := Go.step (fun t q => XS.ifnonnullYes X.here hx rfl (pc0 := pc) (pc' := pc') rfl (hb hby hd) rfl ho hp q) K
theorem g_ifnonnullN (X : Stand p l e R s m args below meth c T locs k n) (hx : p.tables.exec = Jvm.exec) (hby : c.code = code) {rest : List Value} {d : Int} (hd : decode code pc = .ok (.ifnonnull d, 3)) (K : Go p e below G (T.setTop (mkF m (pc + 3) Ls rest))) : Go p e below G (T.setTop (mkF m pc Ls (.null :: rest))) := Go.step (fun t q => XS.ifnonnullNo X.here hx rfl (hb hby hd) rfl q) K
theorem g_ldcI (X : Stand p l e R s m args below meth c T locs k n) (hx : p.tables.exec = Jvm.exec) (hby : c.code = code) (hZ : Z.Warmed39 s.vm) {own : String} (hown : s.vm.findClass own = some m.cls) {index : Nat} {v : Int32} (w : (Cond.constant own index v).before a0 Z = true) (hd : decode code pc = .ok (.ldc index, 2)) (K : Go p e below G (T.setTop (mkF m (pc + 2) Ls (.int v :: st)))) : Go p e below G (T.setTop (mkF m pc Ls st)) := Go.step (fun t q => X.ldcInt hx hown (mvT hZ w) (g := mkF m pc Ls st) rfl (hb hby hd) t q) K
theorem g_ldcwI (X : Stand p l e R s m args below meth c T locs k n) (hx : p.tables.exec = Jvm.exec) (hby : c.code = code) (hZ : Z.Warmed39 s.vm) {own : String} (hown : s.vm.findClass own = some m.cls) {index : Nat} {v : Int32} (w : (Cond.constant own index v).before a0 Z = true) (hd : decode code pc = .ok (.ldc_w index, 3)) (K : Go p e below G (T.setTop (mkF m (pc + 3) Ls (.int v :: st)))) : Go p e below G (T.setTop (mkF m pc Ls st)) := Go.step (fun t q => X.ldcwInt hx hown (mvT hZ w) (g := mkF m pc Ls st) rfl (hb hby hd) t q) K
theorem g_ldc2J (X : Stand p l e R s m args below meth c T locs k n) (hx : p.tables.exec = Jvm.exec) (hby : c.code = code) (hZ : Z.Warmed39 s.vm) {own : String} (hown : s.vm.findClass own = some m.cls) {index : Nat} {v : Int64} (w : (Cond.constantLong own index v).before a0 Z = true) (hd : decode code pc = .ok (.ldc2_w index, 3)) (K : Go p e below G (T.setTop (mkF m (pc + 3) Ls (.long v :: st)))) : Go p e below G (T.setTop (mkF m pc Ls st)) := Go.step (fun t q => X.ldc2Long hx hown (mvT hZ w) (g := mkF m pc Ls st) rfl (hb hby hd) t q) K
theorem g_getF (X : Stand p l e R s m args below meth c T locs k n) (hx : p.tables.exec = Jvm.exec) (hby : c.code = code) (hZ : Z.Warmed39 s.vm) {own : String} (hown : s.vm.findClass own = some m.cls) {R0 O f d host : String} {index : Nat} (w : (Cond.fieldLink own index R0 f d).before a0 Z = true ∨ (Cond.fieldLinkNest own index R0 f d host).before a0 Z = true) (via : Via Z R0 O f d) (eT : T.heap = h) {a : Addr} {v : Value} (F : Fld Z h a O f d v) {rest : List Value} (hd : decode code pc = .ok (.getfield index, 3)) (K : ∀ T', Stand p l e R s m args below meth c T' locs k n → T'.heap = h → Go p e below G (T'.setTop (mkF m (pc + 3) Ls (v :: rest)))) : Go p e below G (T.setTop (mkF m pc Ls (.ref a :: rest))) := by
  obtain ⟨T', X', e', q⟩ := getF X hx hZ hown w via eT F (g := mkF m pc Ls (.ref a :: rest)) rfl rfl (hb hby hd)
  exact Go.step q (K T' X' e')
theorem g_getS (X : Stand p l e R s m args below meth c T locs k n) (hx : p.tables.exec = Jvm.exec) (hby : c.code = code) (hZ : Z.Warmed39 s.vm) {own : String} (hown : s.vm.findClass own = some m.cls) {R0 O f d host : String} {index : Nat} (w : (Cond.fieldLink own index R0 f d).before a0 Z = true ∨ (Cond.fieldLinkNest own index R0 f d host).before a0 Z = true) (via : Via Z R0 O f d) (eT : T.heap = h) {v : Value} (F : Sta Z h O f d v) (hd : decode code pc = .ok (.getstatic index, 3)) (K : ∀ T', Stand p l e R s m args below meth c T' locs k n → T'.heap = h → Go p e below G (T'.setTop (mkF m (pc + 3) Ls (v :: st)))) : Go p e below G (T.setTop (mkF m pc Ls st)) := by
  obtain ⟨T', X', e', q⟩ := getS2 X hx hZ hown w via eT F (g := mkF m pc Ls st) rfl (hb hby hd)
  exact Go.step q (K T' X' e')
theorem g_putF (X : Stand p l e R s m args below meth c T locs k n) (hx : p.tables.exec = Jvm.exec) (hby : c.code = code) (hZ : Z.Warmed39 s.vm) {own : String} (hown : s.vm.findClass own = some m.cls) {R0 O f d host : String} {index : Nat} (w : (Cond.fieldLink own index R0 f d).before a0 Z = true ∨ (Cond.fieldLinkNest own index R0 f d host).before a0 Z = true) (via : Via Z R0 O f d) (eT : T.heap = h) {C : String} {kk : Nat} {a : Addr} {v old : Value} (F : Fld Z h a O f d old) (E : Exa Z h a C) (L : (Cond.lays C O f d).before a0 Z = true ∨ ((Cond.laysFinal C O f d).before a0 Z = true ∧ own = O ∧ meth.name = "<init>")) (wi : (Cond.instantiable C kk).before a0 Z = true) (ty : FieldType) (hty : parseFieldDescriptor d = some ty) (hn : narrow ty v = v) (hf : fits ty v = true) (N : Fr n0 locs) (ga : n0 ≤ a) {rest : List Value} (hd : decode code pc = .ok (.putfield index, 3)) (K : ∀ T' h', Stand p l e R s m args below meth c T' (locs ++ [⟨a, Jvm.RoadKit.slotOf Z O f d⟩]) k n → T'.heap = h' → Wr h h' a (Jvm.RoadKit.slotOf Z O f d) v → Fld Z h' a O f d v → Fr n0 (locs ++ [⟨a, Jvm.RoadKit.slotOf Z O f d⟩]) → Go p e below G (T'.setTop (mkF m (pc + 3) Ls rest))) : Go p e below G (T.setTop (mkF m pc Ls (v :: .ref a :: rest))) := by
  obtain ⟨T', h', X', e', W, q⟩ := putF X hx hZ hown w via eT F E L wi hty hn hf (g := mkF m pc Ls (v :: .ref a :: rest)) rfl rfl (hb hby hd)
  exact Go.step q (K T' h' X' e' W (F.same W) (Fr.snoc X' N ga))
theorem g_putFN (X : Stand p l e R s m args below meth c T locs k n) (hx : p.tables.exec = Jvm.exec) (hby : c.code = code) (hZ : Z.Warmed39 s.vm) {own : String} (hown : s.vm.findClass own = some m.cls) {R0 O f d : String} {index : Nat} (w : (Cond.fieldLink own index R0 f d).before a0 Z = true) (via : Via Z R0 O f d) (eT : T.heap = h) {C : String} {kk : Nat} {a : Addr} {v old : Value} (F : Fld Z h a O f d old) (E : Exa Z h a C) (L : (Cond.lays C O f d).before a0 Z = true ∨ ((Cond.laysFinal C O f d).before a0 Z = true ∧ own = O ∧ meth.name = "<init>")) (wi : (Cond.instantiable C kk).before a0 Z = true) (ty : FieldType) (hty : parseFieldDescriptor d = some ty) (v' : Value) (hn : narrow ty v = v') (hf : fits ty v' = true) (N : Fr n0 locs) (ga : n0 ≤ a) {rest : List Value} (hd : decode code pc = .ok (.putfield index, 3)) (K : ∀ T' h', Stand p l e R s m args below meth c T' (locs ++ [⟨a, Jvm.RoadKit.slotOf Z O f d⟩]) k n → T'.heap = h' → Wr h h' a (Jvm.RoadKit.slotOf Z O f d) v' → Fld Z h' a O f d v' → Fr n0 (locs ++ [⟨a, Jvm.RoadKit.slotOf Z O f d⟩]) → Go p e below G (T'.setTop (mkF m (pc + 3) Ls rest))) : Go p e below G (T.setTop (mkF m pc Ls (v :: .ref a :: rest))) := by
  obtain ⟨T', h', X', e', W, q⟩ := putFN X hx hZ hown w via eT F E L wi hty hn hf (g := mkF m pc Ls (v :: .ref a :: rest)) rfl rfl (hb hby hd)
  exact Go.step q (K T' h' X' e' W (F.same W) (Fr.snoc X' N ga))
theorem g_new (X : Stand p l e R s m args below meth c T locs k n) (hx : p.tables.exec = Jvm.exec) (hby : c.code = code) (hZ : Z.Warmed39 s.vm) {own : String} (hown : s.vm.findClass own = some m.cls) {C : String} {index j : Nat} (w : (Cond.classLink own index C).before a0 Z = true) (wi : (Cond.instantiable C j).before a0 Z = true) (wz : (Cond.initialized C).before a0 Z = true) (eT : T.heap = h) (hc : k + 1 ≤ R.cells) (hl : n + j ≤ R.slots) (hd : decode code pc = .ok (.new index, 3)) (K : ∀ T' h' x, h.size = x → Stand p l e R s m args below meth c T' locs (k + 1) (n + j) → T'.heap = h' → Ext h h' → Exa Z h' x C → (∀ {O nm d : String} {ty : FieldType}, Laid Z a0 C O nm d → parseFieldDescriptor d = some ty → Fld Z h' x O nm d (defaultValue ty)) → Go p e below G (T'.setTop (mkF m (pc + 3) Ls (.ref x :: st)))) : Go p e below G (T.setTop (mkF m pc Ls st)) := by
  obtain ⟨T', h', X', e', E, A, D, -, q⟩ := newO X hx hZ hown w wi wz eT (g := mkF m pc Ls st) rfl (hb hby hd) hc hl
  exact Go.step q (K T' h' _ rfl X' e' E A D)
theorem g_newarray (X : Stand p l e R s m args below meth c T locs k n) (hx : p.tables.exec = Jvm.exec) (hby : c.code = code) (hZ : Z.Warmed39 s.vm) (aty : ArrayType) (ty : FieldType) (dv : Value) (vs : List Value) (hty : newarray.typeOf aty = ty) (hdv : defaultValue ty = dv) (w : (Cond.arrayClass ty).before a0 Z = true) (eT : T.heap = h) {z : Int32} {rest : List Value} (hn : ¬ z < 0) (cap : Nat) (hvs : List.replicate cap dv = vs) (hcap : z.toNatClampNeg ≤ cap) (hbig : cap * 8 ≤ 536870912) (hc : k + 1 ≤ R.cells) (hl : n + cap ≤ R.slots) (hd : decode code pc = .ok (.newarray aty, 2)) (K : ∀ T' h' kc x, h.size = x → Stand p l e R s m args below meth c T' locs (k + 1) (n + cap) → T'.heap = h' → Ext h h' → Arv Z h' x kc ty z vs dv → Go p e below G (T'.setTop (mkF m (pc + 2) Ls (.ref x :: rest)))) : Go p e below G (T.setTop (mkF m pc Ls (.int z :: rest))) := by
  subst hty hdv hvs
  obtain ⟨T', h', kc, X', e', E, A, q⟩ := newP X hx hZ w eT (g := mkF m pc Ls (.int z :: rest)) rfl (hb hby hd) rfl hn (cap := cap) hcap hbig hc hl
  exact Go.step q (K T' h' kc _ rfl X' e' E ((Arv.new A hn).pad (pad_rep [] _ cap)))
theorem g_iastore (X : Stand p l e R s m args below meth c T locs k n) (hx : p.tables.exec = Jvm.exec) (hby : c.code = code) (hZ : Z.Warmed39 s.vm) (eT : T.heap = h) {a : Addr} {kc : ClassId} {z : Int32} {vs : List Value} {dv : Value} (V : Arv Z h a kc .int z vs dv) {j : Int32} {x : Int32} (i : Nat) (vs' : List Value) (hvs : vs.set i (.int x) = vs') (hj : ¬ j < 0 ∧ j < z) (hi : j.toNatClampNeg = i) (hlen : i < vs.length) (N : Fr n0 locs) (ga : n0 ≤ a) {rest : List Value} (hd : decode code pc = .ok (.iastore, 1)) (K : ∀ T' h', Stand p l e R s m args below meth c T' (locs ++ [⟨a, j.toNatClampNeg⟩]) k n → T'.heap = h' → Wr h h' a j.toNatClampNeg (.int x) → Arv Z h' a kc .int z vs' dv → Fr n0 (locs ++ [⟨a, j.toNatClampNeg⟩]) → Go p e below G (T'.setTop (mkF m (pc + 1) Ls rest))) : Go p e below G (T.setTop (mkF m pc Ls (.int x :: .int j :: .ref a :: rest))) := by
  subst hvs
  obtain ⟨cl, Ar, q1, S, M, H, F⟩ := V
  obtain ⟨T', h', X', e', W, q⟩ := stI X hx hZ eT Ar (j := j) (inb_of S hj) (g := mkF m pc Ls (.int x :: .int j :: .ref a :: rest)) rfl rfl (hb hby hd)
  exact Go.step q (K T' h' X' e' W (Arv.set Ar q1 S M H F rfl W i hi hlen) (Fr.snoc X' N ga))
theorem g_castore (X : Stand p l e R s m args below meth c T locs k n) (hx : p.tables.exec = Jvm.exec) (hby : c.code = code) (hZ : Z.Warmed39 s.vm) (eT : T.heap = h) {a : Addr} {kc : ClassId} {z : Int32} {vs : List Value} {dv : Value} (V : Arv Z h a kc .char z vs dv) {j : Int32} {x : Int32} (i : Nat) (vs' : List Value) (hvs : vs.set i (.int (nar .char x)) = vs') (hj : ¬ j < 0 ∧ j < z) (hi : j.toNatClampNeg = i) (hlen : i < vs.length) (N : Fr n0 locs) (ga : n0 ≤ a) {rest : List Value} (hd : decode code pc = .ok (.castore, 1)) (K : ∀ T' h', Stand p l e R s m args below meth c T' (locs ++ [⟨a, j.toNatClampNeg⟩]) k n → T'.heap = h' → Wr h h' a j.toNatClampNeg (.int (nar .char x)) → Arv Z h' a kc .char z vs' dv → Fr n0 (locs ++ [⟨a, j.toNatClampNeg⟩]) → Go p e below G (T'.setTop (mkF m (pc + 1) Ls rest))) : Go p e below G (T.setTop (mkF m pc Ls (.int x :: .int j :: .ref a :: rest))) := by
  subst hvs
  obtain ⟨cl, Ar, q1, S, M, H, F⟩ := V
  obtain ⟨T', h', X', e', W, q⟩ := stC X hx hZ eT Ar (j := j) (inb_of S hj) (g := mkF m pc Ls (.int x :: .int j :: .ref a :: rest)) rfl rfl (hb hby hd)
  exact Go.step q (K T' h' X' e' W (Arv.set Ar q1 S M H F (fits_nar_char _) W i hi hlen) (Fr.snoc X' N ga))
theorem g_sastore (X : Stand p l e R s m args below meth c T locs k n) (hx : p.tables.exec = Jvm.exec) (hby : c.code = code) (hZ : Z.Warmed39 s.vm) (eT : T.heap = h) {a : Addr} {kc : ClassId} {z : Int32} {vs : List Value} {dv : Value} (V : Arv Z h a kc .short z vs dv) {j : Int32} {x : Int32} (i : Nat) (vs' : List Value) (hvs : vs.set i (.int (nar .short x)) = vs') (hj : ¬ j < 0 ∧ j < z) (hi : j.toNatClampNeg = i) (hlen : i < vs.length) (N : Fr n0 locs) (ga : n0 ≤ a) {rest : List Value} (hd : decode code pc = .ok (.sastore, 1)) (K : ∀ T' h', Stand p l e R s m args below meth c T' (locs ++ [⟨a, j.toNatClampNeg⟩]) k n → T'.heap = h' → Wr h h' a j.toNatClampNeg (.int (nar .short x)) → Arv Z h' a kc .short z vs' dv → Fr n0 (locs ++ [⟨a, j.toNatClampNeg⟩]) → Go p e below G (T'.setTop (mkF m (pc + 1) Ls rest))) : Go p e below G (T.setTop (mkF m pc Ls (.int x :: .int j :: .ref a :: rest))) := by
  subst hvs
  obtain ⟨cl, Ar, q1, S, M, H, F⟩ := V
  obtain ⟨T', h', X', e', W, q⟩ := stS X hx hZ eT Ar (j := j) (inb_of S hj) (g := mkF m pc Ls (.int x :: .int j :: .ref a :: rest)) rfl rfl (hb hby hd)
  exact Go.step q (K T' h' X' e' W (Arv.set Ar q1 S M H F (fits_nar_short _) W i hi hlen) (Fr.snoc X' N ga))
theorem g_bastore (X : Stand p l e R s m args below meth c T locs k n) (hx : p.tables.exec = Jvm.exec) (hby : c.code = code) (hZ : Z.Warmed39 s.vm) (eT : T.heap = h) {a : Addr} {kc : ClassId} {z : Int32} {vs : List Value} {dv : Value} (V : Arv Z h a kc .byte z vs dv) {j : Int32} {x : Int32} (i : Nat) (vs' : List Value) (hvs : vs.set i (.int (nar .byte x)) = vs') (hj : ¬ j < 0 ∧ j < z) (hi : j.toNatClampNeg = i) (hlen : i < vs.length) (N : Fr n0 locs) (ga : n0 ≤ a) {rest : List Value} (hd : decode code pc = .ok (.bastore, 1)) (K : ∀ T' h', Stand p l e R s m args below meth c T' (locs ++ [⟨a, j.toNatClampNeg⟩]) k n → T'.heap = h' → Wr h h' a j.toNatClampNeg (.int (nar .byte x)) → Arv Z h' a kc .byte z vs' dv → Fr n0 (locs ++ [⟨a, j.toNatClampNeg⟩]) → Go p e below G (T'.setTop (mkF m (pc + 1) Ls rest))) : Go p e below G (T.setTop (mkF m pc Ls (.int x :: .int j :: .ref a :: rest))) := by
  subst hvs
  obtain ⟨cl, Ar, q1, S, M, H, F⟩ := V
  obtain ⟨T', h', X', e', W, q⟩ := stB X hx hZ eT Ar (j := j) (inb_of S hj) (g := mkF m pc Ls (.int x :: .int j :: .ref a :: rest)) rfl rfl (hb hby hd)
  exact Go.step q (K T' h' X' e' W (Arv.set Ar q1 S M H F (fits_nar_byte _) W i hi hlen) (Fr.snoc X' N ga))
theorem g_lastore (X : Stand p l e R s m args below meth c T locs k n) (hx : p.tables.exec = Jvm.exec) (hby : c.code = code) (hZ : Z.Warmed39 s.vm) (eT : T.heap = h) {a : Addr} {kc : ClassId} {z : Int32} {vs : List Value} {dv : Value} (V : Arv Z h a kc .long z vs dv) {j : Int32} {x : Int64} (i : Nat) (vs' : List Value) (hvs : vs.set i (.long x) = vs') (hj : ¬ j < 0 ∧ j < z) (hi : j.toNatClampNeg = i) (hlen : i < vs.length) (N : Fr n0 locs) (ga : n0 ≤ a) {rest : List Value} (hd : decode code pc = .ok (.lastore, 1)) (K : ∀ T' h', Stand p l e R s m args below meth c T' (locs ++ [⟨a, j.toNatClampNeg⟩]) k n → T'.heap = h' → Wr h h' a j.toNatClampNeg (.long x) → Arv Z h' a kc .long z vs' dv → Fr n0 (locs ++ [⟨a, j.toNatClampNeg⟩]) → Go p e below G (T'.setTop (mkF m (pc + 1) Ls rest))) : Go p e below G (T.setTop (mkF m pc Ls (.long x :: .int j :: .ref a :: rest))) := by
  subst hvs
  obtain ⟨cl, Ar, q1, S, M, H, F⟩ := V
  obtain ⟨T', h', X', e', W, q⟩ := stJ X hx hZ eT Ar (j := j) (inb_of S hj) (g := mkF m pc Ls (.long x :: .int j :: .ref a :: rest)) rfl rfl (hb hby hd)
  exact Go.step q (K T' h' X' e' W (Arv.set Ar q1 S M H F rfl W i hi hlen) (Fr.snoc X' N ga))
theorem g_iaload (X : Stand p l e R s m args below meth c T locs k n) (hx : p.tables.exec = Jvm.exec) (hby : c.code = code) (hZ : Z.Warmed39 s.vm) (eT : T.heap = h) {a : Addr} {kc : ClassId} {z : Int32} {vs : List Value} {dv : Value} (V : Arv Z h a kc .int z vs dv) {j : Int32} (v : Value) (hj : ¬ j < 0 ∧ j < z) (hv : vs.getD j.toNatClampNeg dv = v) {rest : List Value} (hd : decode code pc = .ok (.iaload, 1)) (K : Go p e below G (T.setTop (mkF m (pc + 1) Ls (v :: rest)))) : Go p e below G (T.setTop (mkF m pc Ls (.int j :: .ref a :: rest))) := by
  obtain ⟨cl, Ar, q1, S, M, H, F⟩ := V
  have hin := inb_of S hj
  exact Go.step (fun t q => X.iaload hx (j := j) (v := v) (by rw [eT]; exact Ar.1) (State.isArrayOf_alike hZ.alike Ar.2.1) Ar.2.2 hin (H.at hin hv) (g := mkF m pc Ls (.int j :: .ref a :: rest)) rfl rfl (hb hby hd) t q) K
theorem g_caload (X : Stand p l e R s m args below meth c T locs k n) (hx : p.tables.exec = Jvm.exec) (hby : c.code = code) (hZ : Z.Warmed39 s.vm) (eT : T.heap = h) {a : Addr} {kc : ClassId} {z : Int32} {vs : List Value} {dv : Value} (V : Arv Z h a kc .char z vs dv) {j : Int32} (v : Value) (hj : ¬ j < 0 ∧ j < z) (hv : vs.getD j.toNatClampNeg dv = v) {rest : List Value} (hd : decode code pc = .ok (.caload, 1)) (K : Go p e below G (T.setTop (mkF m (pc + 1) Ls (v :: rest)))) : Go p e below G (T.setTop (mkF m pc Ls (.int j :: .ref a :: rest))) := by
  obtain ⟨cl, Ar, q1, S, M, H, F⟩ := V
  have hin := inb_of S hj
  exact Go.step (fun t q => X.caload hx (j := j) (v := v) (by rw [eT]; exact Ar.1) (State.isArrayOf_alike hZ.alike Ar.2.1) Ar.2.2 hin (H.at hin hv) (g := mkF m pc Ls (.int j :: .ref a :: rest)) rfl rfl (hb hby hd) t q) K
theorem g_saload (X : Stand p l e R s m args below meth c T locs k n) (hx : p.tables.exec = Jvm.exec) (hby : c.code = code) (hZ : Z.Warmed39 s.vm) (eT : T.heap = h) {a : Addr} {kc : ClassId} {z : Int32} {vs : List Value} {dv : Value} (V : Arv Z h a kc .short z vs dv) {j : Int32} (v : Value) (hj : ¬ j < 0 ∧ j < z) (hv : vs.getD j.toNatClampNeg dv = v) {rest : List Value} (hd : decode code pc = .ok (.saload, 1)) (K : Go p e below G (T.setTop (mkF m (pc + 1) Ls (v :: rest)))) : Go p e below G (T.setTop (mkF m pc Ls (.int j :: .ref a :: rest))) := by
  obtain ⟨cl, Ar, q1, S, M, H, F⟩ := V
  have hin := inb_of S hj
  exact Go.step (fun t q => X.saload hx (j := j) (v := v) (by rw [eT]; exact Ar.1) (State.isArrayOf_alike hZ.alike Ar.2.1) Ar.2.2 hin (H.at hin hv) (g := mkF m pc Ls (.int j :: .ref a :: rest)) rfl rfl (hb hby hd) t q) K
theorem g_baload (X : Stand p l e R s m args below meth c T locs k n) (hx : p.tables.exec = Jvm.exec) (hby : c.code = code) (hZ : Z.Warmed39 s.vm) (eT : T.heap = h) {a : Addr} {kc : ClassId} {z : Int32} {vs : List Value} {dv : Value} (V : Arv Z h a kc .byte z vs dv) {j : Int32} (v : Value) (hj : ¬ j < 0 ∧ j < z) (hv : vs.getD j.toNatClampNeg dv = v) {rest : List Value} (hd : decode code pc = .ok (.baload, 1)) (K : Go p e below G (T.setTop (mkF m (pc + 1) Ls (v :: rest)))) : Go p e below G (T.setTop (mkF m pc Ls (.int j :: .ref a :: rest))) := by
  obtain ⟨cl, Ar, q1, S, M, H, F⟩ := V
  have hin := inb_of S hj
  exact Go.step (fun t q => X.baloadBytes hx (j := j) (v := v) (by rw [eT]; exact Ar.1) (State.isArrayOf_alike hZ.alike Ar.2.1) Ar.2.2 hin (H.at hin hv) (g := mkF m pc Ls (.int j :: .ref a :: rest)) rfl rfl (hb hby hd) t q) K
theorem g_laload (X : Stand p l e R s m args below meth c T locs k n) (hx : p.tables.exec = Jvm.exec) (hby : c.code = code) (hZ : Z.Warmed39 s.vm) (eT : T.heap = h) {a : Addr} {kc : ClassId} {z : Int32} {vs : List Value} {dv : Value} (V : Arv Z h a kc .long z vs dv) {j : Int32} (v : Value) (hj : ¬ j < 0 ∧ j < z) (hv : vs.getD j.toNatClampNeg dv = v) {rest : List Value} (hd : decode code pc = .ok (.laload, 1)) (K : Go p e below G (T.setTop (mkF m (pc + 1) Ls (v :: rest)))) : Go p e below G (T.setTop (mkF m pc Ls (.int j :: .ref a :: rest))) := by
  obtain ⟨cl, Ar, q1, S, M, H, F⟩ := V
  have hin := inb_of S hj
  exact Go.step (fun t q => X.laload hx (j := j) (v := v) (by rw [eT]; exact Ar.1) (State.isArrayOf_alike hZ.alike Ar.2.1) Ar.2.2 hin (H.at hin hv) (g := mkF m pc Ls (.int j :: .ref a :: rest)) rfl rfl (hb hby hd) t q) K
theorem g_aaload (X : Stand p l e R s m args below meth c T locs k n) (hx : p.tables.exec = Jvm.exec) (hby : c.code = code) (hZ : Z.Warmed39 s.vm) (eT : T.heap = h) {a : Addr} {kc : ClassId} {ty : FieldType} {z : Int32} {vs : List Value} {dv : Value} (V : Arv Z h a kc ty z vs dv) (hty : ty.isReference = true) {j : Int32} (v : Value) (hj : ¬ j < 0 ∧ j < z) (hv : vs.getD j.toNatClampNeg dv = v) {rest : List Value} (hd : decode code pc = .ok (.aaload, 1)) (K : Go p e below G (T.setTop (mkF m (pc + 1) Ls (v :: rest)))) : Go p e below G (T.setTop (mkF m pc Ls (.int j :: .ref a :: rest))) := by
  obtain ⟨cl, Ar, q1, S, M, H, F⟩ := V
  have hin := inb_of S hj
  exact Go.step (fun t q => X.aaload hx (j := j) (v := v) (by rw [eT]; exact Ar.1) (State.isArrayOf_alike hZ.alike Ar.2.1) hty Ar.2.2 hin (H.at hin hv) (g := mkF m pc Ls (.int j :: .ref a :: rest)) rfl rfl (hb hby hd) t q) K
theorem g_arraylength (X : Stand p l e R s m args below meth c T locs k n) (hx : p.tables.exec = Jvm.exec) (hby : c.code = code) (hZ : Z.Warmed39 s.vm) (eT : T.heap = h) {a : Addr} {kc : ClassId} {ty : FieldType} {z : Int32} {vs : List Value} {dv : Value} (V : Arv Z h a kc ty z vs dv) {rest : List Value} (hd : decode code pc = .ok (.arraylength, 1)) (K : Go p e below G (T.setTop (mkF m (pc + 1) Ls (.int z :: rest)))) : Go p e below G (T.setTop (mkF m pc Ls (.ref a :: rest))) := by
  obtain ⟨cl, Ar, q1, S, M, H, F⟩ := V
  refine Go.step (fun t q => X.arraylength hx (by rw [eT]; exact Ar.1) (State.isArrayOf_alike hZ.alike Ar.2.1) (g := mkF m pc Ls (.ref a :: rest)) rfl rfl (hb hby hd) t q) ?_
  rw [len_of S M]
  exact K
theorem g_checkcast (X : Stand p l e R s m args below meth c T locs k n) (hx : p.tables.exec = Jvm.exec) (hby : c.code = code) (hZ : Z.Warmed39 s.vm) {own : String} (hown : s.vm.findClass own = some m.cls) {C : String} {index : Nat} (w : (Cond.classLink own index C).before a0 Z = true) (eT : T.heap = h) {a : Addr} (I : Ins Z h a C true) {rest : List Value} (hd : decode code pc = .ok (.checkcast index, 3)) (K : ∀ T', Stand p l e R s m args below meth c T' locs k n → T'.heap = h → Go p e below G (T'.setTop (mkF m (pc + 3) Ls (.ref a :: rest)))) : Go p e below G (T.setTop (mkF m pc Ls (.ref a :: rest))) := by
  obtain ⟨T', X', e', q⟩ := castY X hx hZ hown w eT I (g := mkF m pc Ls (.ref a :: rest)) rfl rfl (hb hby hd)
  exact Go.step q (K T' X' e')
theorem g_instanceof (X : Stand p l e R s m args below meth c T locs k n) (hx : p.tables.exec = Jvm.exec) (hby : c.code = code) (hZ : Z.Warmed39 s.vm) {own : String} (hown : s.vm.findClass own = some m.cls) {C : String} {index : Nat} (w : (Cond.classLink own index C).before a0 Z = true) (eT : T.heap = h) {a : Addr} (I : Ins Z h a C true) {rest : List Value} (hd : decode code pc = .ok (.instanceof index, 3)) (K : ∀ T', Stand p l e R s m args below meth c T' locs k n → T'.heap = h → Go p e below G (T'.setTop (mkF m (pc + 3) Ls (.int 1 :: rest)))) : Go p e below G (T.setTop (mkF m pc Ls (.ref a :: rest))) := by
  obtain ⟨T', X', e', q⟩ := instY X hx hZ hown w eT I (g := mkF m pc Ls (.ref a :: rest)) rfl rfl (hb hby hd)
  exact Go.step q (K T' X' e')
theorem g_instNo (X : Stand p l e R s m args below meth c T locs k n) (hx : p.tables.exec = Jvm.exec) (hby : c.code = code) (hZ : Z.Warmed39 s.vm) {own : String} (hown : s.vm.findClass own = some m.cls) {C K : String} {index : Nat} (w : (Cond.classLink own index K).before a0 Z = true) (eT : T.heap = h) {a : Addr} (E : Exa Z h a C) (F : ∃ c t, Z.vm.findClass C = some c ∧ Z.vm.findClass K = some t ∧ Z.vm.assignable c t = false) {rest : List Value} (hd : decode code pc = .ok (.instanceof index, 3)) (K' : ∀ T', Stand p l e R s m args below meth c T' locs k n → T'.heap = h → Go p e below G (T'.setTop (mkF m (pc + 3) Ls (.int 0 :: rest)))) : Go p e below G (T.setTop (mkF m pc Ls (.ref a :: rest))) := by
  obtain ⟨T', X', e', q⟩ := instNo X hx hZ hown w eT E F (g := mkF m pc Ls (.ref a :: rest)) rfl rfl (hb hby hd)
  exact Go.step q (K' T' X' e')
theorem g_instanceofNull (X : Stand p l e R s m args below meth c T locs k n) (hx : p.tables.exec = Jvm.exec) (hby : c.code = code) {index : Nat} {rest : List Value} (hd : decode code pc = .ok (.instanceof index, 3)) (K : Go p e below G (T.setTop (mkF m (pc + 3) Ls (.int 0 :: rest)))) : Go p e below G (T.setTop (mkF m pc Ls (.null :: rest))) := Go.step (fun t q => X.instanceofNull hx (g := mkF m pc Ls (.null :: rest)) rfl rfl (hb hby hd) t q) K
theorem g_checkcastNull (X : Stand p l e R s m args below meth c T locs k n) (hx : p.tables.exec = Jvm.exec) (hby : c.code = code) {index : Nat} {rest : List Value} (hd : decode code pc = .ok (.checkcast index, 3)) (K : Go p e below G (T.setTop (mkF m (pc + 3) Ls (.null :: rest)))) : Go p e below G (T.setTop (mkF m pc Ls (.null :: rest))) := Go.step (fun t q => X.checkcastNull hx (g := mkF m pc Ls (.null :: rest)) rfl rfl (hb hby hd) t q) K
theorem g_initO (X : Stand p l e R s m args below meth c T locs k n) (hx : p.tables.exec = Jvm.exec) (hby : c.code = code) (hZ : Z.Warmed39 s.vm) {own : String} (hown : s.vm.findClass own = some m.cls) {idx : Nat} (w1 : (Cond.methodLink own idx Lib.objectInit).before a0 Z = true) (w2 : (Cond.instanceMethod Lib.objectInit).before a0 Z = true) (w3 : (Cond.code Lib.objectInit ⟨#[0xb1]⟩ 1 none).before a0 Z = true) (eT : T.heap = h) (hsize : Ls.size = c.maxLocals) {a : Addr} {rest : List Value} (hf : 1 ≤ R.frames) (hl : (rest.map fun v => v.category).sum + 12 ≤ R.locals) (hd : decode code pc = .ok (.invokespecial idx, 3)) (K : ∀ T', Stand p l e R s m args below meth c T' locs k n → T'.heap = h → Go p e below G (T'.setTop (mkF m (pc + 3) Ls rest))) : Go p e below G (T.setTop (mkF m pc Ls (.ref a :: rest))) := by
  obtain ⟨T', X', e', q⟩ := initO X hx hZ hown w1 w2 w3 eT (g := mkF m pc Ls (.ref a :: rest)) rfl hsize rfl (hb hby hd) hf (W := (rest.map fun v => v.category).sum) (by show 2 * 0 + _ ≤ _; omega) hl
  exact Go.step q (K T' X' e')
theorem g_static (X : Stand p l e R s m args below meth c T locs k n) (hx : p.tables.exec = Jvm.exec) (hby : c.code = code) (hZ : Z.Warmed39 s.vm) {own : String} (hown : s.vm.findClass own = some m.cls) {index : Nat} {y : MethodName} {bytes : ByteArray} {maxL : Nat} {ret : Option FieldType} {rm : Room} {as' : Array Value} {Q : Option Value → Heap → List Loc → Prop} (hM : MetFree l y (head1 [Cond.code y bytes maxL ret] rm) (fun a U => a = as' ∧ Z.Warmed39 U.vm ∧ U.heap = h) (fun _ _ _ _ _ => True) (fun _ U o U' => RetG U Q rm.cells rm.slots U' o)) (wl : (Cond.methodLink own index y).before a0 Z = true) (ws : (Cond.static y).before a0 Z = true) (wz : (Cond.initialized y.cls).before a0 Z = true) (wc : (Cond.code y bytes maxL ret).before a0 Z = true) (hy : y.cls ≠ "java/lang/invoke/MethodHandle" ∧ y.cls ≠ "java/lang/invoke/VarHandle") (eT : T.heap = h) (hsize : Ls.size = c.maxLocals) (argsL : List Value) {rest : List Value} (hlen : ∀ sig, parseMethodDescriptor y.desc = some sig → argsL.length = sig.parameters.length) (has : argsL.toArray = as') (hst : st = argsL.reverse ++ rest) (hf : rm.frames + 1 ≤ R.frames) (hl : (rest.map fun v => v.category).sum + (maxL + 11) + rm.locals ≤ R.locals) (hc : k + rm.cells ≤ R.cells) (hs : n + rm.slots ≤ R.slots) (hd : decode code pc = .ok (.invokestatic index, 3)) (K : ∀ v T' L, Stand p l e R s m args below meth c T' (locs ++ L) (k + rm.cells) (n + rm.slots) → Q v T'.heap L → Go p e below G (T'.setTop (mkF m (pc + 3) Ls (v.toList ++ rest)))) : Go p e below G (T.setTop (mkF m pc Ls st)) := by
  obtain ⟨v, _, ⟨T', L', k', n'⟩, -, X', ⟨L, hq, l1, l2, l3⟩, q⟩ := Jvm.LawKit.callS X hx (y := y) hown (mvT hZ wl) (mvT hZ ws) (mvT hZ wz) (mvT hZ wc) hy (backOf (W := (rest.map fun v => v.category).sum) hM hZ wc wz hf hl) (g := mkF m pc Ls st) rfl hsize (argsL := argsL) (rest := rest) hlen hst (by show 2 * 0 + _ ≤ _; omega) (hb hby hd) (fun _ _ => ⟨has, eT, hc, hs⟩)
  dsimp only [Pt.U, Pt.locs, Pt.cells, Pt.slots] at X' l1 l2 l3 q hq
  subst l1 l2 l3
  exact Go.step q (K v T' L X' hq)
theorem g_special (X : Stand p l e R s m args below meth c T locs k n) (hx : p.tables.exec = Jvm.exec) (hby : c.code = code) (hZ : Z.Warmed39 s.vm) {own : String} (hown : s.vm.findClass own = some m.cls) {index : Nat} {y : MethodName} {bytes : ByteArray} {maxL : Nat} {ret : Option FieldType} {rm : Room} {as' : Array Value} {Q : Option Value → Heap → List Loc → Prop} (hM : MetFree l y (head1 [Cond.code y bytes maxL ret] rm) (fun a U => a = as' ∧ Z.Warmed39 U.vm ∧ U.heap = h) (fun _ _ _ _ _ => True) (fun _ U o U' => RetG U Q rm.cells rm.slots U' o)) (hy1 : y.name = "<init>") (hret : ret = none) (wl : (Cond.methodLink own index y).before a0 Z = true) (ws : (Cond.instanceMethod y).before a0 Z = true) (wz : (Cond.initialized y.cls).before a0 Z = true) (wc : (Cond.code y bytes maxL ret).before a0 Z = true) (hy : y.cls ≠ "java/lang/invoke/MethodHandle" ∧ y.cls ≠ "java/lang/invoke/VarHandle") (eT : T.heap = h) (hsize : Ls.size = c.maxLocals) {a : Addr} (argsL : List Value) {rest : List Value} (hlen : ∀ sig, parseMethodDescriptor y.desc = some sig → argsL.length = sig.parameters.length) (has : (.ref a :: argsL).toArray = as') (hst : st = argsL.reverse ++ .ref a :: rest) (hf : rm.frames + 1 ≤ R.frames) (hl : (rest.map fun v => v.category).sum + (maxL + 11) + rm.locals ≤ R.locals) (hc : k + rm.cells ≤ R.cells) (hs : n + rm.slots ≤ R.slots) (hd : decode code pc = .ok (.invokespecial index, 3)) (K : ∀ v T' L, Stand p l e R s m args below meth c T' (locs ++ L) (k + rm.cells) (n + rm.slots) → Q v T'.heap L → Go p e below G (T'.setTop (mkF m (pc + 3) Ls (v.toList ++ rest)))) : Go p e below G (T.setTop (mkF m pc Ls st)) := by
  subst hret
  obtain ⟨v, _, ⟨T', L', k', n'⟩, -, X', ⟨L, hq, l1, l2, l3⟩, q⟩ := X.specialBack hx (y := y) hy1 hown (mvT hZ wl) (mvT hZ ws) (mvT hZ wc) hy (backOf (W := (rest.map fun v => v.category).sum) hM hZ wc wz hf hl) (g := mkF m pc Ls st) rfl hsize (Steps.refl _) (a := a) (argsL := argsL) (rest := rest) hlen hst (by show 2 * 0 + _ ≤ _; omega) (hb hby hd) (fun _ _ => ⟨has, eT, hc, hs⟩)
  dsimp only [Pt.U, Pt.locs, Pt.cells, Pt.slots] at X' l1 l2 l3 q hq
  subst l1 l2 l3
  exact Go.step (fun t r => q.trans r) (K v T' L X' hq)
theorem g_virtual (X : Stand p l e R s m args below meth c T locs k n) (hx : p.tables.exec = Jvm.exec) (hby : c.code = code) (hZ : Z.Warmed39 s.vm) {own : String} (hown : s.vm.findClass own = some m.cls) {C : String} {index : Nat} {z : MethodName} {y : MethodName} {bytes : ByteArray} {maxL : Nat} {ret : Option FieldType} {rm : Room} {as' : Array Value} {Q : Option Value → Heap → List Loc → Prop} (hM : MetFree l y (head1 [Cond.code y bytes maxL ret] rm) (fun a U => a = as' ∧ Z.Warmed39 U.vm ∧ U.heap = h) (fun _ _ _ _ _ => True) (fun _ U o U' => RetG U Q rm.cells rm.slots U' o)) (wl : (Cond.methodLink own index z).before a0 Z = true) (wd : (Cond.declares z).before a0 Z = true) (hnf : NotFace s z) (wsel : (Cond.selects C z y).before a0 Z = true) (ws : (Cond.instanceMethod y).before a0 Z = true) (wz : (Cond.initialized y.cls).before a0 Z = true) (wc : (Cond.code y bytes maxL ret).before a0 Z = true) (hy : z.cls ≠ "java/lang/invoke/MethodHandle" ∧ z.cls ≠ "java/lang/invoke/VarHandle") (eT : T.heap = h) {a : Addr} (E : Exa Z h a C) (hsize : Ls.size = c.maxLocals) (argsL : List Value) {rest : List Value} (hlen : ∀ sig, parseMethodDescriptor z.desc = some sig → argsL.length = sig.parameters.length) (has : (.ref a :: argsL).toArray = as') (hst : st = argsL.reverse ++ .ref a :: rest) (hf : rm.frames + 1 ≤ R.frames) (hl : (rest.map fun v => v.category).sum + (maxL + 11) + rm.locals ≤ R.locals) (hc : k + rm.cells ≤ R.cells) (hs : n + rm.slots ≤ R.slots) (hd : decode code pc = .ok (.invokevirtual index, 3)) (K : ∀ v T' L, Stand p l e R s m args below meth c T' (locs ++ L) (k + rm.cells) (n + rm.slots) → Q v T'.heap L → Go p e below G (T'.setTop (mkF m (pc + 3) Ls (v.toList ++ rest)))) : Go p e below G (T.setTop (mkF m pc Ls st)) := by
  obtain ⟨cq, kq, qa, qb, qc⟩ := isOf hZ eT E
  obtain ⟨v, _, ⟨T', L', k', n'⟩, -, X', ⟨L, hq, l1, l2, l3⟩, q⟩ := X.virtualBack hx (y := z) (z := y) hown (mvT hZ wl) (mvT hZ wd) hnf (mvT hZ wsel) (mvT hZ ws) hy (backOf (W := (rest.map fun v => v.category).sum) hM hZ wc wz hf hl) qa qc (g := mkF m pc Ls st) rfl hsize (Steps.refl _) (argsL := argsL) (rest := rest) hlen hst (by show 2 * 0 + _ ≤ _; omega) (hb hby hd) (fun _ _ => ⟨has, eT, hc, hs⟩)
  dsimp only [Pt.U, Pt.locs, Pt.cells, Pt.slots] at X' l1 l2 l3 q hq
  subst l1 l2 l3
  exact Go.step (fun t r => q.trans r) (K v T' L X' hq)
theorem g_private (X : Stand p l e R s m args below meth c T locs k n) (hx : p.tables.exec = Jvm.exec) (hby : c.code = code) (hZ : Z.Warmed39 s.vm) {own : String} (hown : s.vm.findClass own = some m.cls) {index j : Nat} {y : MethodName} {bytes : ByteArray} {maxL : Nat} {ret : Option FieldType} {rm : Room} {as' : Array Value} {Q : Option Value → Heap → List Loc → Prop} (hM : MetFree l y (head1 [Cond.code y bytes maxL ret] rm) (fun a U => a = as' ∧ Z.Warmed39 U.vm ∧ U.heap = h) (fun _ _ _ _ _ => True) (fun _ U o U' => RetG U Q rm.cells rm.slots U' o)) (wl : (Cond.methodLink own index y).before a0 Z = true) (ws : (Cond.instanceMethod y).before a0 Z = true) (wi : (Cond.instantiable y.cls j).before a0 Z = true) (wp : (Cond.privateMethod y).before a0 Z = true) (wz : (Cond.initialized y.cls).before a0 Z = true) (wc : (Cond.code y bytes maxL ret).before a0 Z = true) (hy : y.cls ≠ "java/lang/invoke/MethodHandle" ∧ y.cls ≠ "java/lang/invoke/VarHandle") (eT : T.heap = h) {a : Addr} {C : String} (E : Exa Z h a C) (hsize : Ls.size = c.maxLocals) (argsL : List Value) {rest : List Value} (hlen : ∀ sig, parseMethodDescriptor y.desc = some sig → argsL.length = sig.parameters.length) (has : (.ref a :: argsL).toArray = as') (hst : st = argsL.reverse ++ .ref a :: rest) (hf : rm.frames + 1 ≤ R.frames) (hl : (rest.map fun v => v.category).sum + (maxL + 11) + rm.locals ≤ R.locals) (hc : k + rm.cells ≤ R.cells) (hs : n + rm.slots ≤ R.slots) (hd : decode code pc = .ok (.invokevirtual index, 3)) (K : ∀ v T' L, Stand p l e R s m args below meth c T' (locs ++ L) (k + rm.cells) (n + rm.slots) → Q v T'.heap L → Go p e below G (T'.setTop (mkF m (pc + 3) Ls (v.toList ++ rest)))) : Go p e below G (T.setTop (mkF m pc Ls st)) := by
  obtain ⟨cq, q1, q2⟩ := E.cell
  obtain ⟨v, _, ⟨T', L', k', n'⟩, -, X', ⟨L, hq, l1, l2, l3⟩, q⟩ := X.privateBack hx (y := y) hown (mvT hZ wl) (mvT hZ ws) (selOf (mvT hZ wi) (mvP hZ wp) (mvT hZ ws) hy) (Cond.privateMethod_at (mvP hZ wp (args := #[]))) (mvT hZ wc) hy (backOf (W := (rest.map fun v => v.category).sum) hM hZ wc wz hf hl) (g := mkF m pc Ls st) rfl hsize (Steps.refl _) (a := a) (by rw [eT]; exact q1) q2 (argsL := argsL) (rest := rest) hlen hst (by show 2 * 0 + _ ≤ _; omega) (hb hby hd) (fun _ _ => ⟨has, eT, hc, hs⟩)
  dsimp only [Pt.U, Pt.locs, Pt.cells, Pt.slots] at X' l1 l2 l3 q hq
  subst l1 l2 l3
  exact Go.step (fun t r => q.trans r) (K v T' L X' hq)
theorem g_interface (X : Stand p l e R s m args below meth c T locs k n) (hx : p.tables.exec = Jvm.exec) (hby : c.code = code) (hZ : Z.Warmed39 s.vm) {own : String} (hown : s.vm.findClass own = some m.cls) {C : String} {index count : Nat} {z : MethodName} {y : MethodName} {bytes : ByteArray} {maxL : Nat} {ret : Option FieldType} {rm : Room} {as' : Array Value} {Q : Option Value → Heap → List Loc → Prop} (hM : MetFree l y (head1 [Cond.code y bytes maxL ret] rm) (fun a U => a = as' ∧ Z.Warmed39 U.vm ∧ U.heap = h) (fun _ _ _ _ _ => True) (fun _ U o U' => RetG U Q rm.cells rm.slots U' o)) (wl : (Cond.methodLink own index z).before a0 Z = true) (wd : (Cond.declares z).before a0 Z = true) (wf : (Cond.interfaceMethod z.cls z.cls z.name z.desc).before a0 Z = true) (wsel : (Cond.selects C z y).before a0 Z = true) (ws : (Cond.instanceMethod y).before a0 Z = true) (wp : (Cond.publicMethod y).before a0 Z = true) (wu : (Cond.unhidden C z.name z.desc).before a0 Z = true) (wca : (Cond.castable C z.cls).before a0 Z = true) (wz : (Cond.initialized y.cls).before a0 Z = true) (wc : (Cond.code y bytes maxL ret).before a0 Z = true) (hy : z.cls ≠ "java/lang/invoke/MethodHandle" ∧ z.cls ≠ "java/lang/invoke/VarHandle") (eT : T.heap = h) {a : Addr} (E : Exa Z h a C) (hsize : Ls.size = c.maxLocals) (argsL : List Value) {rest : List Value} (hlen : ∀ sig, parseMethodDescriptor z.desc = some sig → argsL.length = sig.parameters.length) (has : (.ref a :: argsL).toArray = as') (hst : st = argsL.reverse ++ .ref a :: rest) (hf : rm.frames + 1 ≤ R.frames) (hl : (rest.map fun v => v.category).sum + (maxL + 11) + rm.locals ≤ R.locals) (hc : k + rm.cells ≤ R.cells) (hs : n + rm.slots ≤ R.slots) (hd : decode code pc = .ok (.invokeinterface index count, 5)) (K : ∀ v T' L, Stand p l e R s m args below meth c T' (locs ++ L) (k + rm.cells) (n + rm.slots) → Q v T'.heap L → Go p e below G (T'.setTop (mkF m (pc + 5) Ls (v.toList ++ rest)))) : Go p e below G (T.setTop (mkF m pc Ls st)) := by
  obtain ⟨cq, kq, qa, qb, qc⟩ := isOf hZ eT E
  obtain ⟨v, _, ⟨T', L', k', n'⟩, -, X', ⟨L, hq, l1, l2, l3⟩, q⟩ := X.interfaceBack hx (xi := z) (y := y) hown (mvT hZ wl) (mvT hZ wd) (mvT hZ wf (by simp [Cond.onTables, Cond.keepsFace, Cond.keeps, Cond.steady, Cond.faceAtom, hy.1, hy.2])) (mvT hZ wsel) (mvT hZ ws) (mvT hZ wp) (mvT hZ wu) (mvT hZ wca) hy (backOf (W := (rest.map fun v => v.category).sum) hM hZ wc wz hf hl) qa qb qc (g := mkF m pc Ls st) rfl hsize (Steps.refl _) (argsL := argsL) (rest := rest) hlen hst (by show 2 * 0 + _ ≤ _; omega) (hb hby hd) (fun _ _ => ⟨has, eT, hc, hs⟩)
  dsimp only [Pt.U, Pt.locs, Pt.cells, Pt.slots] at X' l1 l2 l3 q hq
  subst l1 l2 l3
  exact Go.step (fun t r => q.trans r) (K v T' L X' hq)
theorem g_ret (X : Stand p l e R s m args below meth c T locs k n) (hx : p.tables.exec = Jvm.exec) (hby : c.code = code) (hret : meth.sig.returnType = none) (hlocks : meth.locks = false) {Q : Option Value → Heap → List Loc → Prop} {cells slots : Nat} (hd : decode code pc = .ok (.return_, 1)) (eT : T.heap = h) (hk : k ≤ cells) (hn : n ≤ slots) (hq : Q none h locs) : Go p e below (RetG s Q cells slots) (T.setTop (mkF m pc Ls [])) := Go.leave X (v := none) (fun _ => rfl) hlocks eT hq hk hn (fun fs hr => X.returnOut hx hret (hb hby hd) hr)
theorem g_iret (X : Stand p l e R s m args below meth c T locs k n) (hx : p.tables.exec = Jvm.exec) (hby : c.code = code) {z : Int32} {rest : List Value} (hret : meth.sig.returnType = some .int) (hlocks : meth.locks = false) {Q : Option Value → Heap → List Loc → Prop} {cells slots : Nat} (hd : decode code pc = .ok (.ireturn, 1)) (eT : T.heap = h) (hk : k ≤ cells) (hn : n ≤ slots) (hq : Q (some (.int z)) h locs) : Go p e below (RetG s Q cells slots) (T.setTop (mkF m pc Ls (.int z :: rest))) := Go.leave X (v := some (.int z)) (fun q => by rw [hret] at q; cases q) hlocks eT hq hk hn (fun fs hr => retOut X hx (t := .int) hret rfl (Or.inl ⟨rfl, Or.inl rfl, z, rfl⟩) (hb hby hd) hr)
theorem g_nret (X : Stand p l e R s m args below meth c T locs k n) (hx : p.tables.exec = Jvm.exec) (hby : c.code = code) {z : Int32} {rest : List Value} {t : FieldType} (ht : t = .boolean ∨ t = .byte ∨ t = .char ∨ t = .short) (hret : meth.sig.returnType = some t) (hlocks : meth.locks = false) {Q : Option Value → Heap → List Loc → Prop} {cells slots : Nat} (hd : decode code pc = .ok (.ireturn, 1)) (eT : T.heap = h) (hk : k ≤ cells) (hn : n ≤ slots) (hq : Q (some (.int (nar t z))) h locs) : Go p e below (RetG s Q cells slots) (T.setTop (mkF m pc Ls (.int z :: rest))) := Go.leave X (v := some (.int (nar t z))) (fun q => by rw [hret] at q; cases q) hlocks eT hq hk hn (fun fs hr => retN X hx (t := t) hret ht (hb hby hd) hr)
theorem g_lret (X : Stand p l e R s m args below meth c T locs k n) (hx : p.tables.exec = Jvm.exec) (hby : c.code = code) {z : Int64} {rest : List Value} (hret : meth.sig.returnType = some .long) (hlocks : meth.locks = false) {Q : Option Value → Heap → List Loc → Prop} {cells slots : Nat} (hd : decode code pc = .ok (.lreturn, 1)) (eT : T.heap = h) (hk : k ≤ cells) (hn : n ≤ slots) (hq : Q (some (.long z)) h locs) : Go p e below (RetG s Q cells slots) (T.setTop (mkF m pc Ls (.long z :: rest))) := Go.leave X (v := some (.long z)) (fun q => by rw [hret] at q; cases q) hlocks eT hq hk hn (fun fs hr => retOut X hx (t := .long) hret rfl (Or.inr (Or.inl ⟨rfl, rfl, z, rfl⟩)) (hb hby hd) hr)
theorem g_aret (X : Stand p l e R s m args below meth c T locs k n) (hx : p.tables.exec = Jvm.exec) (hby : c.code = code) {z : Value} {rest : List Value} {t : FieldType} (ht : t.isReference = true) (hz : z.isRef = true) (hnar : narrow t z = z) (hret : meth.sig.returnType = some t) (hlocks : meth.locks = false) {Q : Option Value → Heap → List Loc → Prop} {cells slots : Nat} (hd : decode code pc = .ok (.areturn, 1)) (eT : T.heap = h) (hk : k ≤ cells) (hn : n ≤ slots) (hq : Q (some z) h locs) : Go p e below (RetG s Q cells slots) (T.setTop (mkF m pc Ls (z :: rest))) := Go.leave X (v := some z) (fun q => by rw [hret] at q; cases q) hlocks eT hq hk hn (fun fs hr => retOut X hx (t := t) hret hnar (Or.inr (Or.inr (Or.inr (Or.inr ⟨rfl, ht, hz⟩)))) (hb hby hd) hr)
end
end Jvm.Own

namespace Jvm.Own
open Sem ClassFile Op Lib Jvm.Stand Jvm.Free Jvm.LawKit Jvm.RoadKit
def RetW (s : State) (Q : Option Value → Heap → List Loc → Prop) (cells slots : Nat) (s₂ : State) (o : Outcome) : Prop := ∃ v L, o = .returned v ∧ Q v s₂.heap L ∧ ReturnedEndW s o s₂ L cells slots
theorem own_widen {s u : State} {o : Outcome} {L L' : List Loc} {a b c d : Nat} (hq : ReturnedEndW s o u L a b) (N : Fr s.heap.size L) (hc : a ≤ c) (hd : b ≤ d) : ReturnedEndW s o u L' c d :=
  ⟨hq.1, hq.2.1, hq.2.2.1, (hq.2.2.2.sift fun y hy => Or.inr (N y hy)).mono hc hd⟩
section
variable {p : Program} {l : Launch} {e : Env} {R : Room} {s : State} {vm0 : Vm} {m : MethodId} {args : Array Value} {below : List Frame} {meth : Method} {c : Code} {T : State} {locs : List Loc} {k n k0 : Nat} {G : State → Outcome → Prop} {code : ByteArray} {pc : Nat} {Ls : Array Slot} {st : List Value} {Z : State} {a0 : Array Value} {h : Heap} {n0 : Nat}
theorem Go.leaveW (X : Stand p l e R (s.setVm vm0) m args below meth c T locs k n) {v : Option Value} (hv : meth.sig.returnType = none → v = none) (hlocks : meth.locks = false) {Q : Option Value → Heap → List Loc → Prop} {cells slots : Nat} {σ : State} (hS : s.Since vm0 k0) (eT : T.heap = h) (hkk : k0 ≤ h.size) (hq : Q v h locs) (hk : k ≤ cells) (hn : n ≤ slots)
    (st : ∀ fs, (∀ (f : JFrame) (acts : List Action), f.method = m → f.locked = none → f.entered = [] → (doReturn e (T.setTop f) acts v).1 = T.setFrames fs) → Steps p.tables e below σ (T.setFrames fs)) : Go p e below (RetW s Q cells slots) σ := by
  subst eT
  obtain ⟨fs, hr, hrun, hended, h1, h2, h3, h4⟩ := X.leaveW hS hkk (v := v) hv hlocks
  exact ⟨_, _, st fs hr, hrun, hended, _, _, rfl, hq, h1, h2, h3, h4.mono hk hn⟩
theorem g_retW (X : Stand p l e R (s.setVm vm0) m args below meth c T locs k n) (hx : p.tables.exec = Jvm.exec) (hby : c.code = code) (hret : meth.sig.returnType = none) (hlocks : meth.locks = false) {Q : Option Value → Heap → List Loc → Prop} {cells slots : Nat} (hS : s.Since vm0 k0) (hd : decode code pc = .ok (.return_, 1)) (eT : T.heap = h) (hkk : k0 ≤ h.size) (hk : k ≤ cells) (hn : n ≤ slots) (hq : Q none h locs) : Go p e below (RetW s Q cells slots) (T.setTop (mkF m pc Ls [])) := Go.leaveW X (v := none) (fun _ => rfl) hlocks hS eT hkk hq hk hn (fun fs hr => X.returnOut hx hret (hb hby hd) hr)
theorem g_iretW (X : Stand p l e R (s.setVm vm0) m args below meth c T locs k n) (hx : p.tables.exec = Jvm.exec) (hby : c.code = code) {z : Int32} {rest : List Value} (hret : meth.sig.returnType = some .int) (hlocks : meth.locks = false) {Q : Option Value → Heap → List Loc → Prop} {cells slots : Nat} (hS : s.Since vm0 k0) (hd : decode code pc = .ok (.ireturn, 1)) (eT : T.heap = h) (hkk : k0 ≤ h.size) (hk : k ≤ cells) (hn : n ≤ slots) (hq : Q (some (.int z)) h locs) : Go p e below (RetW s Q cells slots) (T.setTop (mkF m pc Ls (.int z :: rest))) := Go.leaveW X (v := some (.int z)) (fun q => by rw [hret] at q; cases q) hlocks hS eT hkk hq hk hn (fun fs hr => retOut X hx (t := .int) hret rfl (Or.inl ⟨rfl, Or.inl rfl, z, rfl⟩) (hb hby hd) hr)
theorem g_nretW (X : Stand p l e R (s.setVm vm0) m args below meth c T locs k n) (hx : p.tables.exec = Jvm.exec) (hby : c.code = code) {z : Int32} {rest : List Value} {t : FieldType} (ht : t = .boolean ∨ t = .byte ∨ t = .char ∨ t = .short) (hret : meth.sig.returnType = some t) (hlocks : meth.locks = false) {Q : Option Value → Heap → List Loc → Prop} {cells slots : Nat} (hS : s.Since vm0 k0) (hd : decode code pc = .ok (.ireturn, 1)) (eT : T.heap = h) (hkk : k0 ≤ h.size) (hk : k ≤ cells) (hn : n ≤ slots) (hq : Q (some (.int (nar t z))) h locs) : Go p e below (RetW s Q cells slots) (T.setTop (mkF m pc Ls (.int z :: rest))) := Go.leaveW X (v := some (.int (nar t z))) (fun q => by rw [hret] at q; cases q) hlocks hS eT hkk hq hk hn (fun fs hr => retN X hx (t := t) hret ht (hb hby hd) hr)
theorem g_lretW (X : Stand p l e R (s.setVm vm0) m args below meth c T locs k n) (hx : p.tables.exec = Jvm.exec) (hby : c.code = code) {z : Int64} {rest : List Value} (hret : meth.sig.returnType = some .long) (hlocks : meth.locks = false) {Q : Option Value → Heap → List Loc → Prop} {cells slots : Nat} (hS : s.Since vm0 k0) (hd : decode code pc = .ok (.lreturn, 1)) (eT : T.heap = h) (hkk : k0 ≤ h.size) (hk : k ≤ cells) (hn : n ≤ slots) (hq : Q (some (.long z)) h locs) : Go p e below (RetW s Q cells slots) (T.setTop (mkF m pc Ls (.long z :: rest))) := Go.leaveW X (v := some (.long z)) (fun q => by rw [hret] at q; cases q) hlocks hS eT hkk hq hk hn (fun fs hr => retOut X hx (t := .long) hret rfl (Or.inr (Or.inl ⟨rfl, rfl, z, rfl⟩)) (hb hby hd) hr)
theorem g_aretW (X : Stand p l e R (s.setVm vm0) m args below meth c T locs k n) (hx : p.tables.exec = Jvm.exec) (hby : c.code = code) {z : Value} {rest : List Value} {t : FieldType} (ht : t.isReference = true) (hz : z.isRef = true) (hnar : narrow t z = z) (hret : meth.sig.returnType = some t) (hlocks : meth.locks = false) {Q : Option Value → Heap → List Loc → Prop} {cells slots : Nat} (hS : s.Since vm0 k0) (hd : decode code pc = .ok (.areturn, 1)) (eT : T.heap = h) (hkk : k0 ≤ h.size) (hk : k ≤ cells) (hn : n ≤ slots) (hq : Q (some z) h locs) : Go p e below (RetW s Q cells slots) (T.setTop (mkF m pc Ls (z :: rest))) := Go.leaveW X (v := some z) (fun q => by rw [hret] at q; cases q) hlocks hS eT hkk hq hk hn (fun fs hr => retOut X hx (t := t) hret hnar (Or.inr (Or.inr (Or.inr (Or.inr ⟨rfl, ht, hz⟩)))) (hb hby hd) hr)
theorem g_ldcS (X : Stand p l e R (s.setVm vm0) m args below meth c T locs k n) (hx : p.tables.exec = Jvm.exec) (hby : c.code = code) (hZ : Z.Warmed39 (s.setVm vm0).vm) {own : String} (hown : (s.setVm vm0).vm.findClass own = some m.cls) {text : String} {index : Nat} (w : (Cond.stringLink own index text).before a0 Z = true) (wS : ∀ a ∈ Bundle.stringAtoms, a.before a0 Z = true) (eT : T.heap = h) (hS : s.Since vm0 k0) (hk : k0 ≤ h.size) (nn : Nat) (hnn : 4 * text.toList.length ≤ nn) (hbig : nn ≤ 536870912) (hc : k + 2 ≤ R.cells) (hl : n + (nn + 4) ≤ R.slots) (hd : decode code pc = .ok (.ldc index, 2)) (K : ∀ a T' h' k1, Stand p l e R (s.setVm T'.vm) m args below meth c T' locs (k + 2) (n + (nn + 4)) → T'.heap = h' → Ext h h' → s.Since T'.vm k1 → k1 ≤ h'.size → Z.Warmed39 (s.setVm T'.vm).vm → (s.setVm T'.vm).vm.findClass own = some m.cls → Go p e below G (T'.setTop (mkF m (pc + 2) Ls (.ref a :: st)))) : Go p e below G (T.setTop (mkF m pc Ls st)) := by
  obtain ⟨a, T', h', k1, X', e', E, hS', hk', hZ', ho', q⟩ := ldcS X hx hZ hown w wS eT hS hk (g := mkF m pc Ls st) rfl (hb hby hd) hnn hbig hc hl
  exact Go.step q (K a T' h' k1 X' e' E hS' hk' hZ' ho')
theorem g_ldcwS (X : Stand p l e R (s.setVm vm0) m args below meth c T locs k n) (hx : p.tables.exec = Jvm.exec) (hby : c.code = code) (hZ : Z.Warmed39 (s.setVm vm0).vm) {own : String} (hown : (s.setVm vm0).vm.findClass own = some m.cls) {text : String} {index : Nat} (w : (Cond.stringLink own index text).before a0 Z = true) (wS : ∀ a ∈ Bundle.stringAtoms, a.before a0 Z = true) (eT : T.heap = h) (hS : s.Since vm0 k0) (hk : k0 ≤ h.size) (nn : Nat) (hnn : 4 * text.toList.length ≤ nn) (hbig : nn ≤ 536870912) (hc : k + 2 ≤ R.cells) (hl : n + (nn + 4) ≤ R.slots) (hd : decode code pc = .ok (.ldc_w index, 3)) (K : ∀ a T' h' k1, Stand p l e R (s.setVm T'.vm) m args below meth c T' locs (k + 2) (n + (nn + 4)) → T'.heap = h' → Ext h h' → s.Since T'.vm k1 → k1 ≤ h'.size → Z.Warmed39 (s.setVm T'.vm).vm → (s.setVm T'.vm).vm.findClass own = some m.cls → Go p e below G (T'.setTop (mkF m (pc + 3) Ls (.ref a :: st)))) : Go p e below G (T.setTop (mkF m pc Ls st)) := by
  obtain ⟨a, T', h', k1, X', e', E, hS', hk', hZ', ho', q⟩ := ldcSW X hx hZ hown w wS eT hS hk (g := mkF m pc Ls st) rfl (hb hby hd) hnn hbig hc hl
  exact Go.step q (K a T' h' k1 X' e' E hS' hk' hZ' ho')
theorem g_ldcSV (X : Stand p l e R (s.setVm vm0) m args below meth c T locs k n) (hx : p.tables.exec = Jvm.exec) (hby : c.code = code) (hZ : Z.Warmed39 (s.setVm vm0).vm) {own : String} (hown : (s.setVm vm0).vm.findClass own = some m.cls) {text : String} {index : Nat} (w : (Cond.stringLink own index text).before a0 Z = true) (wS : ∀ a ∈ Bundle.stringAtoms, a.before a0 Z = true) (eT : T.heap = h) (hS : s.Since vm0 k0) (hk : k0 ≤ h.size) (N : Fr s.heap.size locs) (hkeep : ∀ (b : Addr) (cl : Cell), Z.heap[b]? = some cl → s.heap[b]? = some cl) (hI : vm0.interned = Z.vm.interned) (hh : Jvm.Lit.constHeld Z own index) (hcw : Jvm.Lit.compactW.before a0 Z = true) (vs : List Value) (z : Int32) (ht : (∀ c ∈ text.toList, c.toNat < 256) ∧ text.toList.map (fun c => Value.int (Jvm.Lit.byteI c.toNat.toUInt16)) = vs) (hz : ¬ z < 0) (hlz : z.toNatClampNeg = vs.length) (nn : Nat) (hnn : 4 * text.toList.length ≤ nn) (hbig : nn ≤ 536870912) (hc : k + 2 ≤ R.cells) (hl : n + (nn + 4) ≤ R.slots) (hd : decode code pc = .ok (.ldc index, 2)) (K : ∀ a T' h' k1 b kb, Stand p l e R (s.setVm T'.vm) m args below meth c T' locs (k + 2) (n + (nn + 4)) → T'.heap = h' → Ext h h' → s.Since T'.vm k1 → k1 ≤ h'.size → Z.Warmed39 (s.setVm T'.vm).vm → (s.setVm T'.vm).vm.findClass own = some m.cls → Exa Z h' a "java/lang/String" → Fld Z h' a "java/lang/String" "coder" "B" (.int 0) → Fld Z h' a "java/lang/String" "value" "[B" (.ref b) → Arv Z h' b kb .byte z vs (.int 0) → Lit (s.setVm T'.vm) own index a → Go p e below G (T'.setTop (mkF m (pc + 2) Ls (.ref a :: st)))) : Go p e below G (T.setTop (mkF m pc Ls st)) := by
  obtain ⟨a, T', h', k1, b, kb, X', e', E, hS', hk', hZ', ho', r1, r2, r3, r4, -, -, -, r5, q⟩ := ldcSVL X hx hZ hown w wS eT hS hk N hkeep (Ts := []) ⟨#[], by rw [hI]; simp, fun q hq => by simp at hq⟩ (by simp) hh hcw ht hz hlz (g := mkF m pc Ls st) rfl (hb hby hd) hnn hbig hc hl
  exact Go.step q (K a T' h' k1 b kb X' e' E hS' hk' hZ' ho' r1 r2 r3 r4 r5)
theorem g_ldcAgain (X : Stand p l e R (s.setVm vm0) m args below meth c T locs k n) (hx : p.tables.exec = Jvm.exec) (hby : c.code = code) (hZ : Z.Warmed39 (s.setVm vm0).vm) {own : String} (hown : (s.setVm vm0).vm.findClass own = some m.cls) {text : String} {index : Nat} (w : (Cond.stringLink own index text).before a0 Z = true) {a : Addr} (L : Lit (s.setVm vm0) own index a) (hd : decode code pc = .ok (.ldc index, 2)) (K : Go p e below G (T.setTop (mkF m (pc + 2) Ls (.ref a :: st)))) : Go p e below G (T.setTop (mkF m pc Ls st)) := Go.step (ldcAgain X hx hZ hown w L (g := mkF m pc Ls st) rfl (hb hby hd)) K
theorem backW {y : MethodName} {bytes : ByteArray} {maxL : Nat} {ret : Option FieldType} {rm : Room} {len W : Nat} {as' : Array Value} {Q : Option Value → Heap → List Loc → Prop} {PV : Vm → Prop}
    (hM : MetFree l y (head1 [Cond.code y bytes maxL ret] rm) (fun a U => a = as' ∧ PV U.vm ∧ U.heap = h) (fun _ _ _ _ _ => True) (fun _ U o U' => RetW U Q rm.cells rm.slots U' o))
    (hZ : Z.Warmed39 s.vm) (hPV : ∀ vm, s.WarmedH vm → PV vm) (wc : (Cond.code y bytes maxL ret).before a0 Z = true) (wz : (Cond.initialized y.cls).before a0 Z = true) (hf : rm.frames + 1 ≤ R.frames) (hl : W + (maxL + 11) + rm.locals ≤ R.locals) :
    BackS l R p e below s args y len W (fun A a => a = as' ∧ A.U.heap = h ∧ A.cells + rm.cells ≤ R.cells ∧ A.slots + rm.slots ≤ R.slots)
      (fun A _ v B => ∃ L, Q v B.U.heap L ∧ B.locs = A.locs ++ L ∧ B.cells = A.cells + rm.cells ∧ B.slots = A.slots + rm.slots) :=
  BackS.of_freeW (bytes := bytes) (maxL := maxL) (ret := ret) (E := fun _ _ o t L k n => k = rm.cells ∧ n = rm.slots ∧ ∃ v, o = .returned v ∧ Q v t.heap L) hM hf hl
    (fun m meth c A a Y hp => have hU : Z.Warmed39 A.U.vm := wtrans hZ Y.warmed
      ⟨by show (Cond.and _ .tt).before a A.U = true; rw [Cond.before_and, mv hU wc]; rfl, mv hU wc, mv hU wz, hp.2.2.1, hp.2.2.2⟩)
    (fun m meth c A a g mk Y hp => ⟨hp.1, hPV _ Y.warmed, hp.2.1⟩) (fun _ _ _ _ _ _ _ _ _ => trivial)
    (fun _ _ _ _ ⟨v, L, h1, h2, h3⟩ => ⟨L, _, _, h3, rfl, rfl, v, h1, h2⟩)
    (fun m meth c A a g mk v t L k n Y hp _ _ ⟨e1, e2, v', e3, e4⟩ => by cases e3; subst e1 e2; exact ⟨L, e4, rfl, rfl, rfl⟩)
theorem g_staticW (X : Stand p l e R (s.setVm vm0) m args below meth c T locs k n) (hx : p.tables.exec = Jvm.exec) (hby : c.code = code) (hZ : Z.Warmed39 (s.setVm vm0).vm) {own : String} (hown : (s.setVm vm0).vm.findClass own = some m.cls) {index : Nat} {y : MethodName} {bytes : ByteArray} {maxL : Nat} {ret : Option FieldType} {rm : Room} {as' : Array Value} {Q : Option Value → Heap → List Loc → Prop} {PV : Vm → Prop} (hM : MetFree l y (head1 [Cond.code y bytes maxL ret] rm) (fun a U => a = as' ∧ PV U.vm ∧ U.heap = h) (fun _ _ _ _ _ => True) (fun _ U o U' => RetW U Q rm.cells rm.slots U' o)) (hPV : ∀ vm, (s.setVm vm0).WarmedH vm → PV vm) (hS : s.Since vm0 k0) (hkk : k0 ≤ h.size) (wl : (Cond.methodLink own index y).before a0 Z = true) (ws : (Cond.static y).before a0 Z = true) (wz : (Cond.initialized y.cls).before a0 Z = true) (wc : (Cond.code y bytes maxL ret).before a0 Z = true) (hy : y.cls ≠ "java/lang/invoke/MethodHandle" ∧ y.cls ≠ "java/lang/invoke/VarHandle") (eT : T.heap = h) (hsize : Ls.size = c.maxLocals) (argsL : List Value) {rest : List Value} (hlen : ∀ sig, parseMethodDescriptor y.desc = some sig → argsL.length = sig.parameters.length) (has : argsL.toArray = as') (hst : st = argsL.reverse ++ rest) (hf : rm.frames + 1 ≤ R.frames) (hl : (rest.map fun v => v.category).sum + (maxL + 11) + rm.locals ≤ R.locals) (hc : k + rm.cells ≤ R.cells) (hs : n + rm.slots ≤ R.slots) (hd : decode code pc = .ok (.invokestatic index, 3)) (K : ∀ v T' L, Stand p l e R (s.setVm T'.vm) m args below meth c T' (locs ++ L) (k + rm.cells) (n + rm.slots) → s.Since T'.vm T'.heap.size → Z.Warmed39 (s.setVm T'.vm).vm → (s.setVm T'.vm).vm.findClass own = some m.cls → Q v T'.heap L → Go p e below G (T'.setTop (mkF m (pc + 3) Ls (v.toList ++ rest)))) : Go p e below G (T.setTop (mkF m pc Ls st)) := by
  obtain ⟨v, _, ⟨T', L', k', n'⟩, -, X', hs', hg', ⟨L, hq, l1, l2, l3⟩, q⟩ := callSS X hx (y := y) hown (mvT hZ wl) (mvT hZ ws) (mvT hZ wz) (mvT hZ wc) hy (backW (W := (rest.map fun v => v.category).sum) hM hZ hPV wc wz hf hl) (g := mkF m pc Ls st) rfl hsize (argsL := argsL) (rest := rest) hlen hst (by show 2 * 0 + _ ≤ _; omega) (hb hby hd) (fun _ _ => ⟨has, eT, hc, hs⟩)
  dsimp only [Pt.U, Pt.locs, Pt.cells, Pt.slots] at X' hs' hg' l1 l2 l3 q hq
  subst l1 l2 l3
  obtain ⟨X2, hS2, hZ2, ho2⟩ := rebS hS (Nat.le_trans hkk (by rw [← eT]; exact Nat.le_refl _)) X' hs' hg' hZ hown
  exact Go.step (fun t r => q.trans r) (K v T' L X2 hS2 hZ2 ho2 hq)
theorem g_specialW (X : Stand p l e R (s.setVm vm0) m args below meth c T locs k n) (hx : p.tables.exec = Jvm.exec) (hby : c.code = code) (hZ : Z.Warmed39 (s.setVm vm0).vm) {own : String} (hown : (s.setVm vm0).vm.findClass own = some m.cls) {index : Nat} {y : MethodName} {bytes : ByteArray} {maxL : Nat} {ret : Option FieldType} {rm : Room} {as' : Array Value} {Q : Option Value → Heap → List Loc → Prop} {PV : Vm → Prop} (hM : MetFree l y (head1 [Cond.code y bytes maxL ret] rm) (fun a U => a = as' ∧ PV U.vm ∧ U.heap = h) (fun _ _ _ _ _ => True) (fun _ U o U' => RetW U Q rm.cells rm.slots U' o)) (hPV : ∀ vm, (s.setVm vm0).WarmedH vm → PV vm) (hS : s.Since vm0 k0) (hkk : k0 ≤ h.size) (hy1 : y.name = "<init>") (hret : ret = none) (wl : (Cond.methodLink own index y).before a0 Z = true) (ws : (Cond.instanceMethod y).before a0 Z = true) (wz : (Cond.initialized y.cls).before a0 Z = true) (wc : (Cond.code y bytes maxL ret).before a0 Z = true) (hy : y.cls ≠ "java/lang/invoke/MethodHandle" ∧ y.cls ≠ "java/lang/invoke/VarHandle") (eT : T.heap = h) (hsize : Ls.size = c.maxLocals) {a : Addr} (argsL : List Value) {rest : List Value} (hlen : ∀ sig, parseMethodDescriptor y.desc = some sig → argsL.length = sig.parameters.length) (has : (.ref a :: argsL).toArray = as') (hst : st = argsL.reverse ++ .ref a :: rest) (hf : rm.frames + 1 ≤ R.frames) (hl : (rest.map fun v => v.category).sum + (maxL + 11) + rm.locals ≤ R.locals) (hc : k + rm.cells ≤ R.cells) (hs : n + rm.slots ≤ R.slots) (hd : decode code pc = .ok (.invokespecial index, 3)) (K : ∀ v T' L, Stand p l e R (s.setVm T'.vm) m args below meth c T' (locs ++ L) (k + rm.cells) (n + rm.slots) → s.Since T'.vm T'.heap.size → Z.Warmed39 (s.setVm T'.vm).vm → (s.setVm T'.vm).vm.findClass own = some m.cls → Q v T'.heap L → Go p e below G (T'.setTop (mkF m (pc + 3) Ls (v.toList ++ rest)))) : Go p e below G (T.setTop (mkF m pc Ls st)) := by
  subst hret
  obtain ⟨v, _, ⟨T', L', k', n'⟩, -, X', hs', hg', ⟨L, hq, l1, l2, l3⟩, q⟩ := X.specialBackS hx (y := y) hy1 hown (mvT hZ wl) (mvT hZ ws) (mvT hZ wc) hy (backW (W := (rest.map fun v => v.category).sum) hM hZ hPV wc wz hf hl) (g := mkF m pc Ls st) rfl hsize (Steps.refl _) (a := a) (argsL := argsL) (rest := rest) hlen hst (by show 2 * 0 + _ ≤ _; omega) (hb hby hd) (fun _ _ => ⟨has, eT, hc, hs⟩)
  dsimp only [Pt.U, Pt.locs, Pt.cells, Pt.slots] at X' hs' hg' l1 l2 l3 q hq
  subst l1 l2 l3
  obtain ⟨X2, hS2, hZ2, ho2⟩ := rebS hS (Nat.le_trans hkk (by rw [← eT]; exact Nat.le_refl _)) X' hs' hg' hZ hown
  exact Go.step (fun t r => q.trans r) (K v T' L X2 hS2 hZ2 ho2 hq)
theorem g_virtualW (X : Stand p l e R (s.setVm vm0) m args below meth c T locs k n) (hx : p.tables.exec = Jvm.exec) (hby : c.code = code) (hZ : Z.Warmed39 (s.setVm vm0).vm) {own : String} (hown : (s.setVm vm0).vm.findClass own = some m.cls) {C : String} {index : Nat} {z : MethodName} {y : MethodName} {bytes : ByteArray} {maxL : Nat} {ret : Option FieldType} {rm : Room} {as' : Array Value} {Q : Option Value → Heap → List Loc → Prop} {PV : Vm → Prop} (hM : MetFree l y (head1 [Cond.code y bytes maxL ret] rm) (fun a U => a = as' ∧ PV U.vm ∧ U.heap = h) (fun _ _ _ _ _ => True) (fun _ U o U' => RetW U Q rm.cells rm.slots U' o)) (hPV : ∀ vm, (s.setVm vm0).WarmedH vm → PV vm) (hS : s.Since vm0 k0) (hkk : k0 ≤ h.size) (wl : (Cond.methodLink own index z).before a0 Z = true) (wd : (Cond.declares z).before a0 Z = true) (hnf : NotFace (s.setVm vm0) z) (wsel : (Cond.selects C z y).before a0 Z = true) (ws : (Cond.instanceMethod y).before a0 Z = true) (wz : (Cond.initialized y.cls).before a0 Z = true) (wc : (Cond.code y bytes maxL ret).before a0 Z = true) (hy : z.cls ≠ "java/lang/invoke/MethodHandle" ∧ z.cls ≠ "java/lang/invoke/VarHandle") (eT : T.heap = h) {a : Addr} (E : Exa Z h a C) (hsize : Ls.size = c.maxLocals) (argsL : List Value) {rest : List Value} (hlen : ∀ sig, parseMethodDescriptor z.desc = some sig → argsL.length = sig.parameters.length) (has : (.ref a :: argsL).toArray = as') (hst : st = argsL.reverse ++ .ref a :: rest) (hf : rm.frames + 1 ≤ R.frames) (hl : (rest.map fun v => v.category).sum + (maxL + 11) + rm.locals ≤ R.locals) (hc : k + rm.cells ≤ R.cells) (hs : n + rm.slots ≤ R.slots) (hd : decode code pc = .ok (.invokevirtual index, 3)) (K : ∀ v T' L, Stand p l e R (s.setVm T'.vm) m args below meth c T' (locs ++ L) (k + rm.cells) (n + rm.slots) → s.Since T'.vm T'.heap.size → Z.Warmed39 (s.setVm T'.vm).vm → (s.setVm T'.vm).vm.findClass own = some m.cls → Q v T'.heap L → Go p e below G (T'.setTop (mkF m (pc + 3) Ls (v.toList ++ rest)))) : Go p e below G (T.setTop (mkF m pc Ls st)) := by
  obtain ⟨cq, kq, qa, qb, qc⟩ := isOf hZ eT E
  obtain ⟨v, _, ⟨T', L', k', n'⟩, -, X', hs', hg', ⟨L, hq, l1, l2, l3⟩, q⟩ := X.virtualBackS hx (y := z) (z := y) hown (mvT hZ wl) (mvT hZ wd) hnf (mvT hZ wsel) (mvT hZ ws) hy (backW (W := (rest.map fun v => v.category).sum) hM hZ hPV wc wz hf hl) qa qc (g := mkF m pc Ls st) rfl hsize (Steps.refl _) (argsL := argsL) (rest := rest) hlen hst (by show 2 * 0 + _ ≤ _; omega) (hb hby hd) (fun _ _ => ⟨has, eT, hc, hs⟩)
  dsimp only [Pt.U, Pt.locs, Pt.cells, Pt.slots] at X' hs' hg' l1 l2 l3 q hq
  subst l1 l2 l3
  obtain ⟨X2, hS2, hZ2, ho2⟩ := rebS hS (Nat.le_trans hkk (by rw [← eT]; exact Nat.le_refl _)) X' hs' hg' hZ hown
  exact Go.step (fun t r => q.trans r) (K v T' L X2 hS2 hZ2 ho2 hq)
end
end Jvm.Own

namespace Jvm.Pilot.@@N@@
open Jvm Jvm.ClassFile Sem Op Lib Jvm.Free Jvm.Stand Jvm.LawKit Jvm.RoadKit Bundle Jvm.Own Jvm.Pilot.@@N@@.Jvm.D


theorem own_nchar (x : Int32) : nar .char x = x.toUInt32.toUInt16.toUInt32.toInt32 := rfl
theorem own_nbyte (x : Int32) : nar .byte x = x.toInt8.toInt32 := rfl
theorem own_rng (x : Int32) : 0 ≤ (nar .char ((x &&& (255 : Int32)).toUInt32.toUInt16.toUInt32.toInt32)).toInt ∧ (nar .char ((x &&& (255 : Int32)).toUInt32.toUInt16.toUInt32.toInt32)).toInt ≤ 255 := by
  have h1 := c_mask x 255 8 (by decide) (by decide)
  have h2 := c_i2c (x &&& 255)
  have h3 := c_i2c ((x &&& 255).toUInt32.toUInt16.toUInt32.toInt32)
  rw [own_nchar]; omega
theorem own_nc {c : Int32} (h : 0 ≤ c.toInt ∧ c.toInt ≤ 255) : nar .char c = c := by
  have h1 := c_i2c c
  exact Int32.toInt_inj.mp (by rw [own_nchar]; omega)
theorem own_le {c : Int32} (h : 0 ≤ c.toInt ∧ c.toInt ≤ 255) : ¬ (255 : Int32) < nar .char c := by
  rw [own_nc h, Int32.lt_iff_toInt_lt]
  have e : (255 : Int32).toInt = 255 := rfl
  omega
theorem own_byte {c : Int32} (h : 0 ≤ c.toInt ∧ c.toInt ≤ 255) : nar .char (nar .char (((nar .byte ((nar .char c).toInt8.toInt32)) &&& (255 : Int32)).toUInt32.toUInt16.toUInt32.toInt32)) = c := by
  rw [own_nc h]
  have h1 := c_i2b c
  have h2 := c_i2b c.toInt8.toInt32
  have h3 := c_mask (nar .byte c.toInt8.toInt32) 255 8 (by decide) (by decide)
  rw [own_nbyte] at h3 ⊢
  have h4 := c_i2c (c.toInt8.toInt32.toInt8.toInt32 &&& 255)
  have h5 := c_i2c ((c.toInt8.toInt32.toInt8.toInt32 &&& 255).toUInt32.toUInt16.toUInt32.toInt32)
  have h6 := c_i2c ((c.toInt8.toInt32.toInt8.toInt32 &&& 255).toUInt32.toUInt16.toUInt32.toInt32.toUInt32.toUInt16.toUInt32.toInt32)
  exact Int32.toInt_inj.mp (by rw [own_nchar, own_nchar]; omega)
theorem own_and3 (x : Int32) : x &&& 3 = (0 : Int32) ∨ x &&& 3 = (1 : Int32) ∨ x &&& 3 = (2 : Int32) ∨ x &&& 3 = (3 : Int32) := by
  have h := c_mask x 3 2 (by decide) (by decide)
  generalize x &&& 3 = y at h
  have : y.toInt = 0 ∨ y.toInt = 1 ∨ y.toInt = 2 ∨ y.toInt = 3 := by omega
  rcases this with q | q | q | q
  · exact Or.inl (Int32.toInt_inj.mp q)
  · exact Or.inr (Or.inl (Int32.toInt_inj.mp q))
  · exact Or.inr (Or.inr (Or.inl (Int32.toInt_inj.mp q)))
  · exact Or.inr (Or.inr (Or.inr (Int32.toInt_inj.mp q)))
def own_min (a b : Int32) : Int32 := if b < a then b else a

theorem d3_0 : decode jdk_42_method_149_code 0 = .ok (.aload_n 0, 1) := by decide +kernel
theorem d3_1 : decode jdk_42_method_149_code 1 = .ok (.invokespecial 1, 3) := by decide +kernel
theorem d3_4 : decode jdk_42_method_149_code 4 = .ok (.iload_n 3, 1) := by decide +kernel
theorem d3_5 : decode jdk_42_method_149_code 5 = .ok (.ifCond .ne 22, 3) := by decide +kernel
theorem d3_8 : decode jdk_42_method_149_code 8 = .ok (.aload_n 0, 1) := by decide +kernel
theorem d3_9 : decode jdk_42_method_149_code 9 = .ok (.ldc 7, 2) := by decide +kernel
theorem d3_11 : decode jdk_42_method_149_code 11 = .ok (.getfield 9, 3) := by decide +kernel
theorem d3_14 : decode jdk_42_method_149_code 14 = .ok (.putfield 9, 3) := by decide +kernel
theorem d3_17 : decode jdk_42_method_149_code 17 = .ok (.aload_n 0, 1) := by decide +kernel
theorem d3_18 : decode jdk_42_method_149_code 18 = .ok (.ldc 7, 2) := by decide +kernel
theorem d3_20 : decode jdk_42_method_149_code 20 = .ok (.getfield 15, 3) := by decide +kernel
theorem d3_23 : decode jdk_42_method_149_code 23 = .ok (.putfield 15, 3) := by decide +kernel
theorem d3_26 : decode jdk_42_method_149_code 26 = .ok (.return_, 1) := by decide +kernel
theorem own_pn0 : plainName "java/lang/String" = true := by first | (simp [plainName, overriddenIn]; done) | decide +kernel
def Q_ini2_e (Z : State) (a : Addr) (ca : Addr) (kc : ClassId) (cvs : List Value) (cz : Int32) (h0 : Heap) (n0 : Nat) (v : Option Value) (h : Heap) (L : List Loc) : Prop := v = none ∧ Fr n0 L ∧ Keep h0 h [a] ∧ ∃ (b : Addr) (kb : ClassId), a ≠ b ∧ Exa Z h a "java/lang/String" ∧ Fld Z h a "java/lang/String" "coder" "B" (.int (0 : Int32)) ∧ Fld Z h a "java/lang/String" "value" "[B" (.ref b) ∧ Arv Z h b kb .byte (0 : Int32) [] (.int (0 : Int32))
set_option maxRecDepth 65536 in
set_option maxHeartbeats 40000000 in
theorem rm_ini2_e (l : Launch) (Z : State) (a0 : Array Value) (hw : ∀ d ∈ tables_1, d.before a0 Z = true) (ws : List Jvm.Cond) (a : Addr) (ca : Addr) (kc : ClassId) (cvs : List Value) (cz : Int32) (h0 : Heap) (n0 : Nat) (Z0 : n0 ≤ h0.size) (O2 : Sta Z Z.heap "java/lang/String" "COMPACT_STRINGS" "Z" (.int cz)) (P5 : ¬ cz = (0 : Int32)) (OLD : Old Z n0 h0) (hheld : Jvm.Lit.constHeld Z "java/lang/String" 7) (hcw : Jvm.Lit.compactW.before a0 Z = true) (E : Exa Z h0 a "java/lang/String") (FC : Fld Z h0 a "java/lang/String" "coder" "B" (.int (0 : Int32))) (FV : Fld Z h0 a "java/lang/String" "value" "[B" .null) (VC : Arv Z h0 ca kc .char (0 : Int32) cvs (.int (0 : Int32))) (ga : n0 ≤ a) :
    MetFree l (⟨"java/lang/String", "<init>", "([CIILjava/lang/Void;)V"⟩ : MethodName) (head1 (Jvm.Cond.code (⟨"java/lang/String", "<init>", "([CIILjava/lang/Void;)V"⟩ : MethodName) jdk_42_method_149_code 6 none :: ws) ({ frames := 1, cells := 2, slots := 4, locals := 12 } : Room)) (fun aa_ U => aa_ = #[(.ref a), (.ref ca), (.int (0 : Int32)), (.int (0 : Int32)), .null] ∧ (Z.Warmed39 U.vm ∧ U.vm.interned = Z.vm.interned) ∧ U.heap = h0) (fun _ _ _ _ _ => True) (fun _ U o_ U' => RetW U (Q_ini2_e Z a ca kc cvs cz h0 n0) 2 4 U' o_) := by
  refine MetFree.of_bodySF (plainFor_of_name own_pn0) hisR ?_
  intro p e s m args below meth c_ s₁ Bd hml0 hP hK
  obtain ⟨rfl, ⟨hZ, hI0⟩, hh⟩ := hP
  have hx := Bd.exec
  have hby := Bd.bytes
  have hml : c_.maxLocals = 6 := hml0
  have hS0 : s.Since s.vm 0 := (State.WarmedH.refl s).since 0
  have hown : s.vm.findClass "java/lang/String" = some m.cls := findClass_of_methodNamed Bd.named
  have hnm := (name_of_methodNamed Bd.named Bd.method).1
  have X0 : Stand p l e ({ frames := 1, cells := 2, slots := 4, locals := 12 } : Room) (s.setVm s.vm) m #[(.ref a), (.ref ca), (.int (0 : Int32)), (.int (0 : Int32)), .null] below meth c_ s₁ [] 0 0 := Stand.of_body Bd
  have e0 : s₁.heap = h0 := by rw [← hh, Bd.state]; rfl
  have N0 := Fr.nil n0
  have w6_ := hw _ (List.mem_of_getElem? (i := 6) rfl)
  have w15_ := hw _ (List.mem_of_getElem? (i := 15) rfl)
  have w16_ := hw _ (List.mem_of_getElem? (i := 16) rfl)
  have w17_ := hw _ (List.mem_of_getElem? (i := 17) rfl)
  have w18_ := hw _ (List.mem_of_getElem? (i := 18) rfl)
  have w20_ := hw _ (List.mem_of_getElem? (i := 20) rfl)
  have w21_ := hw _ (List.mem_of_getElem? (i := 21) rfl)
  have w24_ := hw _ (List.mem_of_getElem? (i := 24) rfl)
  have w25_ := hw _ (List.mem_of_getElem? (i := 25) rfl)
  have hkeep : ∀ (b : Addr) (cl : Cell), Z.heap[b]? = some cl → s.heap[b]? = some cl := fun b cl q => by rw [hh]; exact OLD.2.2 b cl q
  have wS : ∀ d ∈ Bundle.stringAtoms, d.before a0 Z = true := fun d hd => hw d ((by decide +kernel : ∀ d ∈ Bundle.stringAtoms, d ∈ tables_1) d hd)
  show Go p e below (RetW s (Q_ini2_e Z a ca kc cvs cz h0 n0) 2 4) (s₁.setTop (entryFrame m #[(.ref a), (.ref ca), (.int (0 : Int32)), (.int (0 : Int32)), .null] 6))
  rw [show entryFrame m #[(.ref a), (.ref ca), (.int (0 : Int32)), (.int (0 : Int32)), .null] 6 = mkF m 0 #[.val (.ref a), .val (.ref ca), .val (.int (0 : Int32)), .val (.int (0 : Int32)), .val .null, .unset] [] from by first | (simp [entryFrame, mkF, argsToLocals, Value.category]; done) | rfl]
  refine g_aloadN X0 hx hby d3_0 rfl rfl ?_
  refine g_initO X0 hx hby hZ hown w15_ w16_ w17_ e0 (by rw [hml]; rfl) (Nat.le_of_ble_eq_true rfl) (Nat.le_of_ble_eq_true rfl) d3_1 (fun T1 X1 e1 => ?_)
  refine g_iloadN X1 hx hby d3_4 rfl ?_
  refine g_ifN X1 hx hby d3_5 (teq (by decide : (0 : Int32) = (0 : Int32))).2 ?_
  refine g_aloadN X1 hx hby d3_8 rfl rfl ?_
  refine g_ldcSV X1 hx hby hZ hown w18_ wS e1 hS0 (Nat.zero_le _) (Fr.nil _) hkeep hI0 hheld hcw [] (0 : Int32) ⟨by decide, by decide⟩ (by decide) rfl 0 (by decide) (by decide) (by decide) (by decide) d3_9 (fun a2 T2 h2 kk2 t2 kt2 X2 e2 E2 hS2 hk2 hZ2 ho2 Es2 Cs2 Vs2 Bs2 Li2 => ?_)
  have ne3 : a2 ≠ a := (Fld.ne Vs2 (FV.ext E2) nofun)
  refine g_getF X2 hx hby hZ2 ho2 (host := "") (Or.inl w24_) Via.refl e2 Vs2 d3_11 (fun T4 X4 e4 => ?_)
  have f5 := (E.ext E2)
  have f6 := (FV.ext E2)
  refine g_putF X4 hx hby hZ2 ho2 (host := "") (Or.inl w24_) Via.refl e4 f6 f5 (Or.inr ⟨w20_, rfl, hnm⟩) w6_ (.array .byte) (by decide) rfl rfl N0 ga d3_14 (fun T7 h7 X7 e7 W7 F7 N7 => ?_)
  refine g_aloadN X7 hx hby d3_17 rfl rfl ?_
  refine g_ldcAgain X7 hx hby hZ2 ho2 w18_ Li2 d3_18 ?_
  have f8 := (Cs2.other W7 (Or.inl ne3))
  refine g_getF X7 hx hby hZ2 ho2 (host := "") (Or.inl w25_) Via.refl e7 f8 d3_20 (fun T9 X9 e9 => ?_)
  have f10 := (f5.wr W7)
  have f11 := ((FC.ext E2).other W7 (Or.inr (slot_ne (Or.inr w21_) (Or.inr w20_) (by decide) (t := .byte) (t' := (.array .byte)) (by decide) (by decide))))
  refine g_putFN X9 hx hby hZ2 ho2 w25_ Via.refl e9 f11 f10 (Or.inr ⟨w21_, rfl, hnm⟩) w6_ .byte (by decide) (.int (0 : Int32)) rfl rfl N7 ga d3_23 (fun T12 h12 X12 e12 W12 F12 N12 => ?_)
  have ne13 : a ≠ t2 := (Exa.neArv f5 Bs2 w6_)
  have f14 := (f10.wr W12)
  have f15 := (F7.other W12 (Or.inr (slot_ne (Or.inr w20_) (Or.inr w21_) (by decide) (t := (.array .byte)) (t' := .byte) (by decide) (by decide))))
  have f16 := ((Bs2.other W7 (Ne.symm ne13)).other W12 (Ne.symm ne13))
  refine g_retW X12 hx hby Bd.returns Bd.notSynchronized hS2 d3_26 e12 (Nat.le_trans hk2 (Nat.le_trans (Keep.of_wr W7).1 (Keep.of_wr W12).1)) (by decide) (by decide) ?_
  show (Q_ini2_e Z a ca kc cvs cz h0 n0) none _ _
  exact ⟨rfl, N12, ((((Keep.refl h0 [a]).ext E2).wr W7 (Or.inl (List.mem_of_getElem? (i := 0) rfl))).wr W12 (Or.inl (List.mem_of_getElem? (i := 0) rfl))), t2, kt2, ne13, f14, F12, f15, f16⟩

theorem d2_0 : decode jdk_42_method_3_code 0 = .ok (.aload_n 0, 1) := by decide +kernel
theorem d2_1 : decode jdk_42_method_3_code 1 = .ok (.aload_n 1, 1) := by decide +kernel
theorem d2_2 : decode jdk_42_method_3_code 2 = .ok (.iconst 0, 1) := by decide +kernel
theorem d2_3 : decode jdk_42_method_3_code 3 = .ok (.aload_n 1, 1) := by decide +kernel
theorem d2_4 : decode jdk_42_method_3_code 4 = .ok (.arraylength, 1) := by decide +kernel
theorem d2_5 : decode jdk_42_method_3_code 5 = .ok (.aconst_null, 1) := by decide +kernel
theorem d2_6 : decode jdk_42_method_3_code 6 = .ok (.invokespecial 27, 3) := by decide +kernel
theorem own_pd0 : parseMethodDescriptor "([CIILjava/lang/Void;)V" = some ⟨[(.array .char), .int, .int, (.object "java/lang/Void")], none⟩ := by decide +kernel
theorem d2_9 : decode jdk_42_method_3_code 9 = .ok (.return_, 1) := by decide +kernel
def Q_ini1_e (Z : State) (a : Addr) (ca : Addr) (kc : ClassId) (cvs : List Value) (cz : Int32) (h0 : Heap) (n0 : Nat) (v : Option Value) (h : Heap) (L : List Loc) : Prop := v = none ∧ Fr n0 L ∧ Keep h0 h [a] ∧ ∃ (b : Addr) (kb : ClassId), a ≠ b ∧ Exa Z h a "java/lang/String" ∧ Fld Z h a "java/lang/String" "coder" "B" (.int (0 : Int32)) ∧ Fld Z h a "java/lang/String" "value" "[B" (.ref b) ∧ Arv Z h b kb .byte (0 : Int32) [] (.int (0 : Int32))
set_option maxRecDepth 65536 in
set_option maxHeartbeats 40000000 in
theorem rm_ini1_e (l : Launch) (Z : State) (a0 : Array Value) (hw : ∀ d ∈ tables_1, d.before a0 Z = true) (ws : List Jvm.Cond) (a : Addr) (ca : Addr) (kc : ClassId) (cvs : List Value) (cz : Int32) (h0 : Heap) (n0 : Nat) (Z0 : n0 ≤ h0.size) (O2 : Sta Z Z.heap "java/lang/String" "COMPACT_STRINGS" "Z" (.int cz)) (P5 : ¬ cz = (0 : Int32)) (OLD : Old Z n0 h0) (hheld : Jvm.Lit.constHeld Z "java/lang/String" 7) (hcw : Jvm.Lit.compactW.before a0 Z = true) (E : Exa Z h0 a "java/lang/String") (FC : Fld Z h0 a "java/lang/String" "coder" "B" (.int (0 : Int32))) (FV : Fld Z h0 a "java/lang/String" "value" "[B" .null) (VC : Arv Z h0 ca kc .char (0 : Int32) cvs (.int (0 : Int32))) (ga : n0 ≤ a) :
    MetFree l (⟨"java/lang/String", "<init>", "([C)V"⟩ : MethodName) (head1 (Jvm.Cond.code (⟨"java/lang/String", "<init>", "([C)V"⟩ : MethodName) jdk_42_method_3_code 2 none :: ws) ({ frames := 2, cells := 2, slots := 4, locals := 29 } : Room)) (fun aa_ U => aa_ = #[(.ref a), (.ref ca)] ∧ (Z.Warmed39 U.vm ∧ U.vm.interned = Z.vm.interned) ∧ U.heap = h0) (fun _ _ _ _ _ => True) (fun _ U o_ U' => RetW U (Q_ini1_e Z a ca kc cvs cz h0 n0) 2 4 U' o_) := by
  refine MetFree.of_bodySF (plainFor_of_name own_pn0) hisR ?_
  intro p e s m args below meth c_ s₁ Bd hml0 hP hK
  obtain ⟨rfl, ⟨hZ, hI0⟩, hh⟩ := hP
  have hx := Bd.exec
  have hby := Bd.bytes
  have hml : c_.maxLocals = 2 := hml0
  have hS0 : s.Since s.vm 0 := (State.WarmedH.refl s).since 0
  have hown : s.vm.findClass "java/lang/String" = some m.cls := findClass_of_methodNamed Bd.named
  have hnm := (name_of_methodNamed Bd.named Bd.method).1
  have X0 : Stand p l e ({ frames := 2, cells := 2, slots := 4, locals := 29 } : Room) (s.setVm s.vm) m #[(.ref a), (.ref ca)] below meth c_ s₁ [] 0 0 := Stand.of_body Bd
  have e0 : s₁.heap = h0 := by rw [← hh, Bd.state]; rfl
  have N0 := Fr.nil n0
  have w7_ := hw _ (List.mem_of_getElem? (i := 7) rfl)
  have w11_ := hw _ (List.mem_of_getElem? (i := 11) rfl)
  have w12_ := hw _ (List.mem_of_getElem? (i := 12) rfl)
  have w14_ := hw _ (List.mem_of_getElem? (i := 14) rfl)
  show Go p e below (RetW s (Q_ini1_e Z a ca kc cvs cz h0 n0) 2 4) (s₁.setTop (entryFrame m #[(.ref a), (.ref ca)] 2))
  rw [show entryFrame m #[(.ref a), (.ref ca)] 2 = mkF m 0 #[.val (.ref a), .val (.ref ca)] [] from by first | (simp [entryFrame, mkF, argsToLocals, Value.category]; done) | rfl]
  refine g_aloadN X0 hx hby d2_0 rfl rfl ?_
  refine g_aloadN X0 hx hby d2_1 rfl rfl ?_
  refine g_iconst X0 hx hby (0 : Int32) d2_2 rfl ?_
  refine g_aloadN X0 hx hby d2_3 rfl rfl ?_
  refine g_arraylength X0 hx hby hZ e0 VC d2_4 ?_
  refine g_aconst_null X0 hx hby d2_5 ?_
  refine g_specialW X0 hx hby hZ hown (PV := fun vm => Z.Warmed39 vm ∧ vm.interned = Z.vm.interned) (rm_ini2_e l Z a0 hw [] a ca kc cvs cz h0 n0 Z0 O2 P5 OLD hheld hcw E FC FV VC ga) (fun _ q => ⟨State.Warmed39.trans hZ q.wide, q.interned_eq.trans hI0⟩) hS0 (Nat.zero_le _) rfl rfl w11_ w12_ w7_ w14_ (by decide) e0 (by rw [hml]; rfl) [(.ref ca), (.int (0 : Int32)), (.int (0 : Int32)), .null] (lenOf own_pd0 rfl) rfl rfl (Nat.le_of_ble_eq_true rfl) (Nat.le_of_ble_eq_true rfl) (Nat.le_of_ble_eq_true rfl) (Nat.le_of_ble_eq_true rfl) d2_6 (fun v1 T1 L1 X1 hS1 hZ1 ho1 hQ1 => ?_)
  obtain ⟨rfl, N1q, R1⟩ := hQ1
  have N1 := Fr.app N0 N1q
  refine g_retW X1 hx hby Bd.returns Bd.notSynchronized hS1 d2_9 rfl (Nat.le_refl _) (by decide) (by decide) ?_
  show (Q_ini1_e Z a ca kc cvs cz h0 n0) none _ _
  exact ⟨rfl, N1, R1⟩

theorem d1_0 : decode method_3_code 0 = .ok (.iload_n 0, 1) := by decide +kernel
theorem d1_1 : decode method_3_code 1 = .ok (.ifCond .ne 14, 3) := by decide +kernel
theorem d1_4 : decode method_3_code 4 = .ok (.new 26, 3) := by decide +kernel
theorem d1_7 : decode method_3_code 7 = .ok (.dup, 1) := by decide +kernel
theorem d1_8 : decode method_3_code 8 = .ok (.iconst 0, 1) := by decide +kernel
theorem d1_9 : decode method_3_code 9 = .ok (.newarray .char, 2) := by decide +kernel
theorem d1_11 : decode method_3_code 11 = .ok (.invokespecial 28, 3) := by decide +kernel
theorem own_pd1 : parseMethodDescriptor "([C)V" = some ⟨[(.array .char)], none⟩ := by decide +kernel
theorem d1_14 : decode method_3_code 14 = .ok (.areturn, 1) := by decide +kernel
theorem own_pn1 : plainName "com/example/pathloom/pathloom/web/ReaderAtEndPinLaw" = true := by first | (simp [plainName, overriddenIn]; done) | decide +kernel
def Q_text0 (Z : State) (al : Addr) (ka : ClassId) (c0 : Int32) (c1 : Int32) (c2 : Int32) (cz : Int32) (h0 : Heap) (n0 : Nat) (v : Option Value) (h : Heap) (L : List Loc) : Prop := Fr n0 L ∧ Keep h0 h [] ∧ ∃ (a b : Addr) (kb : ClassId), v = some (.ref a) ∧ h0.size ≤ a ∧ a ≠ b ∧ Exa Z h a "java/lang/String" ∧ Fld Z h a "java/lang/String" "coder" "B" (.int (0 : Int32)) ∧ Fld Z h a "java/lang/String" "value" "[B" (.ref b) ∧ Arv Z h b kb .byte (0 : Int32) [] (.int (0 : Int32))
set_option maxRecDepth 65536 in
set_option maxHeartbeats 40000000 in
theorem rm_text0 (l : Launch) (Z : State) (a0 : Array Value) (hw : ∀ d ∈ tables_1, d.before a0 Z = true) (ws : List Jvm.Cond) (al : Addr) (ka : ClassId) (c0 : Int32) (c1 : Int32) (c2 : Int32) (cz : Int32) (h0 : Heap) (n0 : Nat) (Z0 : n0 ≤ h0.size) (O2 : Sta Z Z.heap "java/lang/String" "COMPACT_STRINGS" "Z" (.int cz)) (P5 : ¬ cz = (0 : Int32)) (OLD : Old Z n0 h0) (VA : Arv Z h0 al ka .char (3 : Int32) [(.int c0), (.int c1), (.int c2)] (.int (0 : Int32))) (hc0 : 0 ≤ c0.toInt ∧ c0.toInt ≤ 255) (hc1 : 0 ≤ c1.toInt ∧ c1.toInt ≤ 255) (hc2 : 0 ≤ c2.toInt ∧ c2.toInt ≤ 255) (hheld : Jvm.Lit.constHeld Z "java/lang/String" 7) (hcw : Jvm.Lit.compactW.before a0 Z = true) :
    MetFree l (⟨"com/example/pathloom/pathloom/web/ReaderAtEndPinLaw", "text", "(I[C)Ljava/lang/String;"⟩ : MethodName) (head1 (Jvm.Cond.code (⟨"com/example/pathloom/pathloom/web/ReaderAtEndPinLaw", "text", "(I[C)Ljava/lang/String;"⟩ : MethodName) method_3_code 2 (some (.object "java/lang/String")) :: ws) ({ frames := 3, cells := 4, slots := 8, locals := 43 } : Room)) (fun aa_ U => aa_ = #[(.int (0 : Int32)), (.ref al)] ∧ (Z.Warmed39 U.vm ∧ U.vm.interned = Z.vm.interned) ∧ U.heap = h0) (fun _ _ _ _ _ => True) (fun _ U o_ U' => RetW U (Q_text0 Z al ka c0 c1 c2 cz h0 n0) 4 8 U' o_) := by
  refine MetFree.of_bodySF (plainFor_of_name own_pn1) hisR ?_
  intro p e s m args below meth c_ s₁ Bd hml0 hP hK
  obtain ⟨rfl, ⟨hZ, hI0⟩, hh⟩ := hP
  have hx := Bd.exec
  have hby := Bd.bytes
  have hml : c_.maxLocals = 2 := hml0
  have hS0 : s.Since s.vm 0 := (State.WarmedH.refl s).since 0
  have hown : s.vm.findClass "com/example/pathloom/pathloom/web/ReaderAtEndPinLaw" = some m.cls := findClass_of_methodNamed Bd.named
  have hnm := (name_of_methodNamed Bd.named Bd.method).1
  have X0 : Stand p l e ({ frames := 3, cells := 4, slots := 8, locals := 43 } : Room) (s.setVm s.vm) m #[(.int (0 : Int32)), (.ref al)] below meth c_ s₁ [] 0 0 := Stand.of_body Bd
  have e0 : s₁.heap = h0 := by rw [← hh, Bd.state]; rfl
  have N0 := Fr.nil n0
  have w0_ := hw _ (List.mem_of_getElem? (i := 0) rfl)
  have w5_ := hw _ (List.mem_of_getElem? (i := 5) rfl)
  have w6_ := hw _ (List.mem_of_getElem? (i := 6) rfl)
  have w7_ := hw _ (List.mem_of_getElem? (i := 7) rfl)
  have w8_ := hw _ (List.mem_of_getElem? (i := 8) rfl)
  have w9_ := hw _ (List.mem_of_getElem? (i := 9) rfl)
  have w10_ := hw _ (List.mem_of_getElem? (i := 10) rfl)
  have w20_ := hw _ (List.mem_of_getElem? (i := 20) rfl)
  have w21_ := hw _ (List.mem_of_getElem? (i := 21) rfl)
  show Go p e below (RetW s (Q_text0 Z al ka c0 c1 c2 cz h0 n0) 4 8) (s₁.setTop (entryFrame m #[(.int (0 : Int32)), (.ref al)] 2))
  rw [show entryFrame m #[(.int (0 : Int32)), (.ref al)] 2 = mkF m 0 #[.val (.int (0 : Int32)), .val (.ref al)] [] from by first | (simp [entryFrame, mkF, argsToLocals, Value.category]; done) | rfl]
  refine g_iloadN X0 hx hby d1_0 rfl ?_
  refine g_ifN X0 hx hby d1_1 (teq (by decide : (0 : Int32) = (0 : Int32))).2 ?_
  refine g_new X0 hx hby hZ hown w5_ w6_ w7_ e0 (by decide) (by decide) d1_4 (fun T1 h1 b1 g1 X1 e1 E1 A1 D1 => ?_)
  have F_value_b1 : Fld Z h1 b1 "java/lang/String" "value" "[B" .null := D1 (Or.inr w20_) (ty := (.array .byte)) (by decide)
  have F_coder_b1 : Fld Z h1 b1 "java/lang/String" "coder" "B" (.int (0 : Int32)) := D1 (Or.inr w21_) (ty := .byte) (by decide)
  refine g_dup X1 hx hby d1_7 rfl ?_
  refine g_iconst X1 hx hby (0 : Int32) d1_8 rfl ?_
  refine g_newarray X1 hx hby hZ .char .char (.int (0 : Int32)) [] rfl rfl w0_ e1 (by decide) 0 rfl (by decide) (by decide) (by decide) (by decide) d1_9 (fun T2 h2 k2 b2 g2 X2 e2 E2 V2 => ?_)
  have f4 := ((OLD.ext E1).ext E2)
  have f5 := (A1.ext E2)
  have f6 := (F_coder_b1.ext E2)
  have f7 := (F_value_b1.ext E2)
  have g_b1 : n0 ≤ b1 := Nat.le_trans Z0 (Nat.le_of_eq g1)
  have z8 := (Nat.le_trans Z0 (Nat.le_trans E1.1 E2.1))
  refine g_specialW X2 hx hby hZ hown (PV := fun vm => Z.Warmed39 vm ∧ vm.interned = Z.vm.interned) (rm_ini1_e l Z a0 hw [] b1 b2 k2 [] cz h2 n0 z8 O2 P5 f4 hheld hcw f5 f6 f7 V2 g_b1) (fun _ q => ⟨State.Warmed39.trans hZ q.wide, q.interned_eq.trans hI0⟩) hS0 (Nat.zero_le _) rfl rfl w8_ w9_ w7_ w10_ (by decide) e2 (by rw [hml]; rfl) [(.ref b2)] (lenOf own_pd1 rfl) rfl rfl (Nat.le_of_ble_eq_true rfl) (Nat.le_of_ble_eq_true rfl) (Nat.le_of_ble_eq_true rfl) (Nat.le_of_ble_eq_true rfl) d1_11 (fun v3 T3 L3 X3 hS3 hZ3 ho3 hQ3 => ?_)
  obtain ⟨rfl, N3q, K3, t3, kb3, nx3, Es3, Cs3, Vs3, Bs3⟩ := hQ3
  have N3 := Fr.app N0 N3q
  refine g_aretW X3 hx hby (t := (.object "java/lang/String")) rfl rfl rfl Bd.returns Bd.notSynchronized hS3 d1_14 rfl (Nat.le_refl _) (by decide) (by decide) ?_
  show (Q_text0 Z al ka c0 c1 c2 cz h0 n0) (some (.ref b1)) _ _
  exact ⟨N3, ((((Keep.refl h0 []).ext E1).ext E2).trans K3 (allS (Or.inr (Nat.le_trans (Nat.le_refl _) (Nat.le_of_eq g1))) all0)), b1, t3, kb3, rfl, (Nat.le_trans (Nat.le_refl _) (Nat.le_of_eq g1)), nx3, Es3, Cs3, Vs3, Bs3⟩

theorem d14_0 : decode jdk_52_method_21_code 0 = .ok (.iconst 0, 1) := by decide +kernel
theorem d14_1 : decode jdk_52_method_21_code 1 = .ok (.istore 5, 2) := by decide +kernel
theorem d14_3 : decode jdk_52_method_21_code 3 = .ok (.iload 5, 2) := by decide +kernel
theorem d14_5 : decode jdk_52_method_21_code 5 = .ok (.iload 4, 2) := by decide +kernel
theorem d14_7 : decode jdk_52_method_21_code 7 = .ok (.if_icmp .ge 37, 3) := by decide +kernel
theorem d14_10 : decode jdk_52_method_21_code 10 = .ok (.aload_n 0, 1) := by decide +kernel
theorem d14_11 : decode jdk_52_method_21_code 11 = .ok (.iload_n 1, 1) := by decide +kernel
theorem d14_12 : decode jdk_52_method_21_code 12 = .ok (.caload, 1) := by decide +kernel
theorem d14_13 : decode jdk_52_method_21_code 13 = .ok (.istore 6, 2) := by decide +kernel
theorem d14_15 : decode jdk_52_method_21_code 15 = .ok (.iload 6, 2) := by decide +kernel
theorem d14_17 : decode jdk_52_method_21_code 17 = .ok (.sipush 255, 3) := by decide +kernel
theorem d14_20 : decode jdk_52_method_21_code 20 = .ok (.if_icmp .le 6, 3) := by decide +kernel
theorem d14_26 : decode jdk_52_method_21_code 26 = .ok (.aload_n 2, 1) := by decide +kernel
theorem d14_27 : decode jdk_52_method_21_code 27 = .ok (.iload_n 3, 1) := by decide +kernel
theorem d14_28 : decode jdk_52_method_21_code 28 = .ok (.iload 6, 2) := by decide +kernel
theorem d14_30 : decode jdk_52_method_21_code 30 = .ok (.i2b, 1) := by decide +kernel
theorem d14_31 : decode jdk_52_method_21_code 31 = .ok (.bastore, 1) := by decide +kernel
theorem d14_32 : decode jdk_52_method_21_code 32 = .ok (.iinc 1 1, 3) := by decide +kernel
theorem d14_35 : decode jdk_52_method_21_code 35 = .ok (.iinc 3 1, 3) := by decide +kernel
theorem d14_38 : decode jdk_52_method_21_code 38 = .ok (.iinc 5 1, 3) := by decide +kernel
theorem d14_41 : decode jdk_52_method_21_code 41 = .ok (.goto (-38), 3) := by decide +kernel
theorem d14_44 : decode jdk_52_method_21_code 44 = .ok (.iload 4, 2) := by decide +kernel
theorem d14_46 : decode jdk_52_method_21_code 46 = .ok (.ireturn, 1) := by decide +kernel
theorem own_pn2 : plainName "java/lang/StringUTF16" = true := by first | (simp [plainName, overriddenIn]; done) | decide +kernel
def Q_cmp5_1 (Z : State) (ca : Addr) (ba : Addr) (kc : ClassId) (kb : ClassId) (c0 : Int32) (h0 : Heap) (n0 : Nat) (v : Option Value) (h : Heap) (L : List Loc) : Prop := v = some (.int (1 : Int32)) ∧ Fr n0 L ∧ Keep h0 h [ba] ∧ Arv Z h ba kb .byte (1 : Int32) [(.int (nar .byte (c0.toInt8.toInt32)))] (.int (0 : Int32))
set_option maxRecDepth 65536 in
set_option maxHeartbeats 40000000 in
theorem rm_cmp5_1 (l : Launch) (Z : State) (a0 : Array Value) (hw : ∀ d ∈ tables_1, d.before a0 Z = true) (ws : List Jvm.Cond) (ca : Addr) (ba : Addr) (kc : ClassId) (kb : ClassId) (c0 : Int32) (h0 : Heap) (n0 : Nat) (Z0 : n0 ≤ h0.size) (VC : Arv Z h0 ca kc .char (1 : Int32) [(.int c0)] (.int (0 : Int32))) (VB : Arv Z h0 ba kb .byte (1 : Int32) [(.int (0 : Int32))] (.int (0 : Int32))) (nab : ca ≠ ba) (gb : n0 ≤ ba) (hc0 : ¬ (255 : Int32) < c0) :
    MetFree l (⟨"java/lang/StringUTF16", "compress", "([CI[BII)I"⟩ : MethodName) (head1 (Jvm.Cond.code (⟨"java/lang/StringUTF16", "compress", "([CI[BII)I"⟩ : MethodName) jdk_52_method_21_code 7 (some .int) :: ws) ({ frames := 0, cells := 0, slots := 0, locals := 0 } : Room)) (fun aa_ U => aa_ = #[(.ref ca), (.int (0 : Int32)), (.ref ba), (.int (0 : Int32)), (.int (1 : Int32))] ∧ Z.Warmed39 U.vm ∧ U.heap = h0) (fun _ _ _ _ _ => True) (fun _ U o_ U' => RetG U (Q_cmp5_1 Z ca ba kc kb c0 h0 n0) 0 0 U' o_) := by
  refine MetFree.of_bodySF (plainFor_of_name own_pn2) hisR ?_
  intro p e s m args below meth c_ s₁ Bd hml0 hP hK
  obtain ⟨rfl, hZ, hh⟩ := hP
  have hx := Bd.exec
  have hby := Bd.bytes
  have hml : c_.maxLocals = 7 := hml0
  have hown : s.vm.findClass "java/lang/StringUTF16" = some m.cls := findClass_of_methodNamed Bd.named
  have hnm := (name_of_methodNamed Bd.named Bd.method).1
  have X0 : Stand p l e ({ frames := 0, cells := 0, slots := 0, locals := 0 } : Room) s m #[(.ref ca), (.int (0 : Int32)), (.ref ba), (.int (0 : Int32)), (.int (1 : Int32))] below meth c_ s₁ [] 0 0 := Stand.of_body Bd
  have e0 : s₁.heap = h0 := by rw [← hh, Bd.state]; rfl
  have N0 := Fr.nil n0
  show Go p e below (RetG s (Q_cmp5_1 Z ca ba kc kb c0 h0 n0) 0 0) (s₁.setTop (entryFrame m #[(.ref ca), (.int (0 : Int32)), (.ref ba), (.int (0 : Int32)), (.int (1 : Int32))] 7))
  rw [show entryFrame m #[(.ref ca), (.int (0 : Int32)), (.ref ba), (.int (0 : Int32)), (.int (1 : Int32))] 7 = mkF m 0 #[.val (.ref ca), .val (.int (0 : Int32)), .val (.ref ba), .val (.int (0 : Int32)), .val (.int (1 : Int32)), .unset, .unset] [] from by first | (simp [entryFrame, mkF, argsToLocals, Value.category]; done) | rfl]
  refine g_iconst X0 hx hby (0 : Int32) d14_0 rfl ?_
  refine g_istore X0 hx hby d14_1 (l' := #[.val (.ref ca), .val (.int (0 : Int32)), .val (.ref ba), .val (.int (0 : Int32)), .val (.int (1 : Int32)), .val (.int (0 : Int32)), .unset]) rfl ?_
  refine g_iload X0 hx hby d14_3 rfl ?_
  refine g_iload X0 hx hby d14_5 rfl ?_
  refine g_icN X0 hx hby d14_7 (tlt (by decide : (0 : Int32) < (1 : Int32))).2.1 ?_
  refine g_aloadN X0 hx hby d14_10 rfl rfl ?_
  refine g_iloadN X0 hx hby d14_11 rfl ?_
  refine g_caload X0 hx hby hZ e0 VC (.int c0) ⟨by decide, by decide⟩ rfl d14_12 ?_
  refine g_istore X0 hx hby d14_13 (l' := #[.val (.ref ca), .val (.int (0 : Int32)), .val (.ref ba), .val (.int (0 : Int32)), .val (.int (1 : Int32)), .val (.int (0 : Int32)), .val (.int c0)]) rfl ?_
  refine g_iload X0 hx hby d14_15 rfl ?_
  refine g_sipush X0 hx hby (255 : Int32) d14_17 rfl ?_
  refine g_icY X0 hx hby 26 d14_20 (flt (hc0 : ¬ ((255 : Int32) < c0))).2.2.2 (by decide) (by decide) ?_
  refine g_aloadN X0 hx hby d14_26 rfl rfl ?_
  refine g_iloadN X0 hx hby d14_27 rfl ?_
  refine g_iload X0 hx hby d14_28 rfl ?_
  refine g_i2b X0 hx hby d14_30 ?_
  refine g_bastore X0 hx hby hZ e0 VB 0 [(.int (nar .byte (c0.toInt8.toInt32)))] rfl ⟨by decide, by decide⟩ rfl (Nat.le_of_ble_eq_true rfl) N0 gb d14_31 (fun T1 h1 X1 e1 W1 V1 N1 => ?_)
  refine g_iinc X1 hx hby (1 : Int32) d14_32 rfl (by decide) (l' := #[.val (.ref ca), .val (.int (1 : Int32)), .val (.ref ba), .val (.int (0 : Int32)), .val (.int (1 : Int32)), .val (.int (0 : Int32)), .val (.int c0)]) rfl ?_
  refine g_iinc X1 hx hby (1 : Int32) d14_35 rfl (by decide) (l' := #[.val (.ref ca), .val (.int (1 : Int32)), .val (.ref ba), .val (.int (1 : Int32)), .val (.int (1 : Int32)), .val (.int (0 : Int32)), .val (.int c0)]) rfl ?_
  refine g_iinc X1 hx hby (1 : Int32) d14_38 rfl (by decide) (l' := #[.val (.ref ca), .val (.int (1 : Int32)), .val (.ref ba), .val (.int (1 : Int32)), .val (.int (1 : Int32)), .val (.int (1 : Int32)), .val (.int c0)]) rfl ?_
  refine g_goto X1 hx hby 3 d14_41 (by decide) (by decide) ?_
  refine g_iload X1 hx hby d14_3 rfl ?_
  refine g_iload X1 hx hby d14_5 rfl ?_
  refine g_icY X1 hx hby 44 d14_7 (flt (by decide : ¬ ((1 : Int32) < (1 : Int32)))).2.1 (by decide) (by decide) ?_
  refine g_iload X1 hx hby d14_44 rfl ?_
  refine g_iret X1 hx hby Bd.returns Bd.notSynchronized d14_46 e1 (by decide) (by decide) ?_
  show (Q_cmp5_1 Z ca ba kc kb c0 h0 n0) (some (.int (1 : Int32))) _ _
  exact ⟨rfl, N1, ((Keep.refl h0 [ba]).wr W1 (Or.inl (List.mem_of_getElem? (i := 0) rfl))), V1⟩

theorem d13_0 : decode jdk_52_method_16_code 0 = .ok (.iload_n 2, 1) := by decide +kernel
theorem d13_1 : decode jdk_52_method_16_code 1 = .ok (.newarray .byte, 2) := by decide +kernel
theorem d13_3 : decode jdk_52_method_16_code 3 = .ok (.astore_n 3, 1) := by decide +kernel
theorem d13_4 : decode jdk_52_method_16_code 4 = .ok (.aload_n 0, 1) := by decide +kernel
theorem d13_5 : decode jdk_52_method_16_code 5 = .ok (.iload_n 1, 1) := by decide +kernel
theorem d13_6 : decode jdk_52_method_16_code 6 = .ok (.aload_n 3, 1) := by decide +kernel
theorem d13_7 : decode jdk_52_method_16_code 7 = .ok (.iconst 0, 1) := by decide +kernel
theorem d13_8 : decode jdk_52_method_16_code 8 = .ok (.iload_n 2, 1) := by decide +kernel
theorem d13_9 : decode jdk_52_method_16_code 9 = .ok (.invokestatic 115, 3) := by decide +kernel
theorem own_pd2 : parseMethodDescriptor "([CI[BII)I" = some ⟨[(.array .char), .int, (.array .byte), .int, .int], some .int⟩ := by decide +kernel
theorem d13_12 : decode jdk_52_method_16_code 12 = .ok (.istore 4, 2) := by decide +kernel
theorem d13_14 : decode jdk_52_method_16_code 14 = .ok (.iload 4, 2) := by decide +kernel
theorem d13_16 : decode jdk_52_method_16_code 16 = .ok (.iload_n 2, 1) := by decide +kernel
theorem d13_17 : decode jdk_52_method_16_code 17 = .ok (.if_icmp .eq 40, 3) := by decide +kernel
theorem d13_57 : decode jdk_52_method_16_code 57 = .ok (.aload_n 3, 1) := by decide +kernel
theorem d13_58 : decode jdk_52_method_16_code 58 = .ok (.areturn, 1) := by decide +kernel
def Q_cmp_1 (Z : State) (ca : Addr) (kc : ClassId) (c0 : Int32) (h0 : Heap) (n0 : Nat) (v : Option Value) (h : Heap) (L : List Loc) : Prop := Fr n0 L ∧ Keep h0 h [] ∧ ∃ (b : Addr) (kb : ClassId), v = some (.ref b) ∧ h0.size ≤ b ∧ Arv Z h b kb .byte (1 : Int32) [(.int (nar .byte (c0.toInt8.toInt32)))] (.int (0 : Int32))
set_option maxRecDepth 65536 in
set_option maxHeartbeats 40000000 in
theorem rm_cmp_1 (l : Launch) (Z : State) (a0 : Array Value) (hw : ∀ d ∈ tables_1, d.before a0 Z = true) (ws : List Jvm.Cond) (ca : Addr) (kc : ClassId) (c0 : Int32) (h0 : Heap) (n0 : Nat) (Z0 : n0 ≤ h0.size) (VC : Arv Z h0 ca kc .char (1 : Int32) [(.int c0)] (.int (0 : Int32))) (hc0 : ¬ (255 : Int32) < c0) :
    MetFree l (⟨"java/lang/StringUTF16", "compress", "([CII)[B"⟩ : MethodName) (head1 (Jvm.Cond.code (⟨"java/lang/StringUTF16", "compress", "([CII)[B"⟩ : MethodName) jdk_52_method_16_code 6 (some (.array .byte)) :: ws) ({ frames := 1, cells := 1, slots := 1, locals := 18 } : Room)) (fun aa_ U => aa_ = #[(.ref ca), (.int (0 : Int32)), (.int (1 : Int32))] ∧ Z.Warmed39 U.vm ∧ U.heap = h0) (fun _ _ _ _ _ => True) (fun _ U o_ U' => RetG U (Q_cmp_1 Z ca kc c0 h0 n0) 1 1 U' o_) := by
  refine MetFree.of_bodySF (plainFor_of_name own_pn2) hisR ?_
  intro p e s m args below meth c_ s₁ Bd hml0 hP hK
  obtain ⟨rfl, hZ, hh⟩ := hP
  have hx := Bd.exec
  have hby := Bd.bytes
  have hml : c_.maxLocals = 6 := hml0
  have hown : s.vm.findClass "java/lang/StringUTF16" = some m.cls := findClass_of_methodNamed Bd.named
  have hnm := (name_of_methodNamed Bd.named Bd.method).1
  have X0 : Stand p l e ({ frames := 1, cells := 1, slots := 1, locals := 18 } : Room) s m #[(.ref ca), (.int (0 : Int32)), (.int (1 : Int32))] below meth c_ s₁ [] 0 0 := Stand.of_body Bd
  have e0 : s₁.heap = h0 := by rw [← hh, Bd.state]; rfl
  have N0 := Fr.nil n0
  have w19_ := hw _ (List.mem_of_getElem? (i := 19) rfl)
  have w73_ := hw _ (List.mem_of_getElem? (i := 73) rfl)
  have w75_ := hw _ (List.mem_of_getElem? (i := 75) rfl)
  have w76_ := hw _ (List.mem_of_getElem? (i := 76) rfl)
  have w77_ := hw _ (List.mem_of_getElem? (i := 77) rfl)
  show Go p e below (RetG s (Q_cmp_1 Z ca kc c0 h0 n0) 1 1) (s₁.setTop (entryFrame m #[(.ref ca), (.int (0 : Int32)), (.int (1 : Int32))] 6))
  rw [show entryFrame m #[(.ref ca), (.int (0 : Int32)), (.int (1 : Int32))] 6 = mkF m 0 #[.val (.ref ca), .val (.int (0 : Int32)), .val (.int (1 : Int32)), .unset, .unset, .unset] [] from by first | (simp [entryFrame, mkF, argsToLocals, Value.category]; done) | rfl]
  refine g_iloadN X0 hx hby d13_0 rfl ?_
  refine g_newarray X0 hx hby hZ .byte .byte (.int (0 : Int32)) [(.int (0 : Int32))] rfl rfl w19_ e0 (by decide) 1 rfl (by decide) (by decide) (by decide) (by decide) d13_1 (fun T1 h1 k1 b1 g1 X1 e1 E1 V1 => ?_)
  refine g_astoreN X1 hx hby d13_3 rfl (l' := #[.val (.ref ca), .val (.int (0 : Int32)), .val (.int (1 : Int32)), .val (.ref b1), .unset, .unset]) rfl ?_
  refine g_aloadN X1 hx hby d13_4 rfl rfl ?_
  refine g_iloadN X1 hx hby d13_5 rfl ?_
  refine g_aloadN X1 hx hby d13_6 rfl rfl ?_
  refine g_iconst X1 hx hby (0 : Int32) d13_7 rfl ?_
  refine g_iloadN X1 hx hby d13_8 rfl ?_
  have f3 := (VC.ext E1)
  have ne4 : ca ≠ b1 := (Nat.ne_of_lt (Nat.lt_of_lt_of_le VC.lt (Nat.le_of_eq g1)))
  have g_b1 : n0 ≤ b1 := Nat.le_trans Z0 (Nat.le_of_eq g1)
  have z5 := (Nat.le_trans Z0 E1.1)
  refine g_static X1 hx hby hZ hown (rm_cmp5_1 l Z a0 hw [] ca b1 kc k1 c0 h1 n0 z5 f3 V1 ne4 g_b1 hc0) w75_ w76_ w73_ w77_ (by decide) e1 (by rw [hml]; rfl) [(.ref ca), (.int (0 : Int32)), (.ref b1), (.int (0 : Int32)), (.int (1 : Int32))] (lenOf own_pd2 rfl) rfl rfl (Nat.le_of_ble_eq_true rfl) (Nat.le_of_ble_eq_true rfl) (Nat.le_of_ble_eq_true rfl) (Nat.le_of_ble_eq_true rfl) d13_9 (fun v2 T2 L2 X2 hQ2 => ?_)
  obtain ⟨rfl, N2q, K2, V2⟩ := hQ2
  have N2 := Fr.app N0 N2q
  refine g_istore X2 hx hby d13_12 (l' := #[.val (.ref ca), .val (.int (0 : Int32)), .val (.int (1 : Int32)), .val (.ref b1), .val (.int (1 : Int32)), .unset]) rfl ?_
  refine g_iload X2 hx hby d13_14 rfl ?_
  refine g_iloadN X2 hx hby d13_16 rfl ?_
  refine g_icY X2 hx hby 57 d13_17 (teq (by decide : (1 : Int32) = (1 : Int32))).1 (by decide) (by decide) ?_
  refine g_aloadN X2 hx hby d13_57 rfl rfl ?_
  refine g_aret X2 hx hby (t := (.array .byte)) rfl rfl rfl Bd.returns Bd.notSynchronized d13_58 rfl (by decide) (by decide) ?_
  show (Q_cmp_1 Z ca kc c0 h0 n0) (some (.ref b1)) _ _
  exact ⟨N2, (((Keep.refl h0 []).ext E1).trans K2 (allS (Or.inr (Nat.le_trans (Nat.le_refl _) (Nat.le_of_eq g1))) all0)), b1, k1, rfl, (Nat.le_trans (Nat.le_refl _) (Nat.le_of_eq g1)), V2⟩

theorem d15_0 : decode jdk_52_method_15_code 0 = .ok (.iload_n 1, 1) := by decide +kernel
theorem d15_1 : decode jdk_52_method_15_code 1 = .ok (.aload_n 0, 1) := by decide +kernel
theorem d15_2 : decode jdk_52_method_15_code 2 = .ok (.arraylength, 1) := by decide +kernel
theorem d15_3 : decode jdk_52_method_15_code 3 = .ok (.isub, 1) := by decide +kernel
theorem d15_4 : decode jdk_52_method_15_code 4 = .ok (.bipush 31, 2) := by decide +kernel
theorem d15_6 : decode jdk_52_method_15_code 6 = .ok (.iushr, 1) := by decide +kernel
theorem d15_7 : decode jdk_52_method_15_code 7 = .ok (.i2b, 1) := by decide +kernel
theorem d15_8 : decode jdk_52_method_15_code 8 = .ok (.ireturn, 1) := by decide +kernel
def Q_cfal_1_1 (Z : State) (ba : Addr) (kb : ClassId) (bs : List Value) (h0 : Heap) (n0 : Nat) (v : Option Value) (h : Heap) (L : List Loc) : Prop := v = some (.int (0 : Int32)) ∧ Fr n0 L ∧ h = h0
set_option maxRecDepth 65536 in
set_option maxHeartbeats 40000000 in
theorem rm_cfal_1_1 (l : Launch) (Z : State) (a0 : Array Value) (hw : ∀ d ∈ tables_1, d.before a0 Z = true) (ws : List Jvm.Cond) (ba : Addr) (kb : ClassId) (bs : List Value) (h0 : Heap) (n0 : Nat) (Z0 : n0 ≤ h0.size) (VB : Arv Z h0 ba kb .byte (1 : Int32) bs (.int (0 : Int32))) :
    MetFree l (⟨"java/lang/StringUTF16", "coderFromArrayLen", "([BI)B"⟩ : MethodName) (head1 (Jvm.Cond.code (⟨"java/lang/StringUTF16", "coderFromArrayLen", "([BI)B"⟩ : MethodName) jdk_52_method_15_code 2 (some .byte) :: ws) ({ frames := 0, cells := 0, slots := 0, locals := 0 } : Room)) (fun aa_ U => aa_ = #[(.ref ba), (.int (1 : Int32))] ∧ Z.Warmed39 U.vm ∧ U.heap = h0) (fun _ _ _ _ _ => True) (fun _ U o_ U' => RetG U (Q_cfal_1_1 Z ba kb bs h0 n0) 0 0 U' o_) := by
  refine MetFree.of_bodySF (plainFor_of_name own_pn2) hisR ?_
  intro p e s m args below meth c_ s₁ Bd hml0 hP hK
  obtain ⟨rfl, hZ, hh⟩ := hP
  have hx := Bd.exec
  have hby := Bd.bytes
  have hml : c_.maxLocals = 2 := hml0
  have hown : s.vm.findClass "java/lang/StringUTF16" = some m.cls := findClass_of_methodNamed Bd.named
  have hnm := (name_of_methodNamed Bd.named Bd.method).1
  have X0 : Stand p l e ({ frames := 0, cells := 0, slots := 0, locals := 0 } : Room) s m #[(.ref ba), (.int (1 : Int32))] below meth c_ s₁ [] 0 0 := Stand.of_body Bd
  have e0 : s₁.heap = h0 := by rw [← hh, Bd.state]; rfl
  have N0 := Fr.nil n0
  show Go p e below (RetG s (Q_cfal_1_1 Z ba kb bs h0 n0) 0 0) (s₁.setTop (entryFrame m #[(.ref ba), (.int (1 : Int32))] 2))
  rw [show entryFrame m #[(.ref ba), (.int (1 : Int32))] 2 = mkF m 0 #[.val (.ref ba), .val (.int (1 : Int32))] [] from by first | (simp [entryFrame, mkF, argsToLocals, Value.category]; done) | rfl]
  refine g_iloadN X0 hx hby d15_0 rfl ?_
  refine g_aloadN X0 hx hby d15_1 rfl rfl ?_
  refine g_arraylength X0 hx hby hZ e0 VB d15_2 ?_
  refine g_isub X0 hx hby d15_3 ?_
  refine g_topI (0 : Int32) (by decide) ?_
  refine g_bipush X0 hx hby (31 : Int32) d15_4 rfl ?_
  refine g_iushr X0 hx hby d15_6 ?_
  refine g_topI (0 : Int32) (by decide) ?_
  refine g_i2b X0 hx hby d15_7 ?_
  refine g_topI (0 : Int32) (by decide) ?_
  refine g_nret X0 hx hby (t := .byte) (by simp) Bd.returns Bd.notSynchronized d15_8 e0 (by decide) (by decide) ?_
  show (Q_cfal_1_1 Z ba kb bs h0 n0) (some (.int (0 : Int32))) _ _
  exact ⟨rfl, N0, rfl⟩

theorem d3_27 : decode jdk_42_method_149_code 27 = .ok (.getstatic 38, 3) := by decide +kernel
theorem d3_30 : decode jdk_42_method_149_code 30 = .ok (.ifCond .eq 28, 3) := by decide +kernel
theorem d3_33 : decode jdk_42_method_149_code 33 = .ok (.aload_n 1, 1) := by decide +kernel
theorem d3_34 : decode jdk_42_method_149_code 34 = .ok (.iload_n 2, 1) := by decide +kernel
theorem d3_35 : decode jdk_42_method_149_code 35 = .ok (.iload_n 3, 1) := by decide +kernel
theorem d3_36 : decode jdk_42_method_149_code 36 = .ok (.invokestatic 177, 3) := by decide +kernel
theorem own_pd3 : parseMethodDescriptor "([CII)[B" = some ⟨[(.array .char), .int, .int], some (.array .byte)⟩ := by decide +kernel
theorem d3_39 : decode jdk_42_method_149_code 39 = .ok (.astore 5, 2) := by decide +kernel
theorem d3_41 : decode jdk_42_method_149_code 41 = .ok (.aload_n 0, 1) := by decide +kernel
theorem d3_42 : decode jdk_42_method_149_code 42 = .ok (.aload 5, 2) := by decide +kernel
theorem d3_44 : decode jdk_42_method_149_code 44 = .ok (.iload_n 3, 1) := by decide +kernel
theorem d3_45 : decode jdk_42_method_149_code 45 = .ok (.invokestatic 47, 3) := by decide +kernel
theorem own_pd4 : parseMethodDescriptor "([BI)B" = some ⟨[(.array .byte), .int], some .byte⟩ := by decide +kernel
theorem d3_48 : decode jdk_42_method_149_code 48 = .ok (.putfield 15, 3) := by decide +kernel
theorem d3_51 : decode jdk_42_method_149_code 51 = .ok (.aload_n 0, 1) := by decide +kernel
theorem d3_52 : decode jdk_42_method_149_code 52 = .ok (.aload 5, 2) := by decide +kernel
theorem d3_54 : decode jdk_42_method_149_code 54 = .ok (.putfield 9, 3) := by decide +kernel
theorem d3_57 : decode jdk_42_method_149_code 57 = .ok (.return_, 1) := by decide +kernel
def Q_ini2_1 (Z : State) (a : Addr) (ca : Addr) (kc : ClassId) (c0 : Int32) (cz : Int32) (h0 : Heap) (n0 : Nat) (v : Option Value) (h : Heap) (L : List Loc) : Prop := v = none ∧ Fr n0 L ∧ Keep h0 h [a] ∧ ∃ (b : Addr) (kb : ClassId), h0.size ≤ b ∧ Exa Z h a "java/lang/String" ∧ Fld Z h a "java/lang/String" "coder" "B" (.int (0 : Int32)) ∧ Fld Z h a "java/lang/String" "value" "[B" (.ref b) ∧ Arv Z h b kb .byte (1 : Int32) [(.int (nar .byte (c0.toInt8.toInt32)))] (.int (0 : Int32))
set_option maxRecDepth 65536 in
set_option maxHeartbeats 40000000 in
theorem rm_ini2_1 (l : Launch) (Z : State) (a0 : Array Value) (hw : ∀ d ∈ tables_1, d.before a0 Z = true) (ws : List Jvm.Cond) (a : Addr) (ca : Addr) (kc : ClassId) (c0 : Int32) (cz : Int32) (h0 : Heap) (n0 : Nat) (Z0 : n0 ≤ h0.size) (O2 : Sta Z Z.heap "java/lang/String" "COMPACT_STRINGS" "Z" (.int cz)) (P5 : ¬ cz = (0 : Int32)) (OLD : Old Z n0 h0) (E : Exa Z h0 a "java/lang/String") (FC : Fld Z h0 a "java/lang/String" "coder" "B" (.int (0 : Int32))) (FV : Fld Z h0 a "java/lang/String" "value" "[B" .null) (VC : Arv Z h0 ca kc .char (1 : Int32) [(.int c0)] (.int (0 : Int32))) (ga : n0 ≤ a) (hc0 : ¬ (255 : Int32) < c0) :
    MetFree l (⟨"java/lang/String", "<init>", "([CIILjava/lang/Void;)V"⟩ : MethodName) (head1 (Jvm.Cond.code (⟨"java/lang/String", "<init>", "([CIILjava/lang/Void;)V"⟩ : MethodName) jdk_42_method_149_code 6 none :: ws) ({ frames := 2, cells := 1, slots := 1, locals := 35 } : Room)) (fun aa_ U => aa_ = #[(.ref a), (.ref ca), (.int (0 : Int32)), (.int (1 : Int32)), .null] ∧ Z.Warmed39 U.vm ∧ U.heap = h0) (fun _ _ _ _ _ => True) (fun _ U o_ U' => RetG U (Q_ini2_1 Z a ca kc c0 cz h0 n0) 1 1 U' o_) := by
  refine MetFree.of_bodySF (plainFor_of_name own_pn0) hisR ?_
  intro p e s m args below meth c_ s₁ Bd hml0 hP hK
  obtain ⟨rfl, hZ, hh⟩ := hP
  have hx := Bd.exec
  have hby := Bd.bytes
  have hml : c_.maxLocals = 6 := hml0
  have hown : s.vm.findClass "java/lang/String" = some m.cls := findClass_of_methodNamed Bd.named
  have hnm := (name_of_methodNamed Bd.named Bd.method).1
  have X0 : Stand p l e ({ frames := 2, cells := 1, slots := 1, locals := 35 } : Room) s m #[(.ref a), (.ref ca), (.int (0 : Int32)), (.int (1 : Int32)), .null] below meth c_ s₁ [] 0 0 := Stand.of_body Bd
  have e0 : s₁.heap = h0 := by rw [← hh, Bd.state]; rfl
  have N0 := Fr.nil n0
  have w6_ := hw _ (List.mem_of_getElem? (i := 6) rfl)
  have w15_ := hw _ (List.mem_of_getElem? (i := 15) rfl)
  have w16_ := hw _ (List.mem_of_getElem? (i := 16) rfl)
  have w17_ := hw _ (List.mem_of_getElem? (i := 17) rfl)
  have w20_ := hw _ (List.mem_of_getElem? (i := 20) rfl)
  have w21_ := hw _ (List.mem_of_getElem? (i := 21) rfl)
  have w24_ := hw _ (List.mem_of_getElem? (i := 24) rfl)
  have w25_ := hw _ (List.mem_of_getElem? (i := 25) rfl)
  have w52_ := hw _ (List.mem_of_getElem? (i := 52) rfl)
  have w71_ := hw _ (List.mem_of_getElem? (i := 71) rfl)
  have w72_ := hw _ (List.mem_of_getElem? (i := 72) rfl)
  have w73_ := hw _ (List.mem_of_getElem? (i := 73) rfl)
  have w74_ := hw _ (List.mem_of_getElem? (i := 74) rfl)
  have w78_ := hw _ (List.mem_of_getElem? (i := 78) rfl)
  have w79_ := hw _ (List.mem_of_getElem? (i := 79) rfl)
  have w80_ := hw _ (List.mem_of_getElem? (i := 80) rfl)
  show Go p e below (RetG s (Q_ini2_1 Z a ca kc c0 cz h0 n0) 1 1) (s₁.setTop (entryFrame m #[(.ref a), (.ref ca), (.int (0 : Int32)), (.int (1 : Int32)), .null] 6))
  rw [show entryFrame m #[(.ref a), (.ref ca), (.int (0 : Int32)), (.int (1 : Int32)), .null] 6 = mkF m 0 #[.val (.ref a), .val (.ref ca), .val (.int (0 : Int32)), .val (.int (1 : Int32)), .val .null, .unset] [] from by first | (simp [entryFrame, mkF, argsToLocals, Value.category]; done) | rfl]
  refine g_aloadN X0 hx hby d3_0 rfl rfl ?_
  refine g_initO X0 hx hby hZ hown w15_ w16_ w17_ e0 (by rw [hml]; rfl) (Nat.le_of_ble_eq_true rfl) (Nat.le_of_ble_eq_true rfl) d3_1 (fun T1 X1 e1 => ?_)
  refine g_iloadN X1 hx hby d3_4 rfl ?_
  refine g_ifY X1 hx hby 27 d3_5 (feq (by decide : ¬ ((1 : Int32) = (0 : Int32)))).2 (by decide) (by decide) ?_
  refine g_getS X1 hx hby hZ hown (host := "") (Or.inl w52_) Via.refl e1 (O2.ext OLD.2) d3_27 (fun T2 X2 e2 => ?_)
  refine g_ifN X2 hx hby d3_30 (feq (P5 : ¬ (cz = (0 : Int32)))).1 ?_
  refine g_aloadN X2 hx hby d3_33 rfl rfl ?_
  refine g_iloadN X2 hx hby d3_34 rfl ?_
  refine g_iloadN X2 hx hby d3_35 rfl ?_
  refine g_static X2 hx hby hZ hown (rm_cmp_1 l Z a0 hw [] ca kc c0 h0 n0 Z0 VC hc0) w71_ w72_ w73_ w74_ (by decide) e2 (by rw [hml]; rfl) [(.ref ca), (.int (0 : Int32)), (.int (1 : Int32))] (lenOf own_pd3 rfl) rfl rfl (Nat.le_of_ble_eq_true rfl) (Nat.le_of_ble_eq_true rfl) (Nat.le_of_ble_eq_true rfl) (Nat.le_of_ble_eq_true rfl) d3_36 (fun v3 T3 L3 X3 hQ3 => ?_)
  obtain ⟨N3q, K3, bb, kb, rfl, lob, Vb⟩ := hQ3
  have N3 := Fr.app N0 N3q
  refine g_astore X3 hx hby d3_39 rfl (l' := #[.val (.ref a), .val (.ref ca), .val (.int (0 : Int32)), .val (.int (1 : Int32)), .val .null, .val (.ref bb)]) rfl ?_
  refine g_aloadN X3 hx hby d3_41 rfl rfl ?_
  refine g_aload X3 hx hby d3_42 rfl rfl ?_
  refine g_iloadN X3 hx hby d3_44 rfl ?_
  have z5 := (Nat.le_trans Z0 K3.1)
  refine g_static X3 hx hby hZ hown (rm_cfal_1_1 l Z a0 hw [] bb kb [(.int (nar .byte (c0.toInt8.toInt32)))] T3.heap n0 z5 Vb) w78_ w79_ w73_ w80_ (by decide) rfl (by rw [hml]; rfl) [(.ref bb), (.int (1 : Int32))] (lenOf own_pd4 rfl) rfl rfl (Nat.le_of_ble_eq_true rfl) (Nat.le_of_ble_eq_true rfl) (Nat.le_of_ble_eq_true rfl) (Nat.le_of_ble_eq_true rfl) d3_45 (fun v4 T4 L4 X4 hQ4 => ?_)
  obtain ⟨rfl, N4q, eh4⟩ := hQ4
  have N4 := Fr.app N3 N4q
  have f6 := (E.keep K3)
  have f7 := (FC.keep K3 nin0)
  refine g_putFN X4 hx hby hZ hown w25_ Via.refl eh4 f7 f6 (Or.inr ⟨w21_, rfl, hnm⟩) w6_ .byte (by decide) (.int (0 : Int32)) rfl rfl N4 ga d3_48 (fun T8 h8 X8 e8 W8 F8 N8 => ?_)
  refine g_aloadN X8 hx hby d3_51 rfl rfl ?_
  refine g_aload X8 hx hby d3_52 rfl rfl ?_
  have f9 := (f6.wr W8)
  have f10 := ((FV.keep K3 nin0).other W8 (Or.inr (slot_ne (Or.inr w20_) (Or.inr w21_) (by decide) (t := (.array .byte)) (t' := .byte) (by decide) (by decide))))
  refine g_putF X8 hx hby hZ hown (host := "") (Or.inl w24_) Via.refl e8 f10 f9 (Or.inr ⟨w20_, rfl, hnm⟩) w6_ (.array .byte) (by decide) rfl rfl N8 ga d3_54 (fun T11 h11 X11 e11 W11 F11 N11 => ?_)
  have f12 := (f9.wr W11)
  have f13 := (F8.other W11 (Or.inr (slot_ne (Or.inr w21_) (Or.inr w20_) (by decide) (t := .byte) (t' := (.array .byte)) (by decide) (by decide))))
  have ne14 : bb ≠ a := (Ne.symm (Nat.ne_of_lt (Nat.lt_of_lt_of_le E.lt lob)))
  have f15 := ((Vb.other W8 ne14).other W11 ne14)
  refine g_ret X11 hx hby Bd.returns Bd.notSynchronized d3_57 e11 (by decide) (by decide) ?_
  show (Q_ini2_1 Z a ca kc c0 cz h0 n0) none _ _
  exact ⟨rfl, N11, ((((Keep.refl h0 [a]).trans K3 all0).wr W8 (Or.inl (List.mem_of_getElem? (i := 0) rfl))).wr W11 (Or.inl (List.mem_of_getElem? (i := 0) rfl))), bb, kb, (Nat.le_trans (Nat.le_refl _) lob), f12, f13, F11, f15⟩

def Q_ini1_1 (Z : State) (a : Addr) (ca : Addr) (kc : ClassId) (c0 : Int32) (cz : Int32) (h0 : Heap) (n0 : Nat) (v : Option Value) (h : Heap) (L : List Loc) : Prop := v = none ∧ Fr n0 L ∧ Keep h0 h [a] ∧ ∃ (b : Addr) (kb : ClassId), h0.size ≤ b ∧ Exa Z h a "java/lang/String" ∧ Fld Z h a "java/lang/String" "coder" "B" (.int (0 : Int32)) ∧ Fld Z h a "java/lang/String" "value" "[B" (.ref b) ∧ Arv Z h b kb .byte (1 : Int32) [(.int (nar .byte (c0.toInt8.toInt32)))] (.int (0 : Int32))
set_option maxRecDepth 65536 in
set_option maxHeartbeats 40000000 in
theorem rm_ini1_1 (l : Launch) (Z : State) (a0 : Array Value) (hw : ∀ d ∈ tables_1, d.before a0 Z = true) (ws : List Jvm.Cond) (a : Addr) (ca : Addr) (kc : ClassId) (c0 : Int32) (cz : Int32) (h0 : Heap) (n0 : Nat) (Z0 : n0 ≤ h0.size) (O2 : Sta Z Z.heap "java/lang/String" "COMPACT_STRINGS" "Z" (.int cz)) (P5 : ¬ cz = (0 : Int32)) (OLD : Old Z n0 h0) (E : Exa Z h0 a "java/lang/String") (FC : Fld Z h0 a "java/lang/String" "coder" "B" (.int (0 : Int32))) (FV : Fld Z h0 a "java/lang/String" "value" "[B" .null) (VC : Arv Z h0 ca kc .char (1 : Int32) [(.int c0)] (.int (0 : Int32))) (ga : n0 ≤ a) (hc0 : ¬ (255 : Int32) < c0) :
    MetFree l (⟨"java/lang/String", "<init>", "([C)V"⟩ : MethodName) (head1 (Jvm.Cond.code (⟨"java/lang/String", "<init>", "([C)V"⟩ : MethodName) jdk_42_method_3_code 2 none :: ws) ({ frames := 3, cells := 1, slots := 1, locals := 52 } : Room)) (fun aa_ U => aa_ = #[(.ref a), (.ref ca)] ∧ Z.Warmed39 U.vm ∧ U.heap = h0) (fun _ _ _ _ _ => True) (fun _ U o_ U' => RetG U (Q_ini1_1 Z a ca kc c0 cz h0 n0) 1 1 U' o_) := by
  refine MetFree.of_bodySF (plainFor_of_name own_pn0) hisR ?_
  intro p e s m args below meth c_ s₁ Bd hml0 hP hK
  obtain ⟨rfl, hZ, hh⟩ := hP
  have hx := Bd.exec
  have hby := Bd.bytes
  have hml : c_.maxLocals = 2 := hml0
  have hown : s.vm.findClass "java/lang/String" = some m.cls := findClass_of_methodNamed Bd.named
  have hnm := (name_of_methodNamed Bd.named Bd.method).1
  have X0 : Stand p l e ({ frames := 3, cells := 1, slots := 1, locals := 52 } : Room) s m #[(.ref a), (.ref ca)] below meth c_ s₁ [] 0 0 := Stand.of_body Bd
  have e0 : s₁.heap = h0 := by rw [← hh, Bd.state]; rfl
  have N0 := Fr.nil n0
  have w7_ := hw _ (List.mem_of_getElem? (i := 7) rfl)
  have w11_ := hw _ (List.mem_of_getElem? (i := 11) rfl)
  have w12_ := hw _ (List.mem_of_getElem? (i := 12) rfl)
  have w14_ := hw _ (List.mem_of_getElem? (i := 14) rfl)
  show Go p e below (RetG s (Q_ini1_1 Z a ca kc c0 cz h0 n0) 1 1) (s₁.setTop (entryFrame m #[(.ref a), (.ref ca)] 2))
  rw [show entryFrame m #[(.ref a), (.ref ca)] 2 = mkF m 0 #[.val (.ref a), .val (.ref ca)] [] from by first | (simp [entryFrame, mkF, argsToLocals, Value.category]; done) | rfl]
  refine g_aloadN X0 hx hby d2_0 rfl rfl ?_
  refine g_aloadN X0 hx hby d2_1 rfl rfl ?_
  refine g_iconst X0 hx hby (0 : Int32) d2_2 rfl ?_
  refine g_aloadN X0 hx hby d2_3 rfl rfl ?_
  refine g_arraylength X0 hx hby hZ e0 VC d2_4 ?_
  refine g_aconst_null X0 hx hby d2_5 ?_
  refine g_special X0 hx hby hZ hown (rm_ini2_1 l Z a0 hw [] a ca kc c0 cz h0 n0 Z0 O2 P5 OLD E FC FV VC ga hc0) rfl rfl w11_ w12_ w7_ w14_ (by decide) e0 (by rw [hml]; rfl) [(.ref ca), (.int (0 : Int32)), (.int (1 : Int32)), .null] (lenOf own_pd0 rfl) rfl rfl (Nat.le_of_ble_eq_true rfl) (Nat.le_of_ble_eq_true rfl) (Nat.le_of_ble_eq_true rfl) (Nat.le_of_ble_eq_true rfl) d2_6 (fun v1 T1 L1 X1 hQ1 => ?_)
  obtain ⟨rfl, N1q, R1⟩ := hQ1
  have N1 := Fr.app N0 N1q
  refine g_ret X1 hx hby Bd.returns Bd.notSynchronized d2_9 rfl (by decide) (by decide) ?_
  show (Q_ini1_1 Z a ca kc c0 cz h0 n0) none _ _
  exact ⟨rfl, N1, R1⟩

theorem d1_15 : decode method_3_code 15 = .ok (.iload_n 0, 1) := by decide +kernel
theorem d1_16 : decode method_3_code 16 = .ok (.iconst 1, 1) := by decide +kernel
theorem d1_17 : decode method_3_code 17 = .ok (.if_icmp .ne 20, 3) := by decide +kernel
theorem d1_20 : decode method_3_code 20 = .ok (.new 26, 3) := by decide +kernel
theorem d1_23 : decode method_3_code 23 = .ok (.dup, 1) := by decide +kernel
theorem d1_24 : decode method_3_code 24 = .ok (.iconst 1, 1) := by decide +kernel
theorem d1_25 : decode method_3_code 25 = .ok (.newarray .char, 2) := by decide +kernel
theorem d1_27 : decode method_3_code 27 = .ok (.dup, 1) := by decide +kernel
theorem d1_28 : decode method_3_code 28 = .ok (.iconst 0, 1) := by decide +kernel
theorem d1_29 : decode method_3_code 29 = .ok (.aload_n 1, 1) := by decide +kernel
theorem d1_30 : decode method_3_code 30 = .ok (.iconst 0, 1) := by decide +kernel
theorem d1_31 : decode method_3_code 31 = .ok (.caload, 1) := by decide +kernel
theorem d1_32 : decode method_3_code 32 = .ok (.castore, 1) := by decide +kernel
theorem d1_33 : decode method_3_code 33 = .ok (.invokespecial 28, 3) := by decide +kernel
theorem d1_36 : decode method_3_code 36 = .ok (.areturn, 1) := by decide +kernel
def Q_text1 (Z : State) (al : Addr) (ka : ClassId) (c0 : Int32) (c1 : Int32) (c2 : Int32) (cz : Int32) (h0 : Heap) (n0 : Nat) (v : Option Value) (h : Heap) (L : List Loc) : Prop := Fr n0 L ∧ Keep h0 h [] ∧ ∃ (a b : Addr) (kb : ClassId), v = some (.ref a) ∧ h0.size ≤ a ∧ a ≠ b ∧ Exa Z h a "java/lang/String" ∧ Fld Z h a "java/lang/String" "coder" "B" (.int (0 : Int32)) ∧ Fld Z h a "java/lang/String" "value" "[B" (.ref b) ∧ Arv Z h b kb .byte (1 : Int32) [(.int (nar .byte ((nar .char c0).toInt8.toInt32)))] (.int (0 : Int32))
set_option maxRecDepth 65536 in
set_option maxHeartbeats 40000000 in
theorem rm_text1 (l : Launch) (Z : State) (a0 : Array Value) (hw : ∀ d ∈ tables_1, d.before a0 Z = true) (ws : List Jvm.Cond) (al : Addr) (ka : ClassId) (c0 : Int32) (c1 : Int32) (c2 : Int32) (cz : Int32) (h0 : Heap) (n0 : Nat) (Z0 : n0 ≤ h0.size) (O2 : Sta Z Z.heap "java/lang/String" "COMPACT_STRINGS" "Z" (.int cz)) (P5 : ¬ cz = (0 : Int32)) (OLD : Old Z n0 h0) (VA : Arv Z h0 al ka .char (3 : Int32) [(.int c0), (.int c1), (.int c2)] (.int (0 : Int32))) (hc0 : 0 ≤ c0.toInt ∧ c0.toInt ≤ 255) (hc1 : 0 ≤ c1.toInt ∧ c1.toInt ≤ 255) (hc2 : 0 ≤ c2.toInt ∧ c2.toInt ≤ 255) :
    MetFree l (⟨"com/example/pathloom/pathloom/web/ReaderAtEndPinLaw", "text", "(I[C)Ljava/lang/String;"⟩ : MethodName) (head1 (Jvm.Cond.code (⟨"com/example/pathloom/pathloom/web/ReaderAtEndPinLaw", "text", "(I[C)Ljava/lang/String;"⟩ : MethodName) method_3_code 2 (some (.object "java/lang/String")) :: ws) ({ frames := 4, cells := 3, slots := 6, locals := 66 } : Room)) (fun aa_ U => aa_ = #[(.int (1 : Int32)), (.ref al)] ∧ Z.Warmed39 U.vm ∧ U.heap = h0) (fun _ _ _ _ _ => True) (fun _ U o_ U' => RetG U (Q_text1 Z al ka c0 c1 c2 cz h0 n0) 3 6 U' o_) := by
  refine MetFree.of_bodySF (plainFor_of_name own_pn1) hisR ?_
  intro p e s m args below meth c_ s₁ Bd hml0 hP hK
  obtain ⟨rfl, hZ, hh⟩ := hP
  have hx := Bd.exec
  have hby := Bd.bytes
  have hml : c_.maxLocals = 2 := hml0
  have hown : s.vm.findClass "com/example/pathloom/pathloom/web/ReaderAtEndPinLaw" = some m.cls := findClass_of_methodNamed Bd.named
  have hnm := (name_of_methodNamed Bd.named Bd.method).1
  have X0 : Stand p l e ({ frames := 4, cells := 3, slots := 6, locals := 66 } : Room) s m #[(.int (1 : Int32)), (.ref al)] below meth c_ s₁ [] 0 0 := Stand.of_body Bd
  have e0 : s₁.heap = h0 := by rw [← hh, Bd.state]; rfl
  have N0 := Fr.nil n0
  have w0_ := hw _ (List.mem_of_getElem? (i := 0) rfl)
  have w5_ := hw _ (List.mem_of_getElem? (i := 5) rfl)
  have w6_ := hw _ (List.mem_of_getElem? (i := 6) rfl)
  have w7_ := hw _ (List.mem_of_getElem? (i := 7) rfl)
  have w8_ := hw _ (List.mem_of_getElem? (i := 8) rfl)
  have w9_ := hw _ (List.mem_of_getElem? (i := 9) rfl)
  have w10_ := hw _ (List.mem_of_getElem? (i := 10) rfl)
  have w20_ := hw _ (List.mem_of_getElem? (i := 20) rfl)
  have w21_ := hw _ (List.mem_of_getElem? (i := 21) rfl)
  show Go p e below (RetG s (Q_text1 Z al ka c0 c1 c2 cz h0 n0) 3 6) (s₁.setTop (entryFrame m #[(.int (1 : Int32)), (.ref al)] 2))
  rw [show entryFrame m #[(.int (1 : Int32)), (.ref al)] 2 = mkF m 0 #[.val (.int (1 : Int32)), .val (.ref al)] [] from by first | (simp [entryFrame, mkF, argsToLocals, Value.category]; done) | rfl]
  refine g_iloadN X0 hx hby d1_0 rfl ?_
  refine g_ifY X0 hx hby 15 d1_1 (feq (by decide : ¬ ((1 : Int32) = (0 : Int32)))).2 (by decide) (by decide) ?_
  refine g_iloadN X0 hx hby d1_15 rfl ?_
  refine g_iconst X0 hx hby (1 : Int32) d1_16 rfl ?_
  refine g_icN X0 hx hby d1_17 (teq (by decide : (1 : Int32) = (1 : Int32))).2 ?_
  refine g_new X0 hx hby hZ hown w5_ w6_ w7_ e0 (by decide) (by decide) d1_20 (fun T1 h1 b1 g1 X1 e1 E1 A1 D1 => ?_)
  have F_value_b1 : Fld Z h1 b1 "java/lang/String" "value" "[B" .null := D1 (Or.inr w20_) (ty := (.array .byte)) (by decide)
  have F_coder_b1 : Fld Z h1 b1 "java/lang/String" "coder" "B" (.int (0 : Int32)) := D1 (Or.inr w21_) (ty := .byte) (by decide)
  refine g_dup X1 hx hby d1_23 rfl ?_
  refine g_iconst X1 hx hby (1 : Int32) d1_24 rfl ?_
  refine g_newarray X1 hx hby hZ .char .char (.int (0 : Int32)) [(.int (0 : Int32))] rfl rfl w0_ e1 (by decide) 1 rfl (by decide) (by decide) (by decide) (by decide) d1_25 (fun T2 h2 k2 b2 g2 X2 e2 E2 V2 => ?_)
  refine g_dup X2 hx hby d1_27 rfl ?_
  refine g_iconst X2 hx hby (0 : Int32) d1_28 rfl ?_
  refine g_aloadN X2 hx hby d1_29 rfl rfl ?_
  refine g_iconst X2 hx hby (0 : Int32) d1_30 rfl ?_
  have f3 := ((VA.ext E1).ext E2)
  refine g_caload X2 hx hby hZ e2 f3 (.int c0) ⟨by decide, by decide⟩ rfl d1_31 ?_
  have g_b2 : n0 ≤ b2 := Nat.le_trans (Nat.le_trans Z0 E1.1) (Nat.le_of_eq g2)
  refine g_castore X2 hx hby hZ e2 V2 0 [(.int (nar .char c0))] rfl ⟨by decide, by decide⟩ rfl (Nat.le_of_ble_eq_true rfl) N0 g_b2 d1_32 (fun T4 h4 X4 e4 W4 V4 N4 => ?_)
  have f6 := (((OLD.ext E1).ext E2).wr W4 g_b2)
  have f7 := ((A1.ext E2).wr W4)
  have ne8 : b1 ≠ b2 := (Nat.ne_of_lt (Nat.lt_of_lt_of_le A1.lt (Nat.le_of_eq g2)))
  have f9 := ((F_coder_b1.ext E2).other W4 (Or.inl ne8))
  have f10 := ((F_value_b1.ext E2).other W4 (Or.inl ne8))
  have g_b1 : n0 ≤ b1 := Nat.le_trans Z0 (Nat.le_of_eq g1)
  have z11 := (Nat.le_trans Z0 (Nat.le_trans (Nat.le_trans E1.1 E2.1) (Keep.of_wr W4).1))
  refine g_special X4 hx hby hZ hown (rm_ini1_1 l Z a0 hw [] b1 b2 k2 (nar .char c0) cz h4 n0 z11 O2 P5 f6 f7 f9 f10 V4 g_b1 (own_le hc0)) rfl rfl w8_ w9_ w7_ w10_ (by decide) e4 (by rw [hml]; rfl) [(.ref b2)] (lenOf own_pd1 rfl) rfl rfl (Nat.le_of_ble_eq_true rfl) (Nat.le_of_ble_eq_true rfl) (Nat.le_of_ble_eq_true rfl) (Nat.le_of_ble_eq_true rfl) d1_33 (fun v5 T5 L5 X5 hQ5 => ?_)
  obtain ⟨rfl, N5q, K5, t5, kb5, lo5, Es5, Cs5, Vs5, Bs5⟩ := hQ5
  have N5 := Fr.app N4 N5q
  have ne12 : b1 ≠ t5 := (Nat.ne_of_lt (Nat.lt_of_lt_of_le A1.lt (Nat.le_trans (Nat.le_trans E2.1 (Keep.of_wr W4).1) lo5)))
  refine g_aret X5 hx hby (t := (.object "java/lang/String")) rfl rfl rfl Bd.returns Bd.notSynchronized d1_36 rfl (by decide) (by decide) ?_
  show (Q_text1 Z al ka c0 c1 c2 cz h0 n0) (some (.ref b1)) _ _
  exact ⟨N5, (((((Keep.refl h0 []).ext E1).ext E2).wr W4 (Or.inr (Nat.le_trans E1.1 (Nat.le_of_eq g2)))).trans K5 (allS (Or.inr (Nat.le_trans (Nat.le_refl _) (Nat.le_of_eq g1))) all0)), b1, t5, kb5, rfl, (Nat.le_trans (Nat.le_refl _) (Nat.le_of_eq g1)), ne12, Es5, Cs5, Vs5, Bs5⟩

def Q_cmp5_2 (Z : State) (ca : Addr) (ba : Addr) (kc : ClassId) (kb : ClassId) (c0 : Int32) (c1 : Int32) (h0 : Heap) (n0 : Nat) (v : Option Value) (h : Heap) (L : List Loc) : Prop := v = some (.int (2 : Int32)) ∧ Fr n0 L ∧ Keep h0 h [ba] ∧ Arv Z h ba kb .byte (2 : Int32) [(.int (nar .byte (c0.toInt8.toInt32))), (.int (nar .byte (c1.toInt8.toInt32)))] (.int (0 : Int32))
set_option maxRecDepth 65536 in
set_option maxHeartbeats 40000000 in
theorem rm_cmp5_2 (l : Launch) (Z : State) (a0 : Array Value) (hw : ∀ d ∈ tables_1, d.before a0 Z = true) (ws : List Jvm.Cond) (ca : Addr) (ba : Addr) (kc : ClassId) (kb : ClassId) (c0 : Int32) (c1 : Int32) (h0 : Heap) (n0 : Nat) (Z0 : n0 ≤ h0.size) (VC : Arv Z h0 ca kc .char (2 : Int32) [(.int c0), (.int c1)] (.int (0 : Int32))) (VB : Arv Z h0 ba kb .byte (2 : Int32) [(.int (0 : Int32)), (.int (0 : Int32))] (.int (0 : Int32))) (nab : ca ≠ ba) (gb : n0 ≤ ba) (hc0 : ¬ (255 : Int32) < c0) (hc1 : ¬ (255 : Int32) < c1) :
    MetFree l (⟨"java/lang/StringUTF16", "compress", "([CI[BII)I"⟩ : MethodName) (head1 (Jvm.Cond.code (⟨"java/lang/StringUTF16", "compress", "([CI[BII)I"⟩ : MethodName) jdk_52_method_21_code 7 (some .int) :: ws) ({ frames := 0, cells := 0, slots := 0, locals := 0 } : Room)) (fun aa_ U => aa_ = #[(.ref ca), (.int (0 : Int32)), (.ref ba), (.int (0 : Int32)), (.int (2 : Int32))] ∧ Z.Warmed39 U.vm ∧ U.heap = h0) (fun _ _ _ _ _ => True) (fun _ U o_ U' => RetG U (Q_cmp5_2 Z ca ba kc kb c0 c1 h0 n0) 0 0 U' o_) := by
  refine MetFree.of_bodySF (plainFor_of_name own_pn2) hisR ?_
  intro p e s m args below meth c_ s₁ Bd hml0 hP hK
  obtain ⟨rfl, hZ, hh⟩ := hP
  have hx := Bd.exec
  have hby := Bd.bytes
  have hml : c_.maxLocals = 7 := hml0
  have hown : s.vm.findClass "java/lang/StringUTF16" = some m.cls := findClass_of_methodNamed Bd.named
  have hnm := (name_of_methodNamed Bd.named Bd.method).1
  have X0 : Stand p l e ({ frames := 0, cells := 0, slots := 0, locals := 0 } : Room) s m #[(.ref ca), (.int (0 : Int32)), (.ref ba), (.int (0 : Int32)), (.int (2 : Int32))] below meth c_ s₁ [] 0 0 := Stand.of_body Bd
  have e0 : s₁.heap = h0 := by rw [← hh, Bd.state]; rfl
  have N0 := Fr.nil n0
  show Go p e below (RetG s (Q_cmp5_2 Z ca ba kc kb c0 c1 h0 n0) 0 0) (s₁.setTop (entryFrame m #[(.ref ca), (.int (0 : Int32)), (.ref ba), (.int (0 : Int32)), (.int (2 : Int32))] 7))
  rw [show entryFrame m #[(.ref ca), (.int (0 : Int32)), (.ref ba), (.int (0 : Int32)), (.int (2 : Int32))] 7 = mkF m 0 #[.val (.ref ca), .val (.int (0 : Int32)), .val (.ref ba), .val (.int (0 : Int32)), .val (.int (2 : Int32)), .unset, .unset] [] from by first | (simp [entryFrame, mkF, argsToLocals, Value.category]; done) | rfl]
  refine g_iconst X0 hx hby (0 : Int32) d14_0 rfl ?_
  refine g_istore X0 hx hby d14_1 (l' := #[.val (.ref ca), .val (.int (0 : Int32)), .val (.ref ba), .val (.int (0 : Int32)), .val (.int (2 : Int32)), .val (.int (0 : Int32)), .unset]) rfl ?_
  refine g_iload X0 hx hby d14_3 rfl ?_
  refine g_iload X0 hx hby d14_5 rfl ?_
  refine g_icN X0 hx hby d14_7 (tlt (by decide : (0 : Int32) < (2 : Int32))).2.1 ?_
  refine g_aloadN X0 hx hby d14_10 rfl rfl ?_
  refine g_iloadN X0 hx hby d14_11 rfl ?_
  refine g_caload X0 hx hby hZ e0 VC (.int c0) ⟨by decide, by decide⟩ rfl d14_12 ?_
  refine g_istore X0 hx hby d14_13 (l' := #[.val (.ref ca), .val (.int (0 : Int32)), .val (.ref ba), .val (.int (0 : Int32)), .val (.int (2 : Int32)), .val (.int (0 : Int32)), .val (.int c0)]) rfl ?_
  refine g_iload X0 hx hby d14_15 rfl ?_
  refine g_sipush X0 hx hby (255 : Int32) d14_17 rfl ?_
  refine g_icY X0 hx hby 26 d14_20 (flt (hc0 : ¬ ((255 : Int32) < c0))).2.2.2 (by decide) (by decide) ?_
  refine g_aloadN X0 hx hby d14_26 rfl rfl ?_
  refine g_iloadN X0 hx hby d14_27 rfl ?_
  refine g_iload X0 hx hby d14_28 rfl ?_
  refine g_i2b X0 hx hby d14_30 ?_
  refine g_bastore X0 hx hby hZ e0 VB 0 [(.int (nar .byte (c0.toInt8.toInt32))), (.int (0 : Int32))] rfl ⟨by decide, by decide⟩ rfl (Nat.le_of_ble_eq_true rfl) N0 gb d14_31 (fun T1 h1 X1 e1 W1 V1 N1 => ?_)
  refine g_iinc X1 hx hby (1 : Int32) d14_32 rfl (by decide) (l' := #[.val (.ref ca), .val (.int (1 : Int32)), .val (.ref ba), .val (.int (0 : Int32)), .val (.int (2 : Int32)), .val (.int (0 : Int32)), .val (.int c0)]) rfl ?_
  refine g_iinc X1 hx hby (1 : Int32) d14_35 rfl (by decide) (l' := #[.val (.ref ca), .val (.int (1 : Int32)), .val (.ref ba), .val (.int (1 : Int32)), .val (.int (2 : Int32)), .val (.int (0 : Int32)), .val (.int c0)]) rfl ?_
  refine g_iinc X1 hx hby (1 : Int32) d14_38 rfl (by decide) (l' := #[.val (.ref ca), .val (.int (1 : Int32)), .val (.ref ba), .val (.int (1 : Int32)), .val (.int (2 : Int32)), .val (.int (1 : Int32)), .val (.int c0)]) rfl ?_
  refine g_goto X1 hx hby 3 d14_41 (by decide) (by decide) ?_
  refine g_iload X1 hx hby d14_3 rfl ?_
  refine g_iload X1 hx hby d14_5 rfl ?_
  refine g_icN X1 hx hby d14_7 (tlt (by decide : (1 : Int32) < (2 : Int32))).2.1 ?_
  refine g_aloadN X1 hx hby d14_10 rfl rfl ?_
  refine g_iloadN X1 hx hby d14_11 rfl ?_
  have f2 := (VC.other W1 nab)
  refine g_caload X1 hx hby hZ e1 f2 (.int c1) ⟨by decide, by decide⟩ rfl d14_12 ?_
  refine g_istore X1 hx hby d14_13 (l' := #[.val (.ref ca), .val (.int (1 : Int32)), .val (.ref ba), .val (.int (1 : Int32)), .val (.int (2 : Int32)), .val (.int (1 : Int32)), .val (.int c1)]) rfl ?_
  refine g_iload X1 hx hby d14_15 rfl ?_
  refine g_sipush X1 hx hby (255 : Int32) d14_17 rfl ?_
  refine g_icY X1 hx hby 26 d14_20 (flt (hc1 : ¬ ((255 : Int32) < c1))).2.2.2 (by decide) (by decide) ?_
  refine g_aloadN X1 hx hby d14_26 rfl rfl ?_
  refine g_iloadN X1 hx hby d14_27 rfl ?_
  refine g_iload X1 hx hby d14_28 rfl ?_
  refine g_i2b X1 hx hby d14_30 ?_
  refine g_bastore X1 hx hby hZ e1 V1 1 [(.int (nar .byte (c0.toInt8.toInt32))), (.int (nar .byte (c1.toInt8.toInt32)))] rfl ⟨by decide, by decide⟩ rfl (Nat.le_of_ble_eq_true rfl) N1 gb d14_31 (fun T3 h3 X3 e3 W3 V3 N3 => ?_)
  refine g_iinc X3 hx hby (2 : Int32) d14_32 rfl (by decide) (l' := #[.val (.ref ca), .val (.int (2 : Int32)), .val (.ref ba), .val (.int (1 : Int32)), .val (.int (2 : Int32)), .val (.int (1 : Int32)), .val (.int c1)]) rfl ?_
  refine g_iinc X3 hx hby (2 : Int32) d14_35 rfl (by decide) (l' := #[.val (.ref ca), .val (.int (2 : Int32)), .val (.ref ba), .val (.int (2 : Int32)), .val (.int (2 : Int32)), .val (.int (1 : Int32)), .val (.int c1)]) rfl ?_
  refine g_iinc X3 hx hby (2 : Int32) d14_38 rfl (by decide) (l' := #[.val (.ref ca), .val (.int (2 : Int32)), .val (.ref ba), .val (.int (2 : Int32)), .val (.int (2 : Int32)), .val (.int (2 : Int32)), .val (.int c1)]) rfl ?_
  refine g_goto X3 hx hby 3 d14_41 (by decide) (by decide) ?_
  refine g_iload X3 hx hby d14_3 rfl ?_
  refine g_iload X3 hx hby d14_5 rfl ?_
  refine g_icY X3 hx hby 44 d14_7 (flt (by decide : ¬ ((2 : Int32) < (2 : Int32)))).2.1 (by decide) (by decide) ?_
  refine g_iload X3 hx hby d14_44 rfl ?_
  refine g_iret X3 hx hby Bd.returns Bd.notSynchronized d14_46 e3 (by decide) (by decide) ?_
  show (Q_cmp5_2 Z ca ba kc kb c0 c1 h0 n0) (some (.int (2 : Int32))) _ _
  exact ⟨rfl, N3, (((Keep.refl h0 [ba]).wr W1 (Or.inl (List.mem_of_getElem? (i := 0) rfl))).wr W3 (Or.inl (List.mem_of_getElem? (i := 0) rfl))), V3⟩

def Q_cmp_2 (Z : State) (ca : Addr) (kc : ClassId) (c0 : Int32) (c1 : Int32) (h0 : Heap) (n0 : Nat) (v : Option Value) (h : Heap) (L : List Loc) : Prop := Fr n0 L ∧ Keep h0 h [] ∧ ∃ (b : Addr) (kb : ClassId), v = some (.ref b) ∧ h0.size ≤ b ∧ Arv Z h b kb .byte (2 : Int32) [(.int (nar .byte (c0.toInt8.toInt32))), (.int (nar .byte (c1.toInt8.toInt32)))] (.int (0 : Int32))
set_option maxRecDepth 65536 in
set_option maxHeartbeats 40000000 in
theorem rm_cmp_2 (l : Launch) (Z : State) (a0 : Array Value) (hw : ∀ d ∈ tables_1, d.before a0 Z = true) (ws : List Jvm.Cond) (ca : Addr) (kc : ClassId) (c0 : Int32) (c1 : Int32) (h0 : Heap) (n0 : Nat) (Z0 : n0 ≤ h0.size) (VC : Arv Z h0 ca kc .char (2 : Int32) [(.int c0), (.int c1)] (.int (0 : Int32))) (hc0 : ¬ (255 : Int32) < c0) (hc1 : ¬ (255 : Int32) < c1) :
    MetFree l (⟨"java/lang/StringUTF16", "compress", "([CII)[B"⟩ : MethodName) (head1 (Jvm.Cond.code (⟨"java/lang/StringUTF16", "compress", "([CII)[B"⟩ : MethodName) jdk_52_method_16_code 6 (some (.array .byte)) :: ws) ({ frames := 1, cells := 1, slots := 2, locals := 18 } : Room)) (fun aa_ U => aa_ = #[(.ref ca), (.int (0 : Int32)), (.int (2 : Int32))] ∧ Z.Warmed39 U.vm ∧ U.heap = h0) (fun _ _ _ _ _ => True) (fun _ U o_ U' => RetG U (Q_cmp_2 Z ca kc c0 c1 h0 n0) 1 2 U' o_) := by
  refine MetFree.of_bodySF (plainFor_of_name own_pn2) hisR ?_
  intro p e s m args below meth c_ s₁ Bd hml0 hP hK
  obtain ⟨rfl, hZ, hh⟩ := hP
  have hx := Bd.exec
  have hby := Bd.bytes
  have hml : c_.maxLocals = 6 := hml0
  have hown : s.vm.findClass "java/lang/StringUTF16" = some m.cls := findClass_of_methodNamed Bd.named
  have hnm := (name_of_methodNamed Bd.named Bd.method).1
  have X0 : Stand p l e ({ frames := 1, cells := 1, slots := 2, locals := 18 } : Room) s m #[(.ref ca), (.int (0 : Int32)), (.int (2 : Int32))] below meth c_ s₁ [] 0 0 := Stand.of_body Bd
  have e0 : s₁.heap = h0 := by rw [← hh, Bd.state]; rfl
  have N0 := Fr.nil n0
  have w19_ := hw _ (List.mem_of_getElem? (i := 19) rfl)
  have w73_ := hw _ (List.mem_of_getElem? (i := 73) rfl)
  have w75_ := hw _ (List.mem_of_getElem? (i := 75) rfl)
  have w76_ := hw _ (List.mem_of_getElem? (i := 76) rfl)
  have w77_ := hw _ (List.mem_of_getElem? (i := 77) rfl)
  show Go p e below (RetG s (Q_cmp_2 Z ca kc c0 c1 h0 n0) 1 2) (s₁.setTop (entryFrame m #[(.ref ca), (.int (0 : Int32)), (.int (2 : Int32))] 6))
  rw [show entryFrame m #[(.ref ca), (.int (0 : Int32)), (.int (2 : Int32))] 6 = mkF m 0 #[.val (.ref ca), .val (.int (0 : Int32)), .val (.int (2 : Int32)), .unset, .unset, .unset] [] from by first | (simp [entryFrame, mkF, argsToLocals, Value.category]; done) | rfl]
  refine g_iloadN X0 hx hby d13_0 rfl ?_
  refine g_newarray X0 hx hby hZ .byte .byte (.int (0 : Int32)) [(.int (0 : Int32)), (.int (0 : Int32))] rfl rfl w19_ e0 (by decide) 2 rfl (by decide) (by decide) (by decide) (by decide) d13_1 (fun T1 h1 k1 b1 g1 X1 e1 E1 V1 => ?_)
  refine g_astoreN X1 hx hby d13_3 rfl (l' := #[.val (.ref ca), .val (.int (0 : Int32)), .val (.int (2 : Int32)), .val (.ref b1), .unset, .unset]) rfl ?_
  refine g_aloadN X1 hx hby d13_4 rfl rfl ?_
  refine g_iloadN X1 hx hby d13_5 rfl ?_
  refine g_aloadN X1 hx hby d13_6 rfl rfl ?_
  refine g_iconst X1 hx hby (0 : Int32) d13_7 rfl ?_
  refine g_iloadN X1 hx hby d13_8 rfl ?_
  have f3 := (VC.ext E1)
  have ne4 : ca ≠ b1 := (Nat.ne_of_lt (Nat.lt_of_lt_of_le VC.lt (Nat.le_of_eq g1)))
  have g_b1 : n0 ≤ b1 := Nat.le_trans Z0 (Nat.le_of_eq g1)
  have z5 := (Nat.le_trans Z0 E1.1)
  refine g_static X1 hx hby hZ hown (rm_cmp5_2 l Z a0 hw [] ca b1 kc k1 c0 c1 h1 n0 z5 f3 V1 ne4 g_b1 hc0 hc1) w75_ w76_ w73_ w77_ (by decide) e1 (by rw [hml]; rfl) [(.ref ca), (.int (0 : Int32)), (.ref b1), (.int (0 : Int32)), (.int (2 : Int32))] (lenOf own_pd2 rfl) rfl rfl (Nat.le_of_ble_eq_true rfl) (Nat.le_of_ble_eq_true rfl) (Nat.le_of_ble_eq_true rfl) (Nat.le_of_ble_eq_true rfl) d13_9 (fun v2 T2 L2 X2 hQ2 => ?_)
  obtain ⟨rfl, N2q, K2, V2⟩ := hQ2
  have N2 := Fr.app N0 N2q
  refine g_istore X2 hx hby d13_12 (l' := #[.val (.ref ca), .val (.int (0 : Int32)), .val (.int (2 : Int32)), .val (.ref b1), .val (.int (2 : Int32)), .unset]) rfl ?_
  refine g_iload X2 hx hby d13_14 rfl ?_
  refine g_iloadN X2 hx hby d13_16 rfl ?_
  refine g_icY X2 hx hby 57 d13_17 (teq (by decide : (2 : Int32) = (2 : Int32))).1 (by decide) (by decide) ?_
  refine g_aloadN X2 hx hby d13_57 rfl rfl ?_
  refine g_aret X2 hx hby (t := (.array .byte)) rfl rfl rfl Bd.returns Bd.notSynchronized d13_58 rfl (by decide) (by decide) ?_
  show (Q_cmp_2 Z ca kc c0 c1 h0 n0) (some (.ref b1)) _ _
  exact ⟨N2, (((Keep.refl h0 []).ext E1).trans K2 (allS (Or.inr (Nat.le_trans (Nat.le_refl _) (Nat.le_of_eq g1))) all0)), b1, k1, rfl, (Nat.le_trans (Nat.le_refl _) (Nat.le_of_eq g1)), V2⟩

def Q_cfal_2_2 (Z : State) (ba : Addr) (kb : ClassId) (bs : List Value) (h0 : Heap) (n0 : Nat) (v : Option Value) (h : Heap) (L : List Loc) : Prop := v = some (.int (0 : Int32)) ∧ Fr n0 L ∧ h = h0
set_option maxRecDepth 65536 in
set_option maxHeartbeats 40000000 in
theorem rm_cfal_2_2 (l : Launch) (Z : State) (a0 : Array Value) (hw : ∀ d ∈ tables_1, d.before a0 Z = true) (ws : List Jvm.Cond) (ba : Addr) (kb : ClassId) (bs : List Value) (h0 : Heap) (n0 : Nat) (Z0 : n0 ≤ h0.size) (VB : Arv Z h0 ba kb .byte (2 : Int32) bs (.int (0 : Int32))) :
    MetFree l (⟨"java/lang/StringUTF16", "coderFromArrayLen", "([BI)B"⟩ : MethodName) (head1 (Jvm.Cond.code (⟨"java/lang/StringUTF16", "coderFromArrayLen", "([BI)B"⟩ : MethodName) jdk_52_method_15_code 2 (some .byte) :: ws) ({ frames := 0, cells := 0, slots := 0, locals := 0 } : Room)) (fun aa_ U => aa_ = #[(.ref ba), (.int (2 : Int32))] ∧ Z.Warmed39 U.vm ∧ U.heap = h0) (fun _ _ _ _ _ => True) (fun _ U o_ U' => RetG U (Q_cfal_2_2 Z ba kb bs h0 n0) 0 0 U' o_) := by
  refine MetFree.of_bodySF (plainFor_of_name own_pn2) hisR ?_
  intro p e s m args below meth c_ s₁ Bd hml0 hP hK
  obtain ⟨rfl, hZ, hh⟩ := hP
  have hx := Bd.exec
  have hby := Bd.bytes
  have hml : c_.maxLocals = 2 := hml0
  have hown : s.vm.findClass "java/lang/StringUTF16" = some m.cls := findClass_of_methodNamed Bd.named
  have hnm := (name_of_methodNamed Bd.named Bd.method).1
  have X0 : Stand p l e ({ frames := 0, cells := 0, slots := 0, locals := 0 } : Room) s m #[(.ref ba), (.int (2 : Int32))] below meth c_ s₁ [] 0 0 := Stand.of_body Bd
  have e0 : s₁.heap = h0 := by rw [← hh, Bd.state]; rfl
  have N0 := Fr.nil n0
  show Go p e below (RetG s (Q_cfal_2_2 Z ba kb bs h0 n0) 0 0) (s₁.setTop (entryFrame m #[(.ref ba), (.int (2 : Int32))] 2))
  rw [show entryFrame m #[(.ref ba), (.int (2 : Int32))] 2 = mkF m 0 #[.val (.ref ba), .val (.int (2 : Int32))] [] from by first | (simp [entryFrame, mkF, argsToLocals, Value.category]; done) | rfl]
  refine g_iloadN X0 hx hby d15_0 rfl ?_
  refine g_aloadN X0 hx hby d15_1 rfl rfl ?_
  refine g_arraylength X0 hx hby hZ e0 VB d15_2 ?_
  refine g_isub X0 hx hby d15_3 ?_
  refine g_topI (0 : Int32) (by decide) ?_
  refine g_bipush X0 hx hby (31 : Int32) d15_4 rfl ?_
  refine g_iushr X0 hx hby d15_6 ?_
  refine g_topI (0 : Int32) (by decide) ?_
  refine g_i2b X0 hx hby d15_7 ?_
  refine g_topI (0 : Int32) (by decide) ?_
  refine g_nret X0 hx hby (t := .byte) (by simp) Bd.returns Bd.notSynchronized d15_8 e0 (by decide) (by decide) ?_
  show (Q_cfal_2_2 Z ba kb bs h0 n0) (some (.int (0 : Int32))) _ _
  exact ⟨rfl, N0, rfl⟩

def Q_ini2_2 (Z : State) (a : Addr) (ca : Addr) (kc : ClassId) (c0 : Int32) (c1 : Int32) (cz : Int32) (h0 : Heap) (n0 : Nat) (v : Option Value) (h : Heap) (L : List Loc) : Prop := v = none ∧ Fr n0 L ∧ Keep h0 h [a] ∧ ∃ (b : Addr) (kb : ClassId), h0.size ≤ b ∧ Exa Z h a "java/lang/String" ∧ Fld Z h a "java/lang/String" "coder" "B" (.int (0 : Int32)) ∧ Fld Z h a "java/lang/String" "value" "[B" (.ref b) ∧ Arv Z h b kb .byte (2 : Int32) [(.int (nar .byte (c0.toInt8.toInt32))), (.int (nar .byte (c1.toInt8.toInt32)))] (.int (0 : Int32))
set_option maxRecDepth 65536 in
set_option maxHeartbeats 40000000 in
theorem rm_ini2_2 (l : Launch) (Z : State) (a0 : Array Value) (hw : ∀ d ∈ tables_1, d.before a0 Z = true) (ws : List Jvm.Cond) (a : Addr) (ca : Addr) (kc : ClassId) (c0 : Int32) (c1 : Int32) (cz : Int32) (h0 : Heap) (n0 : Nat) (Z0 : n0 ≤ h0.size) (O2 : Sta Z Z.heap "java/lang/String" "COMPACT_STRINGS" "Z" (.int cz)) (P5 : ¬ cz = (0 : Int32)) (OLD : Old Z n0 h0) (E : Exa Z h0 a "java/lang/String") (FC : Fld Z h0 a "java/lang/String" "coder" "B" (.int (0 : Int32))) (FV : Fld Z h0 a "java/lang/String" "value" "[B" .null) (VC : Arv Z h0 ca kc .char (2 : Int32) [(.int c0), (.int c1)] (.int (0 : Int32))) (ga : n0 ≤ a) (hc0 : ¬ (255 : Int32) < c0) (hc1 : ¬ (255 : Int32) < c1) :
    MetFree l (⟨"java/lang/String", "<init>", "([CIILjava/lang/Void;)V"⟩ : MethodName) (head1 (Jvm.Cond.code (⟨"java/lang/String", "<init>", "([CIILjava/lang/Void;)V"⟩ : MethodName) jdk_42_method_149_code 6 none :: ws) ({ frames := 2, cells := 1, slots := 2, locals := 35 } : Room)) (fun aa_ U => aa_ = #[(.ref a), (.ref ca), (.int (0 : Int32)), (.int (2 : Int32)), .null] ∧ Z.Warmed39 U.vm ∧ U.heap = h0) (fun _ _ _ _ _ => True) (fun _ U o_ U' => RetG U (Q_ini2_2 Z a ca kc c0 c1 cz h0 n0) 1 2 U' o_) := by
  refine MetFree.of_bodySF (plainFor_of_name own_pn0) hisR ?_
  intro p e s m args below meth c_ s₁ Bd hml0 hP hK
  obtain ⟨rfl, hZ, hh⟩ := hP
  have hx := Bd.exec
  have hby := Bd.bytes
  have hml : c_.maxLocals = 6 := hml0
  have hown : s.vm.findClass "java/lang/String" = some m.cls := findClass_of_methodNamed Bd.named
  have hnm := (name_of_methodNamed Bd.named Bd.method).1
  have X0 : Stand p l e ({ frames := 2, cells := 1, slots := 2, locals := 35 } : Room) s m #[(.ref a), (.ref ca), (.int (0 : Int32)), (.int (2 : Int32)), .null] below meth c_ s₁ [] 0 0 := Stand.of_body Bd
  have e0 : s₁.heap = h0 := by rw [← hh, Bd.state]; rfl
  have N0 := Fr.nil n0
  have w6_ := hw _ (List.mem_of_getElem? (i := 6) rfl)
  have w15_ := hw _ (List.mem_of_getElem? (i := 15) rfl)
  have w16_ := hw _ (List.mem_of_getElem? (i := 16) rfl)
  have w17_ := hw _ (List.mem_of_getElem? (i := 17) rfl)
  have w20_ := hw _ (List.mem_of_getElem? (i := 20) rfl)
  have w21_ := hw _ (List.mem_of_getElem? (i := 21) rfl)
  have w24_ := hw _ (List.mem_of_getElem? (i := 24) rfl)
  have w25_ := hw _ (List.mem_of_getElem? (i := 25) rfl)
  have w52_ := hw _ (List.mem_of_getElem? (i := 52) rfl)
  have w71_ := hw _ (List.mem_of_getElem? (i := 71) rfl)
  have w72_ := hw _ (List.mem_of_getElem? (i := 72) rfl)
  have w73_ := hw _ (List.mem_of_getElem? (i := 73) rfl)
  have w74_ := hw _ (List.mem_of_getElem? (i := 74) rfl)
  have w78_ := hw _ (List.mem_of_getElem? (i := 78) rfl)
  have w79_ := hw _ (List.mem_of_getElem? (i := 79) rfl)
  have w80_ := hw _ (List.mem_of_getElem? (i := 80) rfl)
  show Go p e below (RetG s (Q_ini2_2 Z a ca kc c0 c1 cz h0 n0) 1 2) (s₁.setTop (entryFrame m #[(.ref a), (.ref ca), (.int (0 : Int32)), (.int (2 : Int32)), .null] 6))
  rw [show entryFrame m #[(.ref a), (.ref ca), (.int (0 : Int32)), (.int (2 : Int32)), .null] 6 = mkF m 0 #[.val (.ref a), .val (.ref ca), .val (.int (0 : Int32)), .val (.int (2 : Int32)), .val .null, .unset] [] from by first | (simp [entryFrame, mkF, argsToLocals, Value.category]; done) | rfl]
  refine g_aloadN X0 hx hby d3_0 rfl rfl ?_
  refine g_initO X0 hx hby hZ hown w15_ w16_ w17_ e0 (by rw [hml]; rfl) (Nat.le_of_ble_eq_true rfl) (Nat.le_of_ble_eq_true rfl) d3_1 (fun T1 X1 e1 => ?_)
  refine g_iloadN X1 hx hby d3_4 rfl ?_
  refine g_ifY X1 hx hby 27 d3_5 (feq (by decide : ¬ ((2 : Int32) = (0 : Int32)))).2 (by decide) (by decide) ?_
  refine g_getS X1 hx hby hZ hown (host := "") (Or.inl w52_) Via.refl e1 (O2.ext OLD.2) d3_27 (fun T2 X2 e2 => ?_)
  refine g_ifN X2 hx hby d3_30 (feq (P5 : ¬ (cz = (0 : Int32)))).1 ?_
  refine g_aloadN X2 hx hby d3_33 rfl rfl ?_
  refine g_iloadN X2 hx hby d3_34 rfl ?_
  refine g_iloadN X2 hx hby d3_35 rfl ?_
  refine g_static X2 hx hby hZ hown (rm_cmp_2 l Z a0 hw [] ca kc c0 c1 h0 n0 Z0 VC hc0 hc1) w71_ w72_ w73_ w74_ (by decide) e2 (by rw [hml]; rfl) [(.ref ca), (.int (0 : Int32)), (.int (2 : Int32))] (lenOf own_pd3 rfl) rfl rfl (Nat.le_of_ble_eq_true rfl) (Nat.le_of_ble_eq_true rfl) (Nat.le_of_ble_eq_true rfl) (Nat.le_of_ble_eq_true rfl) d3_36 (fun v3 T3 L3 X3 hQ3 => ?_)
  obtain ⟨N3q, K3, bb, kb, rfl, lob, Vb⟩ := hQ3
  have N3 := Fr.app N0 N3q
  refine g_astore X3 hx hby d3_39 rfl (l' := #[.val (.ref a), .val (.ref ca), .val (.int (0 : Int32)), .val (.int (2 : Int32)), .val .null, .val (.ref bb)]) rfl ?_
  refine g_aloadN X3 hx hby d3_41 rfl rfl ?_
  refine g_aload X3 hx hby d3_42 rfl rfl ?_
  refine g_iloadN X3 hx hby d3_44 rfl ?_
  have z5 := (Nat.le_trans Z0 K3.1)
  refine g_static X3 hx hby hZ hown (rm_cfal_2_2 l Z a0 hw [] bb kb [(.int (nar .byte (c0.toInt8.toInt32))), (.int (nar .byte (c1.toInt8.toInt32)))] T3.heap n0 z5 Vb) w78_ w79_ w73_ w80_ (by decide) rfl (by rw [hml]; rfl) [(.ref bb), (.int (2 : Int32))] (lenOf own_pd4 rfl) rfl rfl (Nat.le_of_ble_eq_true rfl) (Nat.le_of_ble_eq_true rfl) (Nat.le_of_ble_eq_true rfl) (Nat.le_of_ble_eq_true rfl) d3_45 (fun v4 T4 L4 X4 hQ4 => ?_)
  obtain ⟨rfl, N4q, eh4⟩ := hQ4
  have N4 := Fr.app N3 N4q
  have f6 := (E.keep K3)
  have f7 := (FC.keep K3 nin0)
  refine g_putFN X4 hx hby hZ hown w25_ Via.refl eh4 f7 f6 (Or.inr ⟨w21_, rfl, hnm⟩) w6_ .byte (by decide) (.int (0 : Int32)) rfl rfl N4 ga d3_48 (fun T8 h8 X8 e8 W8 F8 N8 => ?_)
  refine g_aloadN X8 hx hby d3_51 rfl rfl ?_
  refine g_aload X8 hx hby d3_52 rfl rfl ?_
  have f9 := (f6.wr W8)
  have f10 := ((FV.keep K3 nin0).other W8 (Or.inr (slot_ne (Or.inr w20_) (Or.inr w21_) (by decide) (t := (.array .byte)) (t' := .byte) (by decide) (by decide))))
  refine g_putF X8 hx hby hZ hown (host := "") (Or.inl w24_) Via.refl e8 f10 f9 (Or.inr ⟨w20_, rfl, hnm⟩) w6_ (.array .byte) (by decide) rfl rfl N8 ga d3_54 (fun T11 h11 X11 e11 W11 F11 N11 => ?_)
  have f12 := (f9.wr W11)
  have f13 := (F8.other W11 (Or.inr (slot_ne (Or.inr w21_) (Or.inr w20_) (by decide) (t := .byte) (t' := (.array .byte)) (by decide) (by decide))))
  have ne14 : bb ≠ a := (Ne.symm (Nat.ne_of_lt (Nat.lt_of_lt_of_le E.lt lob)))
  have f15 := ((Vb.other W8 ne14).other W11 ne14)
  refine g_ret X11 hx hby Bd.returns Bd.notSynchronized d3_57 e11 (by decide) (by decide) ?_
  show (Q_ini2_2 Z a ca kc c0 c1 cz h0 n0) none _ _
  exact ⟨rfl, N11, ((((Keep.refl h0 [a]).trans K3 all0).wr W8 (Or.inl (List.mem_of_getElem? (i := 0) rfl))).wr W11 (Or.inl (List.mem_of_getElem? (i := 0) rfl))), bb, kb, (Nat.le_trans (Nat.le_refl _) lob), f12, f13, F11, f15⟩

def Q_ini1_2 (Z : State) (a : Addr) (ca : Addr) (kc : ClassId) (c0 : Int32) (c1 : Int32) (cz : Int32) (h0 : Heap) (n0 : Nat) (v : Option Value) (h : Heap) (L : List Loc) : Prop := v = none ∧ Fr n0 L ∧ Keep h0 h [a] ∧ ∃ (b : Addr) (kb : ClassId), h0.size ≤ b ∧ Exa Z h a "java/lang/String" ∧ Fld Z h a "java/lang/String" "coder" "B" (.int (0 : Int32)) ∧ Fld Z h a "java/lang/String" "value" "[B" (.ref b) ∧ Arv Z h b kb .byte (2 : Int32) [(.int (nar .byte (c0.toInt8.toInt32))), (.int (nar .byte (c1.toInt8.toInt32)))] (.int (0 : Int32))
set_option maxRecDepth 65536 in
set_option maxHeartbeats 40000000 in
theorem rm_ini1_2 (l : Launch) (Z : State) (a0 : Array Value) (hw : ∀ d ∈ tables_1, d.before a0 Z = true) (ws : List Jvm.Cond) (a : Addr) (ca : Addr) (kc : ClassId) (c0 : Int32) (c1 : Int32) (cz : Int32) (h0 : Heap) (n0 : Nat) (Z0 : n0 ≤ h0.size) (O2 : Sta Z Z.heap "java/lang/String" "COMPACT_STRINGS" "Z" (.int cz)) (P5 : ¬ cz = (0 : Int32)) (OLD : Old Z n0 h0) (E : Exa Z h0 a "java/lang/String") (FC : Fld Z h0 a "java/lang/String" "coder" "B" (.int (0 : Int32))) (FV : Fld Z h0 a "java/lang/String" "value" "[B" .null) (VC : Arv Z h0 ca kc .char (2 : Int32) [(.int c0), (.int c1)] (.int (0 : Int32))) (ga : n0 ≤ a) (hc0 : ¬ (255 : Int32) < c0) (hc1 : ¬ (255 : Int32) < c1) :
    MetFree l (⟨"java/lang/String", "<init>", "([C)V"⟩ : MethodName) (head1 (Jvm.Cond.code (⟨"java/lang/String", "<init>", "([C)V"⟩ : MethodName) jdk_42_method_3_code 2 none :: ws) ({ frames := 3, cells := 1, slots := 2, locals := 52 } : Room)) (fun aa_ U => aa_ = #[(.ref a), (.ref ca)] ∧ Z.Warmed39 U.vm ∧ U.heap = h0) (fun _ _ _ _ _ => True) (fun _ U o_ U' => RetG U (Q_ini1_2 Z a ca kc c0 c1 cz h0 n0) 1 2 U' o_) := by
  refine MetFree.of_bodySF (plainFor_of_name own_pn0) hisR ?_
  intro p e s m args below meth c_ s₁ Bd hml0 hP hK
  obtain ⟨rfl, hZ, hh⟩ := hP
  have hx := Bd.exec
  have hby := Bd.bytes
  have hml : c_.maxLocals = 2 := hml0
  have hown : s.vm.findClass "java/lang/String" = some m.cls := findClass_of_methodNamed Bd.named
  have hnm := (name_of_methodNamed Bd.named Bd.method).1
  have X0 : Stand p l e ({ frames := 3, cells := 1, slots := 2, locals := 52 } : Room) s m #[(.ref a), (.ref ca)] below meth c_ s₁ [] 0 0 := Stand.of_body Bd
  have e0 : s₁.heap = h0 := by rw [← hh, Bd.state]; rfl
  have N0 := Fr.nil n0
  have w7_ := hw _ (List.mem_of_getElem? (i := 7) rfl)
  have w11_ := hw _ (List.mem_of_getElem? (i := 11) rfl)
  have w12_ := hw _ (List.mem_of_getElem? (i := 12) rfl)
  have w14_ := hw _ (List.mem_of_getElem? (i := 14) rfl)
  show Go p e below (RetG s (Q_ini1_2 Z a ca kc c0 c1 cz h0 n0) 1 2) (s₁.setTop (entryFrame m #[(.ref a), (.ref ca)] 2))
  rw [show entryFrame m #[(.ref a), (.ref ca)] 2 = mkF m 0 #[.val (.ref a), .val (.ref ca)] [] from by first | (simp [entryFrame, mkF, argsToLocals, Value.category]; done) | rfl]
  refine g_aloadN X0 hx hby d2_0 rfl rfl ?_
  refine g_aloadN X0 hx hby d2_1 rfl rfl ?_
  refine g_iconst X0 hx hby (0 : Int32) d2_2 rfl ?_
  refine g_aloadN X0 hx hby d2_3 rfl rfl ?_
  refine g_arraylength X0 hx hby hZ e0 VC d2_4 ?_
  refine g_aconst_null X0 hx hby d2_5 ?_
  refine g_special X0 hx hby hZ hown (rm_ini2_2 l Z a0 hw [] a ca kc c0 c1 cz h0 n0 Z0 O2 P5 OLD E FC FV VC ga hc0 hc1) rfl rfl w11_ w12_ w7_ w14_ (by decide) e0 (by rw [hml]; rfl) [(.ref ca), (.int (0 : Int32)), (.int (2 : Int32)), .null] (lenOf own_pd0 rfl) rfl rfl (Nat.le_of_ble_eq_true rfl) (Nat.le_of_ble_eq_true rfl) (Nat.le_of_ble_eq_true rfl) (Nat.le_of_ble_eq_true rfl) d2_6 (fun v1 T1 L1 X1 hQ1 => ?_)
  obtain ⟨rfl, N1q, R1⟩ := hQ1
  have N1 := Fr.app N0 N1q
  refine g_ret X1 hx hby Bd.returns Bd.notSynchronized d2_9 rfl (by decide) (by decide) ?_
  show (Q_ini1_2 Z a ca kc c0 c1 cz h0 n0) none _ _
  exact ⟨rfl, N1, R1⟩

theorem d1_37 : decode method_3_code 37 = .ok (.iload_n 0, 1) := by decide +kernel
theorem d1_38 : decode method_3_code 38 = .ok (.iconst 2, 1) := by decide +kernel
theorem d1_39 : decode method_3_code 39 = .ok (.if_icmp .ne 26, 3) := by decide +kernel
theorem d1_42 : decode method_3_code 42 = .ok (.new 26, 3) := by decide +kernel
theorem d1_45 : decode method_3_code 45 = .ok (.dup, 1) := by decide +kernel
theorem d1_46 : decode method_3_code 46 = .ok (.iconst 2, 1) := by decide +kernel
theorem d1_47 : decode method_3_code 47 = .ok (.newarray .char, 2) := by decide +kernel
theorem d1_49 : decode method_3_code 49 = .ok (.dup, 1) := by decide +kernel
theorem d1_50 : decode method_3_code 50 = .ok (.iconst 0, 1) := by decide +kernel
theorem d1_51 : decode method_3_code 51 = .ok (.aload_n 1, 1) := by decide +kernel
theorem d1_52 : decode method_3_code 52 = .ok (.iconst 0, 1) := by decide +kernel
theorem d1_53 : decode method_3_code 53 = .ok (.caload, 1) := by decide +kernel
theorem d1_54 : decode method_3_code 54 = .ok (.castore, 1) := by decide +kernel
theorem d1_55 : decode method_3_code 55 = .ok (.dup, 1) := by decide +kernel
theorem d1_56 : decode method_3_code 56 = .ok (.iconst 1, 1) := by decide +kernel
theorem d1_57 : decode method_3_code 57 = .ok (.aload_n 1, 1) := by decide +kernel
theorem d1_58 : decode method_3_code 58 = .ok (.iconst 1, 1) := by decide +kernel
theorem d1_59 : decode method_3_code 59 = .ok (.caload, 1) := by decide +kernel
theorem d1_60 : decode method_3_code 60 = .ok (.castore, 1) := by decide +kernel
theorem d1_61 : decode method_3_code 61 = .ok (.invokespecial 28, 3) := by decide +kernel
theorem d1_64 : decode method_3_code 64 = .ok (.areturn, 1) := by decide +kernel
def Q_text2 (Z : State) (al : Addr) (ka : ClassId) (c0 : Int32) (c1 : Int32) (c2 : Int32) (cz : Int32) (h0 : Heap) (n0 : Nat) (v : Option Value) (h : Heap) (L : List Loc) : Prop := Fr n0 L ∧ Keep h0 h [] ∧ ∃ (a b : Addr) (kb : ClassId), v = some (.ref a) ∧ h0.size ≤ a ∧ a ≠ b ∧ Exa Z h a "java/lang/String" ∧ Fld Z h a "java/lang/String" "coder" "B" (.int (0 : Int32)) ∧ Fld Z h a "java/lang/String" "value" "[B" (.ref b) ∧ Arv Z h b kb .byte (2 : Int32) [(.int (nar .byte ((nar .char c0).toInt8.toInt32))), (.int (nar .byte ((nar .char c1).toInt8.toInt32)))] (.int (0 : Int32))
set_option maxRecDepth 65536 in
set_option maxHeartbeats 40000000 in
theorem rm_text2 (l : Launch) (Z : State) (a0 : Array Value) (hw : ∀ d ∈ tables_1, d.before a0 Z = true) (ws : List Jvm.Cond) (al : Addr) (ka : ClassId) (c0 : Int32) (c1 : Int32) (c2 : Int32) (cz : Int32) (h0 : Heap) (n0 : Nat) (Z0 : n0 ≤ h0.size) (O2 : Sta Z Z.heap "java/lang/String" "COMPACT_STRINGS" "Z" (.int cz)) (P5 : ¬ cz = (0 : Int32)) (OLD : Old Z n0 h0) (VA : Arv Z h0 al ka .char (3 : Int32) [(.int c0), (.int c1), (.int c2)] (.int (0 : Int32))) (hc0 : 0 ≤ c0.toInt ∧ c0.toInt ≤ 255) (hc1 : 0 ≤ c1.toInt ∧ c1.toInt ≤ 255) (hc2 : 0 ≤ c2.toInt ∧ c2.toInt ≤ 255) :
    MetFree l (⟨"com/example/pathloom/pathloom/web/ReaderAtEndPinLaw", "text", "(I[C)Ljava/lang/String;"⟩ : MethodName) (head1 (Jvm.Cond.code (⟨"com/example/pathloom/pathloom/web/ReaderAtEndPinLaw", "text", "(I[C)Ljava/lang/String;"⟩ : MethodName) method_3_code 2 (some (.object "java/lang/String")) :: ws) ({ frames := 4, cells := 3, slots := 8, locals := 66 } : Room)) (fun aa_ U => aa_ = #[(.int (2 : Int32)), (.ref al)] ∧ Z.Warmed39 U.vm ∧ U.heap = h0) (fun _ _ _ _ _ => True) (fun _ U o_ U' => RetG U (Q_text2 Z al ka c0 c1 c2 cz h0 n0) 3 8 U' o_) := by
  refine MetFree.of_bodySF (plainFor_of_name own_pn1) hisR ?_
  intro p e s m args below meth c_ s₁ Bd hml0 hP hK
  obtain ⟨rfl, hZ, hh⟩ := hP
  have hx := Bd.exec
  have hby := Bd.bytes
  have hml : c_.maxLocals = 2 := hml0
  have hown : s.vm.findClass "com/example/pathloom/pathloom/web/ReaderAtEndPinLaw" = some m.cls := findClass_of_methodNamed Bd.named
  have hnm := (name_of_methodNamed Bd.named Bd.method).1
  have X0 : Stand p l e ({ frames := 4, cells := 3, slots := 8, locals := 66 } : Room) s m #[(.int (2 : Int32)), (.ref al)] below meth c_ s₁ [] 0 0 := Stand.of_body Bd
  have e0 : s₁.heap = h0 := by rw [← hh, Bd.state]; rfl
  have N0 := Fr.nil n0
  have w0_ := hw _ (List.mem_of_getElem? (i := 0) rfl)
  have w5_ := hw _ (List.mem_of_getElem? (i := 5) rfl)
  have w6_ := hw _ (List.mem_of_getElem? (i := 6) rfl)
  have w7_ := hw _ (List.mem_of_getElem? (i := 7) rfl)
  have w8_ := hw _ (List.mem_of_getElem? (i := 8) rfl)
  have w9_ := hw _ (List.mem_of_getElem? (i := 9) rfl)
  have w10_ := hw _ (List.mem_of_getElem? (i := 10) rfl)
  have w20_ := hw _ (List.mem_of_getElem? (i := 20) rfl)
  have w21_ := hw _ (List.mem_of_getElem? (i := 21) rfl)
  show Go p e below (RetG s (Q_text2 Z al ka c0 c1 c2 cz h0 n0) 3 8) (s₁.setTop (entryFrame m #[(.int (2 : Int32)), (.ref al)] 2))
  rw [show entryFrame m #[(.int (2 : Int32)), (.ref al)] 2 = mkF m 0 #[.val (.int (2 : Int32)), .val (.ref al)] [] from by first | (simp [entryFrame, mkF, argsToLocals, Value.category]; done) | rfl]
  refine g_iloadN X0 hx hby d1_0 rfl ?_
  refine g_ifY X0 hx hby 15 d1_1 (feq (by decide : ¬ ((2 : Int32) = (0 : Int32)))).2 (by decide) (by decide) ?_
  refine g_iloadN X0 hx hby d1_15 rfl ?_
  refine g_iconst X0 hx hby (1 : Int32) d1_16 rfl ?_
  refine g_icY X0 hx hby 37 d1_17 (feq (by decide : ¬ ((2 : Int32) = (1 : Int32)))).2 (by decide) (by decide) ?_
  refine g_iloadN X0 hx hby d1_37 rfl ?_
  refine g_iconst X0 hx hby (2 : Int32) d1_38 rfl ?_
  refine g_icN X0 hx hby d1_39 (teq (by decide : (2 : Int32) = (2 : Int32))).2 ?_
  refine g_new X0 hx hby hZ hown w5_ w6_ w7_ e0 (by decide) (by decide) d1_42 (fun T1 h1 b1 g1 X1 e1 E1 A1 D1 => ?_)
  have F_value_b1 : Fld Z h1 b1 "java/lang/String" "value" "[B" .null := D1 (Or.inr w20_) (ty := (.array .byte)) (by decide)
  have F_coder_b1 : Fld Z h1 b1 "java/lang/String" "coder" "B" (.int (0 : Int32)) := D1 (Or.inr w21_) (ty := .byte) (by decide)
  refine g_dup X1 hx hby d1_45 rfl ?_
  refine g_iconst X1 hx hby (2 : Int32) d1_46 rfl ?_
  refine g_newarray X1 hx hby hZ .char .char (.int (0 : Int32)) [(.int (0 : Int32)), (.int (0 : Int32))] rfl rfl w0_ e1 (by decide) 2 rfl (by decide) (by decide) (by decide) (by decide) d1_47 (fun T2 h2 k2 b2 g2 X2 e2 E2 V2 => ?_)
  refine g_dup X2 hx hby d1_49 rfl ?_
  refine g_iconst X2 hx hby (0 : Int32) d1_50 rfl ?_
  refine g_aloadN X2 hx hby d1_51 rfl rfl ?_
  refine g_iconst X2 hx hby (0 : Int32) d1_52 rfl ?_
  have f3 := ((VA.ext E1).ext E2)
  refine g_caload X2 hx hby hZ e2 f3 (.int c0) ⟨by decide, by decide⟩ rfl d1_53 ?_
  have g_b2 : n0 ≤ b2 := Nat.le_trans (Nat.le_trans Z0 E1.1) (Nat.le_of_eq g2)
  refine g_castore X2 hx hby hZ e2 V2 0 [(.int (nar .char c0)), (.int (0 : Int32))] rfl ⟨by decide, by decide⟩ rfl (Nat.le_of_ble_eq_true rfl) N0 g_b2 d1_54 (fun T4 h4 X4 e4 W4 V4 N4 => ?_)
  refine g_dup X4 hx hby d1_55 rfl ?_
  refine g_iconst X4 hx hby (1 : Int32) d1_56 rfl ?_
  refine g_aloadN X4 hx hby d1_57 rfl rfl ?_
  refine g_iconst X4 hx hby (1 : Int32) d1_58 rfl ?_
  have ne5 : al ≠ b2 := (Nat.ne_of_lt (Nat.lt_of_lt_of_le VA.lt (Nat.le_trans E1.1 (Nat.le_of_eq g2))))
  have f6 := (f3.other W4 ne5)
  refine g_caload X4 hx hby hZ e4 f6 (.int c1) ⟨by decide, by decide⟩ rfl d1_59 ?_
  refine g_castore X4 hx hby hZ e4 V4 1 [(.int (nar .char c0)), (.int (nar .char c1))] rfl ⟨by decide, by decide⟩ rfl (Nat.le_of_ble_eq_true rfl) N4 g_b2 d1_60 (fun T7 h7 X7 e7 W7 V7 N7 => ?_)
  have f9 := ((((OLD.ext E1).ext E2).wr W4 g_b2).wr W7 g_b2)
  have f10 := (((A1.ext E2).wr W4).wr W7)
  have ne11 : b1 ≠ b2 := (Nat.ne_of_lt (Nat.lt_of_lt_of_le A1.lt (Nat.le_of_eq g2)))
  have f12 := (((F_coder_b1.ext E2).other W4 (Or.inl ne11)).other W7 (Or.inl ne11))
  have f13 := (((F_value_b1.ext E2).other W4 (Or.inl ne11)).other W7 (Or.inl ne11))
  have g_b1 : n0 ≤ b1 := Nat.le_trans Z0 (Nat.le_of_eq g1)
  have z14 := (Nat.le_trans Z0 (Nat.le_trans (Nat.le_trans (Nat.le_trans E1.1 E2.1) (Keep.of_wr W4).1) (Keep.of_wr W7).1))
  refine g_special X7 hx hby hZ hown (rm_ini1_2 l Z a0 hw [] b1 b2 k2 (nar .char c0) (nar .char c1) cz h7 n0 z14 O2 P5 f9 f10 f12 f13 V7 g_b1 (own_le hc0) (own_le hc1)) rfl rfl w8_ w9_ w7_ w10_ (by decide) e7 (by rw [hml]; rfl) [(.ref b2)] (lenOf own_pd1 rfl) rfl rfl (Nat.le_of_ble_eq_true rfl) (Nat.le_of_ble_eq_true rfl) (Nat.le_of_ble_eq_true rfl) (Nat.le_of_ble_eq_true rfl) d1_61 (fun v8 T8 L8 X8 hQ8 => ?_)
  obtain ⟨rfl, N8q, K8, t8, kb8, lo8, Es8, Cs8, Vs8, Bs8⟩ := hQ8
  have N8 := Fr.app N7 N8q
  have ne15 : b1 ≠ t8 := (Nat.ne_of_lt (Nat.lt_of_lt_of_le A1.lt (Nat.le_trans (Nat.le_trans (Nat.le_trans E2.1 (Keep.of_wr W4).1) (Keep.of_wr W7).1) lo8)))
  refine g_aret X8 hx hby (t := (.object "java/lang/String")) rfl rfl rfl Bd.returns Bd.notSynchronized d1_64 rfl (by decide) (by decide) ?_
  show (Q_text2 Z al ka c0 c1 c2 cz h0 n0) (some (.ref b1)) _ _
  exact ⟨N8, ((((((Keep.refl h0 []).ext E1).ext E2).wr W4 (Or.inr (Nat.le_trans E1.1 (Nat.le_of_eq g2)))).wr W7 (Or.inr (Nat.le_trans E1.1 (Nat.le_of_eq g2)))).trans K8 (allS (Or.inr (Nat.le_trans (Nat.le_refl _) (Nat.le_of_eq g1))) all0)), b1, t8, kb8, rfl, (Nat.le_trans (Nat.le_refl _) (Nat.le_of_eq g1)), ne15, Es8, Cs8, Vs8, Bs8⟩

def Q_cmp5_3 (Z : State) (ca : Addr) (ba : Addr) (kc : ClassId) (kb : ClassId) (c0 : Int32) (c1 : Int32) (c2 : Int32) (h0 : Heap) (n0 : Nat) (v : Option Value) (h : Heap) (L : List Loc) : Prop := v = some (.int (3 : Int32)) ∧ Fr n0 L ∧ Keep h0 h [ba] ∧ Arv Z h ba kb .byte (3 : Int32) [(.int (nar .byte (c0.toInt8.toInt32))), (.int (nar .byte (c1.toInt8.toInt32))), (.int (nar .byte (c2.toInt8.toInt32)))] (.int (0 : Int32))
set_option maxRecDepth 65536 in
set_option maxHeartbeats 40000000 in
theorem rm_cmp5_3 (l : Launch) (Z : State) (a0 : Array Value) (hw : ∀ d ∈ tables_1, d.before a0 Z = true) (ws : List Jvm.Cond) (ca : Addr) (ba : Addr) (kc : ClassId) (kb : ClassId) (c0 : Int32) (c1 : Int32) (c2 : Int32) (h0 : Heap) (n0 : Nat) (Z0 : n0 ≤ h0.size) (VC : Arv Z h0 ca kc .char (3 : Int32) [(.int c0), (.int c1), (.int c2)] (.int (0 : Int32))) (VB : Arv Z h0 ba kb .byte (3 : Int32) [(.int (0 : Int32)), (.int (0 : Int32)), (.int (0 : Int32))] (.int (0 : Int32))) (nab : ca ≠ ba) (gb : n0 ≤ ba) (hc0 : ¬ (255 : Int32) < c0) (hc1 : ¬ (255 : Int32) < c1) (hc2 : ¬ (255 : Int32) < c2) :
    MetFree l (⟨"java/lang/StringUTF16", "compress", "([CI[BII)I"⟩ : MethodName) (head1 (Jvm.Cond.code (⟨"java/lang/StringUTF16", "compress", "([CI[BII)I"⟩ : MethodName) jdk_52_method_21_code 7 (some .int) :: ws) ({ frames := 0, cells := 0, slots := 0, locals := 0 } : Room)) (fun aa_ U => aa_ = #[(.ref ca), (.int (0 : Int32)), (.ref ba), (.int (0 : Int32)), (.int (3 : Int32))] ∧ Z.Warmed39 U.vm ∧ U.heap = h0) (fun _ _ _ _ _ => True) (fun _ U o_ U' => RetG U (Q_cmp5_3 Z ca ba kc kb c0 c1 c2 h0 n0) 0 0 U' o_) := by
  refine MetFree.of_bodySF (plainFor_of_name own_pn2) hisR ?_
  intro p e s m args below meth c_ s₁ Bd hml0 hP hK
  obtain ⟨rfl, hZ, hh⟩ := hP
  have hx := Bd.exec
  have hby := Bd.bytes
  have hml : c_.maxLocals = 7 := hml0
  have hown : s.vm.findClass "java/lang/StringUTF16" = some m.cls := findClass_of_methodNamed Bd.named
  have hnm := (name_of_methodNamed Bd.named Bd.method).1
  have X0 : Stand p l e ({ frames := 0, cells := 0, slots := 0, locals := 0 } : Room) s m #[(.ref ca), (.int (0 : Int32)), (.ref ba), (.int (0 : Int32)), (.int (3 : Int32))] below meth c_ s₁ [] 0 0 := Stand.of_body Bd
  have e0 : s₁.heap = h0 := by rw [← hh, Bd.state]; rfl
  have N0 := Fr.nil n0
  show Go p e below (RetG s (Q_cmp5_3 Z ca ba kc kb c0 c1 c2 h0 n0) 0 0) (s₁.setTop (entryFrame m #[(.ref ca), (.int (0 : Int32)), (.ref ba), (.int (0 : Int32)), (.int (3 : Int32))] 7))
  rw [show entryFrame m #[(.ref ca), (.int (0 : Int32)), (.ref ba), (.int (0 : Int32)), (.int (3 : Int32))] 7 = mkF m 0 #[.val (.ref ca), .val (.int (0 : Int32)), .val (.ref ba), .val (.int (0 : Int32)), .val (.int (3 : Int32)), .unset, .unset] [] from by first | (simp [entryFrame, mkF, argsToLocals, Value.category]; done) | rfl]
  refine g_iconst X0 hx hby (0 : Int32) d14_0 rfl ?_
  refine g_istore X0 hx hby d14_1 (l' := #[.val (.ref ca), .val (.int (0 : Int32)), .val (.ref ba), .val (.int (0 : Int32)), .val (.int (3 : Int32)), .val (.int (0 : Int32)), .unset]) rfl ?_
  refine g_iload X0 hx hby d14_3 rfl ?_
  refine g_iload X0 hx hby d14_5 rfl ?_
  refine g_icN X0 hx hby d14_7 (tlt (by decide : (0 : Int32) < (3 : Int32))).2.1 ?_
  refine g_aloadN X0 hx hby d14_10 rfl rfl ?_
  refine g_iloadN X0 hx hby d14_11 rfl ?_
  refine g_caload X0 hx hby hZ e0 VC (.int c0) ⟨by decide, by decide⟩ rfl d14_12 ?_
  refine g_istore X0 hx hby d14_13 (l' := #[.val (.ref ca), .val (.int (0 : Int32)), .val (.ref ba), .val (.int (0 : Int32)), .val (.int (3 : Int32)), .val (.int (0 : Int32)), .val (.int c0)]) rfl ?_
  refine g_iload X0 hx hby d14_15 rfl ?_
  refine g_sipush X0 hx hby (255 : Int32) d14_17 rfl ?_
  refine g_icY X0 hx hby 26 d14_20 (flt (hc0 : ¬ ((255 : Int32) < c0))).2.2.2 (by decide) (by decide) ?_
  refine g_aloadN X0 hx hby d14_26 rfl rfl ?_
  refine g_iloadN X0 hx hby d14_27 rfl ?_
  refine g_iload X0 hx hby d14_28 rfl ?_
  refine g_i2b X0 hx hby d14_30 ?_
  refine g_bastore X0 hx hby hZ e0 VB 0 [(.int (nar .byte (c0.toInt8.toInt32))), (.int (0 : Int32)), (.int (0 : Int32))] rfl ⟨by decide, by decide⟩ rfl (Nat.le_of_ble_eq_true rfl) N0 gb d14_31 (fun T1 h1 X1 e1 W1 V1 N1 => ?_)
  refine g_iinc X1 hx hby (1 : Int32) d14_32 rfl (by decide) (l' := #[.val (.ref ca), .val (.int (1 : Int32)), .val (.ref ba), .val (.int (0 : Int32)), .val (.int (3 : Int32)), .val (.int (0 : Int32)), .val (.int c0)]) rfl ?_
  refine g_iinc X1 hx hby (1 : Int32) d14_35 rfl (by decide) (l' := #[.val (.ref ca), .val (.int (1 : Int32)), .val (.ref ba), .val (.int (1 : Int32)), .val (.int (3 : Int32)), .val (.int (0 : Int32)), .val (.int c0)]) rfl ?_
  refine g_iinc X1 hx hby (1 : Int32) d14_38 rfl (by decide) (l' := #[.val (.ref ca), .val (.int (1 : Int32)), .val (.ref ba), .val (.int (1 : Int32)), .val (.int (3 : Int32)), .val (.int (1 : Int32)), .val (.int c0)]) rfl ?_
  refine g_goto X1 hx hby 3 d14_41 (by decide) (by decide) ?_
  refine g_iload X1 hx hby d14_3 rfl ?_
  refine g_iload X1 hx hby d14_5 rfl ?_
  refine g_icN X1 hx hby d14_7 (tlt (by decide : (1 : Int32) < (3 : Int32))).2.1 ?_
  refine g_aloadN X1 hx hby d14_10 rfl rfl ?_
  refine g_iloadN X1 hx hby d14_11 rfl ?_
  have f2 := (VC.other W1 nab)
  refine g_caload X1 hx hby hZ e1 f2 (.int c1) ⟨by decide, by decide⟩ rfl d14_12 ?_
  refine g_istore X1 hx hby d14_13 (l' := #[.val (.ref ca), .val (.int (1 : Int32)), .val (.ref ba), .val (.int (1 : Int32)), .val (.int (3 : Int32)), .val (.int (1 : Int32)), .val (.int c1)]) rfl ?_
  refine g_iload X1 hx hby d14_15 rfl ?_
  refine g_sipush X1 hx hby (255 : Int32) d14_17 rfl ?_
  refine g_icY X1 hx hby 26 d14_20 (flt (hc1 : ¬ ((255 : Int32) < c1))).2.2.2 (by decide) (by decide) ?_
  refine g_aloadN X1 hx hby d14_26 rfl rfl ?_
  refine g_iloadN X1 hx hby d14_27 rfl ?_
  refine g_iload X1 hx hby d14_28 rfl ?_
  refine g_i2b X1 hx hby d14_30 ?_
  refine g_bastore X1 hx hby hZ e1 V1 1 [(.int (nar .byte (c0.toInt8.toInt32))), (.int (nar .byte (c1.toInt8.toInt32))), (.int (0 : Int32))] rfl ⟨by decide, by decide⟩ rfl (Nat.le_of_ble_eq_true rfl) N1 gb d14_31 (fun T3 h3 X3 e3 W3 V3 N3 => ?_)
  refine g_iinc X3 hx hby (2 : Int32) d14_32 rfl (by decide) (l' := #[.val (.ref ca), .val (.int (2 : Int32)), .val (.ref ba), .val (.int (1 : Int32)), .val (.int (3 : Int32)), .val (.int (1 : Int32)), .val (.int c1)]) rfl ?_
  refine g_iinc X3 hx hby (2 : Int32) d14_35 rfl (by decide) (l' := #[.val (.ref ca), .val (.int (2 : Int32)), .val (.ref ba), .val (.int (2 : Int32)), .val (.int (3 : Int32)), .val (.int (1 : Int32)), .val (.int c1)]) rfl ?_
  refine g_iinc X3 hx hby (2 : Int32) d14_38 rfl (by decide) (l' := #[.val (.ref ca), .val (.int (2 : Int32)), .val (.ref ba), .val (.int (2 : Int32)), .val (.int (3 : Int32)), .val (.int (2 : Int32)), .val (.int c1)]) rfl ?_
  refine g_goto X3 hx hby 3 d14_41 (by decide) (by decide) ?_
  refine g_iload X3 hx hby d14_3 rfl ?_
  refine g_iload X3 hx hby d14_5 rfl ?_
  refine g_icN X3 hx hby d14_7 (tlt (by decide : (2 : Int32) < (3 : Int32))).2.1 ?_
  refine g_aloadN X3 hx hby d14_10 rfl rfl ?_
  refine g_iloadN X3 hx hby d14_11 rfl ?_
  have f4 := (f2.other W3 nab)
  refine g_caload X3 hx hby hZ e3 f4 (.int c2) ⟨by decide, by decide⟩ rfl d14_12 ?_
  refine g_istore X3 hx hby d14_13 (l' := #[.val (.ref ca), .val (.int (2 : Int32)), .val (.ref ba), .val (.int (2 : Int32)), .val (.int (3 : Int32)), .val (.int (2 : Int32)), .val (.int c2)]) rfl ?_
  refine g_iload X3 hx hby d14_15 rfl ?_
  refine g_sipush X3 hx hby (255 : Int32) d14_17 rfl ?_
  refine g_icY X3 hx hby 26 d14_20 (flt (hc2 : ¬ ((255 : Int32) < c2))).2.2.2 (by decide) (by decide) ?_
  refine g_aloadN X3 hx hby d14_26 rfl rfl ?_
  refine g_iloadN X3 hx hby d14_27 rfl ?_
  refine g_iload X3 hx hby d14_28 rfl ?_
  refine g_i2b X3 hx hby d14_30 ?_
  refine g_bastore X3 hx hby hZ e3 V3 2 [(.int (nar .byte (c0.toInt8.toInt32))), (.int (nar .byte (c1.toInt8.toInt32))), (.int (nar .byte (c2.toInt8.toInt32)))] rfl ⟨by decide, by decide⟩ rfl (Nat.le_of_ble_eq_true rfl) N3 gb d14_31 (fun T5 h5 X5 e5 W5 V5 N5 => ?_)
  refine g_iinc X5 hx hby (3 : Int32) d14_32 rfl (by decide) (l' := #[.val (.ref ca), .val (.int (3 : Int32)), .val (.ref ba), .val (.int (2 : Int32)), .val (.int (3 : Int32)), .val (.int (2 : Int32)), .val (.int c2)]) rfl ?_
  refine g_iinc X5 hx hby (3 : Int32) d14_35 rfl (by decide) (l' := #[.val (.ref ca), .val (.int (3 : Int32)), .val (.ref ba), .val (.int (3 : Int32)), .val (.int (3 : Int32)), .val (.int (2 : Int32)), .val (.int c2)]) rfl ?_
  refine g_iinc X5 hx hby (3 : Int32) d14_38 rfl (by decide) (l' := #[.val (.ref ca), .val (.int (3 : Int32)), .val (.ref ba), .val (.int (3 : Int32)), .val (.int (3 : Int32)), .val (.int (3 : Int32)), .val (.int c2)]) rfl ?_
  refine g_goto X5 hx hby 3 d14_41 (by decide) (by decide) ?_
  refine g_iload X5 hx hby d14_3 rfl ?_
  refine g_iload X5 hx hby d14_5 rfl ?_
  refine g_icY X5 hx hby 44 d14_7 (flt (by decide : ¬ ((3 : Int32) < (3 : Int32)))).2.1 (by decide) (by decide) ?_
  refine g_iload X5 hx hby d14_44 rfl ?_
  refine g_iret X5 hx hby Bd.returns Bd.notSynchronized d14_46 e5 (by decide) (by decide) ?_
  show (Q_cmp5_3 Z ca ba kc kb c0 c1 c2 h0 n0) (some (.int (3 : Int32))) _ _
  exact ⟨rfl, N5, ((((Keep.refl h0 [ba]).wr W1 (Or.inl (List.mem_of_getElem? (i := 0) rfl))).wr W3 (Or.inl (List.mem_of_getElem? (i := 0) rfl))).wr W5 (Or.inl (List.mem_of_getElem? (i := 0) rfl))), V5⟩

def Q_cmp_3 (Z : State) (ca : Addr) (kc : ClassId) (c0 : Int32) (c1 : Int32) (c2 : Int32) (h0 : Heap) (n0 : Nat) (v : Option Value) (h : Heap) (L : List Loc) : Prop := Fr n0 L ∧ Keep h0 h [] ∧ ∃ (b : Addr) (kb : ClassId), v = some (.ref b) ∧ h0.size ≤ b ∧ Arv Z h b kb .byte (3 : Int32) [(.int (nar .byte (c0.toInt8.toInt32))), (.int (nar .byte (c1.toInt8.toInt32))), (.int (nar .byte (c2.toInt8.toInt32)))] (.int (0 : Int32))
set_option maxRecDepth 65536 in
set_option maxHeartbeats 40000000 in
theorem rm_cmp_3 (l : Launch) (Z : State) (a0 : Array Value) (hw : ∀ d ∈ tables_1, d.before a0 Z = true) (ws : List Jvm.Cond) (ca : Addr) (kc : ClassId) (c0 : Int32) (c1 : Int32) (c2 : Int32) (h0 : Heap) (n0 : Nat) (Z0 : n0 ≤ h0.size) (VC : Arv Z h0 ca kc .char (3 : Int32) [(.int c0), (.int c1), (.int c2)] (.int (0 : Int32))) (hc0 : ¬ (255 : Int32) < c0) (hc1 : ¬ (255 : Int32) < c1) (hc2 : ¬ (255 : Int32) < c2) :
    MetFree l (⟨"java/lang/StringUTF16", "compress", "([CII)[B"⟩ : MethodName) (head1 (Jvm.Cond.code (⟨"java/lang/StringUTF16", "compress", "([CII)[B"⟩ : MethodName) jdk_52_method_16_code 6 (some (.array .byte)) :: ws) ({ frames := 1, cells := 1, slots := 3, locals := 18 } : Room)) (fun aa_ U => aa_ = #[(.ref ca), (.int (0 : Int32)), (.int (3 : Int32))] ∧ Z.Warmed39 U.vm ∧ U.heap = h0) (fun _ _ _ _ _ => True) (fun _ U o_ U' => RetG U (Q_cmp_3 Z ca kc c0 c1 c2 h0 n0) 1 3 U' o_) := by
  refine MetFree.of_bodySF (plainFor_of_name own_pn2) hisR ?_
  intro p e s m args below meth c_ s₁ Bd hml0 hP hK
  obtain ⟨rfl, hZ, hh⟩ := hP
  have hx := Bd.exec
  have hby := Bd.bytes
  have hml : c_.maxLocals = 6 := hml0
  have hown : s.vm.findClass "java/lang/StringUTF16" = some m.cls := findClass_of_methodNamed Bd.named
  have hnm := (name_of_methodNamed Bd.named Bd.method).1
  have X0 : Stand p l e ({ frames := 1, cells := 1, slots := 3, locals := 18 } : Room) s m #[(.ref ca), (.int (0 : Int32)), (.int (3 : Int32))] below meth c_ s₁ [] 0 0 := Stand.of_body Bd
  have e0 : s₁.heap = h0 := by rw [← hh, Bd.state]; rfl
  have N0 := Fr.nil n0
  have w19_ := hw _ (List.mem_of_getElem? (i := 19) rfl)
  have w73_ := hw _ (List.mem_of_getElem? (i := 73) rfl)
  have w75_ := hw _ (List.mem_of_getElem? (i := 75) rfl)
  have w76_ := hw _ (List.mem_of_getElem? (i := 76) rfl)
  have w77_ := hw _ (List.mem_of_getElem? (i := 77) rfl)
  show Go p e below (RetG s (Q_cmp_3 Z ca kc c0 c1 c2 h0 n0) 1 3) (s₁.setTop (entryFrame m #[(.ref ca), (.int (0 : Int32)), (.int (3 : Int32))] 6))
  rw [show entryFrame m #[(.ref ca), (.int (0 : Int32)), (.int (3 : Int32))] 6 = mkF m 0 #[.val (.ref ca), .val (.int (0 : Int32)), .val (.int (3 : Int32)), .unset, .unset, .unset] [] from by first | (simp [entryFrame, mkF, argsToLocals, Value.category]; done) | rfl]
  refine g_iloadN X0 hx hby d13_0 rfl ?_
  refine g_newarray X0 hx hby hZ .byte .byte (.int (0 : Int32)) [(.int (0 : Int32)), (.int (0 : Int32)), (.int (0 : Int32))] rfl rfl w19_ e0 (by decide) 3 rfl (by decide) (by decide) (by decide) (by decide) d13_1 (fun T1 h1 k1 b1 g1 X1 e1 E1 V1 => ?_)
  refine g_astoreN X1 hx hby d13_3 rfl (l' := #[.val (.ref ca), .val (.int (0 : Int32)), .val (.int (3 : Int32)), .val (.ref b1), .unset, .unset]) rfl ?_
  refine g_aloadN X1 hx hby d13_4 rfl rfl ?_
  refine g_iloadN X1 hx hby d13_5 rfl ?_
  refine g_aloadN X1 hx hby d13_6 rfl rfl ?_
  refine g_iconst X1 hx hby (0 : Int32) d13_7 rfl ?_
  refine g_iloadN X1 hx hby d13_8 rfl ?_
  have f3 := (VC.ext E1)
  have ne4 : ca ≠ b1 := (Nat.ne_of_lt (Nat.lt_of_lt_of_le VC.lt (Nat.le_of_eq g1)))
  have g_b1 : n0 ≤ b1 := Nat.le_trans Z0 (Nat.le_of_eq g1)
  have z5 := (Nat.le_trans Z0 E1.1)
  refine g_static X1 hx hby hZ hown (rm_cmp5_3 l Z a0 hw [] ca b1 kc k1 c0 c1 c2 h1 n0 z5 f3 V1 ne4 g_b1 hc0 hc1 hc2) w75_ w76_ w73_ w77_ (by decide) e1 (by rw [hml]; rfl) [(.ref ca), (.int (0 : Int32)), (.ref b1), (.int (0 : Int32)), (.int (3 : Int32))] (lenOf own_pd2 rfl) rfl rfl (Nat.le_of_ble_eq_true rfl) (Nat.le_of_ble_eq_true rfl) (Nat.le_of_ble_eq_true rfl) (Nat.le_of_ble_eq_true rfl) d13_9 (fun v2 T2 L2 X2 hQ2 => ?_)
  obtain ⟨rfl, N2q, K2, V2⟩ := hQ2
  have N2 := Fr.app N0 N2q
  refine g_istore X2 hx hby d13_12 (l' := #[.val (.ref ca), .val (.int (0 : Int32)), .val (.int (3 : Int32)), .val (.ref b1), .val (.int (3 : Int32)), .unset]) rfl ?_
  refine g_iload X2 hx hby d13_14 rfl ?_
  refine g_iloadN X2 hx hby d13_16 rfl ?_
  refine g_icY X2 hx hby 57 d13_17 (teq (by decide : (3 : Int32) = (3 : Int32))).1 (by decide) (by decide) ?_
  refine g_aloadN X2 hx hby d13_57 rfl rfl ?_
  refine g_aret X2 hx hby (t := (.array .byte)) rfl rfl rfl Bd.returns Bd.notSynchronized d13_58 rfl (by decide) (by decide) ?_
  show (Q_cmp_3 Z ca kc c0 c1 c2 h0 n0) (some (.ref b1)) _ _
  exact ⟨N2, (((Keep.refl h0 []).ext E1).trans K2 (allS (Or.inr (Nat.le_trans (Nat.le_refl _) (Nat.le_of_eq g1))) all0)), b1, k1, rfl, (Nat.le_trans (Nat.le_refl _) (Nat.le_of_eq g1)), V2⟩

def Q_cfal_3_3 (Z : State) (ba : Addr) (kb : ClassId) (bs : List Value) (h0 : Heap) (n0 : Nat) (v : Option Value) (h : Heap) (L : List Loc) : Prop := v = some (.int (0 : Int32)) ∧ Fr n0 L ∧ h = h0
set_option maxRecDepth 65536 in
set_option maxHeartbeats 40000000 in
theorem rm_cfal_3_3 (l : Launch) (Z : State) (a0 : Array Value) (hw : ∀ d ∈ tables_1, d.before a0 Z = true) (ws : List Jvm.Cond) (ba : Addr) (kb : ClassId) (bs : List Value) (h0 : Heap) (n0 : Nat) (Z0 : n0 ≤ h0.size) (VB : Arv Z h0 ba kb .byte (3 : Int32) bs (.int (0 : Int32))) :
    MetFree l (⟨"java/lang/StringUTF16", "coderFromArrayLen", "([BI)B"⟩ : MethodName) (head1 (Jvm.Cond.code (⟨"java/lang/StringUTF16", "coderFromArrayLen", "([BI)B"⟩ : MethodName) jdk_52_method_15_code 2 (some .byte) :: ws) ({ frames := 0, cells := 0, slots := 0, locals := 0 } : Room)) (fun aa_ U => aa_ = #[(.ref ba), (.int (3 : Int32))] ∧ Z.Warmed39 U.vm ∧ U.heap = h0) (fun _ _ _ _ _ => True) (fun _ U o_ U' => RetG U (Q_cfal_3_3 Z ba kb bs h0 n0) 0 0 U' o_) := by
  refine MetFree.of_bodySF (plainFor_of_name own_pn2) hisR ?_
  intro p e s m args below meth c_ s₁ Bd hml0 hP hK
  obtain ⟨rfl, hZ, hh⟩ := hP
  have hx := Bd.exec
  have hby := Bd.bytes
  have hml : c_.maxLocals = 2 := hml0
  have hown : s.vm.findClass "java/lang/StringUTF16" = some m.cls := findClass_of_methodNamed Bd.named
  have hnm := (name_of_methodNamed Bd.named Bd.method).1
  have X0 : Stand p l e ({ frames := 0, cells := 0, slots := 0, locals := 0 } : Room) s m #[(.ref ba), (.int (3 : Int32))] below meth c_ s₁ [] 0 0 := Stand.of_body Bd
  have e0 : s₁.heap = h0 := by rw [← hh, Bd.state]; rfl
  have N0 := Fr.nil n0
  show Go p e below (RetG s (Q_cfal_3_3 Z ba kb bs h0 n0) 0 0) (s₁.setTop (entryFrame m #[(.ref ba), (.int (3 : Int32))] 2))
  rw [show entryFrame m #[(.ref ba), (.int (3 : Int32))] 2 = mkF m 0 #[.val (.ref ba), .val (.int (3 : Int32))] [] from by first | (simp [entryFrame, mkF, argsToLocals, Value.category]; done) | rfl]
  refine g_iloadN X0 hx hby d15_0 rfl ?_
  refine g_aloadN X0 hx hby d15_1 rfl rfl ?_
  refine g_arraylength X0 hx hby hZ e0 VB d15_2 ?_
  refine g_isub X0 hx hby d15_3 ?_
  refine g_topI (0 : Int32) (by decide) ?_
  refine g_bipush X0 hx hby (31 : Int32) d15_4 rfl ?_
  refine g_iushr X0 hx hby d15_6 ?_
  refine g_topI (0 : Int32) (by decide) ?_
  refine g_i2b X0 hx hby d15_7 ?_
  refine g_topI (0 : Int32) (by decide) ?_
  refine g_nret X0 hx hby (t := .byte) (by simp) Bd.returns Bd.notSynchronized d15_8 e0 (by decide) (by decide) ?_
  show (Q_cfal_3_3 Z ba kb bs h0 n0) (some (.int (0 : Int32))) _ _
  exact ⟨rfl, N0, rfl⟩

def Q_ini2_3 (Z : State) (a : Addr) (ca : Addr) (kc : ClassId) (c0 : Int32) (c1 : Int32) (c2 : Int32) (cz : Int32) (h0 : Heap) (n0 : Nat) (v : Option Value) (h : Heap) (L : List Loc) : Prop := v = none ∧ Fr n0 L ∧ Keep h0 h [a] ∧ ∃ (b : Addr) (kb : ClassId), h0.size ≤ b ∧ Exa Z h a "java/lang/String" ∧ Fld Z h a "java/lang/String" "coder" "B" (.int (0 : Int32)) ∧ Fld Z h a "java/lang/String" "value" "[B" (.ref b) ∧ Arv Z h b kb .byte (3 : Int32) [(.int (nar .byte (c0.toInt8.toInt32))), (.int (nar .byte (c1.toInt8.toInt32))), (.int (nar .byte (c2.toInt8.toInt32)))] (.int (0 : Int32))
set_option maxRecDepth 65536 in
set_option maxHeartbeats 40000000 in
theorem rm_ini2_3 (l : Launch) (Z : State) (a0 : Array Value) (hw : ∀ d ∈ tables_1, d.before a0 Z = true) (ws : List Jvm.Cond) (a : Addr) (ca : Addr) (kc : ClassId) (c0 : Int32) (c1 : Int32) (c2 : Int32) (cz : Int32) (h0 : Heap) (n0 : Nat) (Z0 : n0 ≤ h0.size) (O2 : Sta Z Z.heap "java/lang/String" "COMPACT_STRINGS" "Z" (.int cz)) (P5 : ¬ cz = (0 : Int32)) (OLD : Old Z n0 h0) (E : Exa Z h0 a "java/lang/String") (FC : Fld Z h0 a "java/lang/String" "coder" "B" (.int (0 : Int32))) (FV : Fld Z h0 a "java/lang/String" "value" "[B" .null) (VC : Arv Z h0 ca kc .char (3 : Int32) [(.int c0), (.int c1), (.int c2)] (.int (0 : Int32))) (ga : n0 ≤ a) (hc0 : ¬ (255 : Int32) < c0) (hc1 : ¬ (255 : Int32) < c1) (hc2 : ¬ (255 : Int32) < c2) :
    MetFree l (⟨"java/lang/String", "<init>", "([CIILjava/lang/Void;)V"⟩ : MethodName) (head1 (Jvm.Cond.code (⟨"java/lang/String", "<init>", "([CIILjava/lang/Void;)V"⟩ : MethodName) jdk_42_method_149_code 6 none :: ws) ({ frames := 2, cells := 1, slots := 3, locals := 35 } : Room)) (fun aa_ U => aa_ = #[(.ref a), (.ref ca), (.int (0 : Int32)), (.int (3 : Int32)), .null] ∧ Z.Warmed39 U.vm ∧ U.heap = h0) (fun _ _ _ _ _ => True) (fun _ U o_ U' => RetG U (Q_ini2_3 Z a ca kc c0 c1 c2 cz h0 n0) 1 3 U' o_) := by
  refine MetFree.of_bodySF (plainFor_of_name own_pn0) hisR ?_
  intro p e s m args below meth c_ s₁ Bd hml0 hP hK
  obtain ⟨rfl, hZ, hh⟩ := hP
  have hx := Bd.exec
  have hby := Bd.bytes
  have hml : c_.maxLocals = 6 := hml0
  have hown : s.vm.findClass "java/lang/String" = some m.cls := findClass_of_methodNamed Bd.named
  have hnm := (name_of_methodNamed Bd.named Bd.method).1
  have X0 : Stand p l e ({ frames := 2, cells := 1, slots := 3, locals := 35 } : Room) s m #[(.ref a), (.ref ca), (.int (0 : Int32)), (.int (3 : Int32)), .null] below meth c_ s₁ [] 0 0 := Stand.of_body Bd
  have e0 : s₁.heap = h0 := by rw [← hh, Bd.state]; rfl
  have N0 := Fr.nil n0
  have w6_ := hw _ (List.mem_of_getElem? (i := 6) rfl)
  have w15_ := hw _ (List.mem_of_getElem? (i := 15) rfl)
  have w16_ := hw _ (List.mem_of_getElem? (i := 16) rfl)
  have w17_ := hw _ (List.mem_of_getElem? (i := 17) rfl)
  have w20_ := hw _ (List.mem_of_getElem? (i := 20) rfl)
  have w21_ := hw _ (List.mem_of_getElem? (i := 21) rfl)
  have w24_ := hw _ (List.mem_of_getElem? (i := 24) rfl)
  have w25_ := hw _ (List.mem_of_getElem? (i := 25) rfl)
  have w52_ := hw _ (List.mem_of_getElem? (i := 52) rfl)
  have w71_ := hw _ (List.mem_of_getElem? (i := 71) rfl)
  have w72_ := hw _ (List.mem_of_getElem? (i := 72) rfl)
  have w73_ := hw _ (List.mem_of_getElem? (i := 73) rfl)
  have w74_ := hw _ (List.mem_of_getElem? (i := 74) rfl)
  have w78_ := hw _ (List.mem_of_getElem? (i := 78) rfl)
  have w79_ := hw _ (List.mem_of_getElem? (i := 79) rfl)
  have w80_ := hw _ (List.mem_of_getElem? (i := 80) rfl)
  show Go p e below (RetG s (Q_ini2_3 Z a ca kc c0 c1 c2 cz h0 n0) 1 3) (s₁.setTop (entryFrame m #[(.ref a), (.ref ca), (.int (0 : Int32)), (.int (3 : Int32)), .null] 6))
  rw [show entryFrame m #[(.ref a), (.ref ca), (.int (0 : Int32)), (.int (3 : Int32)), .null] 6 = mkF m 0 #[.val (.ref a), .val (.ref ca), .val (.int (0 : Int32)), .val (.int (3 : Int32)), .val .null, .unset] [] from by first | (simp [entryFrame, mkF, argsToLocals, Value.category]; done) | rfl]
  refine g_aloadN X0 hx hby d3_0 rfl rfl ?_
  refine g_initO X0 hx hby hZ hown w15_ w16_ w17_ e0 (by rw [hml]; rfl) (Nat.le_of_ble_eq_true rfl) (Nat.le_of_ble_eq_true rfl) d3_1 (fun T1 X1 e1 => ?_)
  refine g_iloadN X1 hx hby d3_4 rfl ?_
  refine g_ifY X1 hx hby 27 d3_5 (feq (by decide : ¬ ((3 : Int32) = (0 : Int32)))).2 (by decide) (by decide) ?_
  refine g_getS X1 hx hby hZ hown (host := "") (Or.inl w52_) Via.refl e1 (O2.ext OLD.2) d3_27 (fun T2 X2 e2 => ?_)
  refine g_ifN X2 hx hby d3_30 (feq (P5 : ¬ (cz = (0 : Int32)))).1 ?_
  refine g_aloadN X2 hx hby d3_33 rfl rfl ?_
  refine g_iloadN X2 hx hby d3_34 rfl ?_
  refine g_iloadN X2 hx hby d3_35 rfl ?_
  refine g_static X2 hx hby hZ hown (rm_cmp_3 l Z a0 hw [] ca kc c0 c1 c2 h0 n0 Z0 VC hc0 hc1 hc2) w71_ w72_ w73_ w74_ (by decide) e2 (by rw [hml]; rfl) [(.ref ca), (.int (0 : Int32)), (.int (3 : Int32))] (lenOf own_pd3 rfl) rfl rfl (Nat.le_of_ble_eq_true rfl) (Nat.le_of_ble_eq_true rfl) (Nat.le_of_ble_eq_true rfl) (Nat.le_of_ble_eq_true rfl) d3_36 (fun v3 T3 L3 X3 hQ3 => ?_)
  obtain ⟨N3q, K3, bb, kb, rfl, lob, Vb⟩ := hQ3
  have N3 := Fr.app N0 N3q
  refine g_astore X3 hx hby d3_39 rfl (l' := #[.val (.ref a), .val (.ref ca), .val (.int (0 : Int32)), .val (.int (3 : Int32)), .val .null, .val (.ref bb)]) rfl ?_
  refine g_aloadN X3 hx hby d3_41 rfl rfl ?_
  refine g_aload X3 hx hby d3_42 rfl rfl ?_
  refine g_iloadN X3 hx hby d3_44 rfl ?_
  have z5 := (Nat.le_trans Z0 K3.1)
  refine g_static X3 hx hby hZ hown (rm_cfal_3_3 l Z a0 hw [] bb kb [(.int (nar .byte (c0.toInt8.toInt32))), (.int (nar .byte (c1.toInt8.toInt32))), (.int (nar .byte (c2.toInt8.toInt32)))] T3.heap n0 z5 Vb) w78_ w79_ w73_ w80_ (by decide) rfl (by rw [hml]; rfl) [(.ref bb), (.int (3 : Int32))] (lenOf own_pd4 rfl) rfl rfl (Nat.le_of_ble_eq_true rfl) (Nat.le_of_ble_eq_true rfl) (Nat.le_of_ble_eq_true rfl) (Nat.le_of_ble_eq_true rfl) d3_45 (fun v4 T4 L4 X4 hQ4 => ?_)
  obtain ⟨rfl, N4q, eh4⟩ := hQ4
  have N4 := Fr.app N3 N4q
  have f6 := (E.keep K3)
  have f7 := (FC.keep K3 nin0)
  refine g_putFN X4 hx hby hZ hown w25_ Via.refl eh4 f7 f6 (Or.inr ⟨w21_, rfl, hnm⟩) w6_ .byte (by decide) (.int (0 : Int32)) rfl rfl N4 ga d3_48 (fun T8 h8 X8 e8 W8 F8 N8 => ?_)
  refine g_aloadN X8 hx hby d3_51 rfl rfl ?_
  refine g_aload X8 hx hby d3_52 rfl rfl ?_
  have f9 := (f6.wr W8)
  have f10 := ((FV.keep K3 nin0).other W8 (Or.inr (slot_ne (Or.inr w20_) (Or.inr w21_) (by decide) (t := (.array .byte)) (t' := .byte) (by decide) (by decide))))
  refine g_putF X8 hx hby hZ hown (host := "") (Or.inl w24_) Via.refl e8 f10 f9 (Or.inr ⟨w20_, rfl, hnm⟩) w6_ (.array .byte) (by decide) rfl rfl N8 ga d3_54 (fun T11 h11 X11 e11 W11 F11 N11 => ?_)
  have f12 := (f9.wr W11)
  have f13 := (F8.other W11 (Or.inr (slot_ne (Or.inr w21_) (Or.inr w20_) (by decide) (t := .byte) (t' := (.array .byte)) (by decide) (by decide))))
  have ne14 : bb ≠ a := (Ne.symm (Nat.ne_of_lt (Nat.lt_of_lt_of_le E.lt lob)))
  have f15 := ((Vb.other W8 ne14).other W11 ne14)
  refine g_ret X11 hx hby Bd.returns Bd.notSynchronized d3_57 e11 (by decide) (by decide) ?_
  show (Q_ini2_3 Z a ca kc c0 c1 c2 cz h0 n0) none _ _
  exact ⟨rfl, N11, ((((Keep.refl h0 [a]).trans K3 all0).wr W8 (Or.inl (List.mem_of_getElem? (i := 0) rfl))).wr W11 (Or.inl (List.mem_of_getElem? (i := 0) rfl))), bb, kb, (Nat.le_trans (Nat.le_refl _) lob), f12, f13, F11, f15⟩

def Q_ini1_3 (Z : State) (a : Addr) (ca : Addr) (kc : ClassId) (c0 : Int32) (c1 : Int32) (c2 : Int32) (cz : Int32) (h0 : Heap) (n0 : Nat) (v : Option Value) (h : Heap) (L : List Loc) : Prop := v = none ∧ Fr n0 L ∧ Keep h0 h [a] ∧ ∃ (b : Addr) (kb : ClassId), h0.size ≤ b ∧ Exa Z h a "java/lang/String" ∧ Fld Z h a "java/lang/String" "coder" "B" (.int (0 : Int32)) ∧ Fld Z h a "java/lang/String" "value" "[B" (.ref b) ∧ Arv Z h b kb .byte (3 : Int32) [(.int (nar .byte (c0.toInt8.toInt32))), (.int (nar .byte (c1.toInt8.toInt32))), (.int (nar .byte (c2.toInt8.toInt32)))] (.int (0 : Int32))
set_option maxRecDepth 65536 in
set_option maxHeartbeats 40000000 in
theorem rm_ini1_3 (l : Launch) (Z : State) (a0 : Array Value) (hw : ∀ d ∈ tables_1, d.before a0 Z = true) (ws : List Jvm.Cond) (a : Addr) (ca : Addr) (kc : ClassId) (c0 : Int32) (c1 : Int32) (c2 : Int32) (cz : Int32) (h0 : Heap) (n0 : Nat) (Z0 : n0 ≤ h0.size) (O2 : Sta Z Z.heap "java/lang/String" "COMPACT_STRINGS" "Z" (.int cz)) (P5 : ¬ cz = (0 : Int32)) (OLD : Old Z n0 h0) (E : Exa Z h0 a "java/lang/String") (FC : Fld Z h0 a "java/lang/String" "coder" "B" (.int (0 : Int32))) (FV : Fld Z h0 a "java/lang/String" "value" "[B" .null) (VC : Arv Z h0 ca kc .char (3 : Int32) [(.int c0), (.int c1), (.int c2)] (.int (0 : Int32))) (ga : n0 ≤ a) (hc0 : ¬ (255 : Int32) < c0) (hc1 : ¬ (255 : Int32) < c1) (hc2 : ¬ (255 : Int32) < c2) :
    MetFree l (⟨"java/lang/String", "<init>", "([C)V"⟩ : MethodName) (head1 (Jvm.Cond.code (⟨"java/lang/String", "<init>", "([C)V"⟩ : MethodName) jdk_42_method_3_code 2 none :: ws) ({ frames := 3, cells := 1, slots := 3, locals := 52 } : Room)) (fun aa_ U => aa_ = #[(.ref a), (.ref ca)] ∧ Z.Warmed39 U.vm ∧ U.heap = h0) (fun _ _ _ _ _ => True) (fun _ U o_ U' => RetG U (Q_ini1_3 Z a ca kc c0 c1 c2 cz h0 n0) 1 3 U' o_) := by
  refine MetFree.of_bodySF (plainFor_of_name own_pn0) hisR ?_
  intro p e s m args below meth c_ s₁ Bd hml0 hP hK
  obtain ⟨rfl, hZ, hh⟩ := hP
  have hx := Bd.exec
  have hby := Bd.bytes
  have hml : c_.maxLocals = 2 := hml0
  have hown : s.vm.findClass "java/lang/String" = some m.cls := findClass_of_methodNamed Bd.named
  have hnm := (name_of_methodNamed Bd.named Bd.method).1
  have X0 : Stand p l e ({ frames := 3, cells := 1, slots := 3, locals := 52 } : Room) s m #[(.ref a), (.ref ca)] below meth c_ s₁ [] 0 0 := Stand.of_body Bd
  have e0 : s₁.heap = h0 := by rw [← hh, Bd.state]; rfl
  have N0 := Fr.nil n0
  have w7_ := hw _ (List.mem_of_getElem? (i := 7) rfl)
  have w11_ := hw _ (List.mem_of_getElem? (i := 11) rfl)
  have w12_ := hw _ (List.mem_of_getElem? (i := 12) rfl)
  have w14_ := hw _ (List.mem_of_getElem? (i := 14) rfl)
  show Go p e below (RetG s (Q_ini1_3 Z a ca kc c0 c1 c2 cz h0 n0) 1 3) (s₁.setTop (entryFrame m #[(.ref a), (.ref ca)] 2))
  rw [show entryFrame m #[(.ref a), (.ref ca)] 2 = mkF m 0 #[.val (.ref a), .val (.ref ca)] [] from by first | (simp [entryFrame, mkF, argsToLocals, Value.category]; done) | rfl]
  refine g_aloadN X0 hx hby d2_0 rfl rfl ?_
  refine g_aloadN X0 hx hby d2_1 rfl rfl ?_
  refine g_iconst X0 hx hby (0 : Int32) d2_2 rfl ?_
  refine g_aloadN X0 hx hby d2_3 rfl rfl ?_
  refine g_arraylength X0 hx hby hZ e0 VC d2_4 ?_
  refine g_aconst_null X0 hx hby d2_5 ?_
  refine g_special X0 hx hby hZ hown (rm_ini2_3 l Z a0 hw [] a ca kc c0 c1 c2 cz h0 n0 Z0 O2 P5 OLD E FC FV VC ga hc0 hc1 hc2) rfl rfl w11_ w12_ w7_ w14_ (by decide) e0 (by rw [hml]; rfl) [(.ref ca), (.int (0 : Int32)), (.int (3 : Int32)), .null] (lenOf own_pd0 rfl) rfl rfl (Nat.le_of_ble_eq_true rfl) (Nat.le_of_ble_eq_true rfl) (Nat.le_of_ble_eq_true rfl) (Nat.le_of_ble_eq_true rfl) d2_6 (fun v1 T1 L1 X1 hQ1 => ?_)
  obtain ⟨rfl, N1q, R1⟩ := hQ1
  have N1 := Fr.app N0 N1q
  refine g_ret X1 hx hby Bd.returns Bd.notSynchronized d2_9 rfl (by decide) (by decide) ?_
  show (Q_ini1_3 Z a ca kc c0 c1 c2 cz h0 n0) none _ _
  exact ⟨rfl, N1, R1⟩

theorem d1_65 : decode method_3_code 65 = .ok (.new 26, 3) := by decide +kernel
theorem d1_68 : decode method_3_code 68 = .ok (.dup, 1) := by decide +kernel
theorem d1_69 : decode method_3_code 69 = .ok (.iconst 3, 1) := by decide +kernel
theorem d1_70 : decode method_3_code 70 = .ok (.newarray .char, 2) := by decide +kernel
theorem d1_72 : decode method_3_code 72 = .ok (.dup, 1) := by decide +kernel
theorem d1_73 : decode method_3_code 73 = .ok (.iconst 0, 1) := by decide +kernel
theorem d1_74 : decode method_3_code 74 = .ok (.aload_n 1, 1) := by decide +kernel
theorem d1_75 : decode method_3_code 75 = .ok (.iconst 0, 1) := by decide +kernel
theorem d1_76 : decode method_3_code 76 = .ok (.caload, 1) := by decide +kernel
theorem d1_77 : decode method_3_code 77 = .ok (.castore, 1) := by decide +kernel
theorem d1_78 : decode method_3_code 78 = .ok (.dup, 1) := by decide +kernel
theorem d1_79 : decode method_3_code 79 = .ok (.iconst 1, 1) := by decide +kernel
theorem d1_80 : decode method_3_code 80 = .ok (.aload_n 1, 1) := by decide +kernel
theorem d1_81 : decode method_3_code 81 = .ok (.iconst 1, 1) := by decide +kernel
theorem d1_82 : decode method_3_code 82 = .ok (.caload, 1) := by decide +kernel
theorem d1_83 : decode method_3_code 83 = .ok (.castore, 1) := by decide +kernel
theorem d1_84 : decode method_3_code 84 = .ok (.dup, 1) := by decide +kernel
theorem d1_85 : decode method_3_code 85 = .ok (.iconst 2, 1) := by decide +kernel
theorem d1_86 : decode method_3_code 86 = .ok (.aload_n 1, 1) := by decide +kernel
theorem d1_87 : decode method_3_code 87 = .ok (.iconst 2, 1) := by decide +kernel
theorem d1_88 : decode method_3_code 88 = .ok (.caload, 1) := by decide +kernel
theorem d1_89 : decode method_3_code 89 = .ok (.castore, 1) := by decide +kernel
theorem d1_90 : decode method_3_code 90 = .ok (.invokespecial 28, 3) := by decide +kernel
theorem d1_93 : decode method_3_code 93 = .ok (.areturn, 1) := by decide +kernel
def Q_text3 (Z : State) (al : Addr) (ka : ClassId) (c0 : Int32) (c1 : Int32) (c2 : Int32) (cz : Int32) (h0 : Heap) (n0 : Nat) (v : Option Value) (h : Heap) (L : List Loc) : Prop := Fr n0 L ∧ Keep h0 h [] ∧ ∃ (a b : Addr) (kb : ClassId), v = some (.ref a) ∧ h0.size ≤ a ∧ a ≠ b ∧ Exa Z h a "java/lang/String" ∧ Fld Z h a "java/lang/String" "coder" "B" (.int (0 : Int32)) ∧ Fld Z h a "java/lang/String" "value" "[B" (.ref b) ∧ Arv Z h b kb .byte (3 : Int32) [(.int (nar .byte ((nar .char c0).toInt8.toInt32))), (.int (nar .byte ((nar .char c1).toInt8.toInt32))), (.int (nar .byte ((nar .char c2).toInt8.toInt32)))] (.int (0 : Int32))
set_option maxRecDepth 65536 in
set_option maxHeartbeats 40000000 in
theorem rm_text3 (l : Launch) (Z : State) (a0 : Array Value) (hw : ∀ d ∈ tables_1, d.before a0 Z = true) (ws : List Jvm.Cond) (al : Addr) (ka : ClassId) (c0 : Int32) (c1 : Int32) (c2 : Int32) (cz : Int32) (h0 : Heap) (n0 : Nat) (Z0 : n0 ≤ h0.size) (O2 : Sta Z Z.heap "java/lang/String" "COMPACT_STRINGS" "Z" (.int cz)) (P5 : ¬ cz = (0 : Int32)) (OLD : Old Z n0 h0) (VA : Arv Z h0 al ka .char (3 : Int32) [(.int c0), (.int c1), (.int c2)] (.int (0 : Int32))) (hc0 : 0 ≤ c0.toInt ∧ c0.toInt ≤ 255) (hc1 : 0 ≤ c1.toInt ∧ c1.toInt ≤ 255) (hc2 : 0 ≤ c2.toInt ∧ c2.toInt ≤ 255) :
    MetFree l (⟨"com/example/pathloom/pathloom/web/ReaderAtEndPinLaw", "text", "(I[C)Ljava/lang/String;"⟩ : MethodName) (head1 (Jvm.Cond.code (⟨"com/example/pathloom/pathloom/web/ReaderAtEndPinLaw", "text", "(I[C)Ljava/lang/String;"⟩ : MethodName) method_3_code 2 (some (.object "java/lang/String")) :: ws) ({ frames := 4, cells := 3, slots := 10, locals := 66 } : Room)) (fun aa_ U => aa_ = #[(.int (3 : Int32)), (.ref al)] ∧ Z.Warmed39 U.vm ∧ U.heap = h0) (fun _ _ _ _ _ => True) (fun _ U o_ U' => RetG U (Q_text3 Z al ka c0 c1 c2 cz h0 n0) 3 10 U' o_) := by
  refine MetFree.of_bodySF (plainFor_of_name own_pn1) hisR ?_
  intro p e s m args below meth c_ s₁ Bd hml0 hP hK
  obtain ⟨rfl, hZ, hh⟩ := hP
  have hx := Bd.exec
  have hby := Bd.bytes
  have hml : c_.maxLocals = 2 := hml0
  have hown : s.vm.findClass "com/example/pathloom/pathloom/web/ReaderAtEndPinLaw" = some m.cls := findClass_of_methodNamed Bd.named
  have hnm := (name_of_methodNamed Bd.named Bd.method).1
  have X0 : Stand p l e ({ frames := 4, cells := 3, slots := 10, locals := 66 } : Room) s m #[(.int (3 : Int32)), (.ref al)] below meth c_ s₁ [] 0 0 := Stand.of_body Bd
  have e0 : s₁.heap = h0 := by rw [← hh, Bd.state]; rfl
  have N0 := Fr.nil n0
  have w0_ := hw _ (List.mem_of_getElem? (i := 0) rfl)
  have w5_ := hw _ (List.mem_of_getElem? (i := 5) rfl)
  have w6_ := hw _ (List.mem_of_getElem? (i := 6) rfl)
  have w7_ := hw _ (List.mem_of_getElem? (i := 7) rfl)
  have w8_ := hw _ (List.mem_of_getElem? (i := 8) rfl)
  have w9_ := hw _ (List.mem_of_getElem? (i := 9) rfl)
  have w10_ := hw _ (List.mem_of_getElem? (i := 10) rfl)
  have w20_ := hw _ (List.mem_of_getElem? (i := 20) rfl)
  have w21_ := hw _ (List.mem_of_getElem? (i := 21) rfl)
  show Go p e below (RetG s (Q_text3 Z al ka c0 c1 c2 cz h0 n0) 3 10) (s₁.setTop (entryFrame m #[(.int (3 : Int32)), (.ref al)] 2))
  rw [show entryFrame m #[(.int (3 : Int32)), (.ref al)] 2 = mkF m 0 #[.val (.int (3 : Int32)), .val (.ref al)] [] from by first | (simp [entryFrame, mkF, argsToLocals, Value.category]; done) | rfl]
  refine g_iloadN X0 hx hby d1_0 rfl ?_
  refine g_ifY X0 hx hby 15 d1_1 (feq (by decide : ¬ ((3 : Int32) = (0 : Int32)))).2 (by decide) (by decide) ?_
  refine g_iloadN X0 hx hby d1_15 rfl ?_
  refine g_iconst X0 hx hby (1 : Int32) d1_16 rfl ?_
  refine g_icY X0 hx hby 37 d1_17 (feq (by decide : ¬ ((3 : Int32) = (1 : Int32)))).2 (by decide) (by decide) ?_
  refine g_iloadN X0 hx hby d1_37 rfl ?_
  refine g_iconst X0 hx hby (2 : Int32) d1_38 rfl ?_
  refine g_icY X0 hx hby 65 d1_39 (feq (by decide : ¬ ((3 : Int32) = (2 : Int32)))).2 (by decide) (by decide) ?_
  refine g_new X0 hx hby hZ hown w5_ w6_ w7_ e0 (by decide) (by decide) d1_65 (fun T1 h1 b1 g1 X1 e1 E1 A1 D1 => ?_)
  have F_value_b1 : Fld Z h1 b1 "java/lang/String" "value" "[B" .null := D1 (Or.inr w20_) (ty := (.array .byte)) (by decide)
  have F_coder_b1 : Fld Z h1 b1 "java/lang/String" "coder" "B" (.int (0 : Int32)) := D1 (Or.inr w21_) (ty := .byte) (by decide)
  refine g_dup X1 hx hby d1_68 rfl ?_
  refine g_iconst X1 hx hby (3 : Int32) d1_69 rfl ?_
  refine g_newarray X1 hx hby hZ .char .char (.int (0 : Int32)) [(.int (0 : Int32)), (.int (0 : Int32)), (.int (0 : Int32))] rfl rfl w0_ e1 (by decide) 3 rfl (by decide) (by decide) (by decide) (by decide) d1_70 (fun T2 h2 k2 b2 g2 X2 e2 E2 V2 => ?_)
  refine g_dup X2 hx hby d1_72 rfl ?_
  refine g_iconst X2 hx hby (0 : Int32) d1_73 rfl ?_
  refine g_aloadN X2 hx hby d1_74 rfl rfl ?_
  refine g_iconst X2 hx hby (0 : Int32) d1_75 rfl ?_
  have f3 := ((VA.ext E1).ext E2)
  refine g_caload X2 hx hby hZ e2 f3 (.int c0) ⟨by decide, by decide⟩ rfl d1_76 ?_
  have g_b2 : n0 ≤ b2 := Nat.le_trans (Nat.le_trans Z0 E1.1) (Nat.le_of_eq g2)
  refine g_castore X2 hx hby hZ e2 V2 0 [(.int (nar .char c0)), (.int (0 : Int32)), (.int (0 : Int32))] rfl ⟨by decide, by decide⟩ rfl (Nat.le_of_ble_eq_true rfl) N0 g_b2 d1_77 (fun T4 h4 X4 e4 W4 V4 N4 => ?_)
  refine g_dup X4 hx hby d1_78 rfl ?_
  refine g_iconst X4 hx hby (1 : Int32) d1_79 rfl ?_
  refine g_aloadN X4 hx hby d1_80 rfl rfl ?_
  refine g_iconst X4 hx hby (1 : Int32) d1_81 rfl ?_
  have ne5 : al ≠ b2 := (Nat.ne_of_lt (Nat.lt_of_lt_of_le VA.lt (Nat.le_trans E1.1 (Nat.le_of_eq g2))))
  have f6 := (f3.other W4 ne5)
  refine g_caload X4 hx hby hZ e4 f6 (.int c1) ⟨by decide, by decide⟩ rfl d1_82 ?_
  refine g_castore X4 hx hby hZ e4 V4 1 [(.int (nar .char c0)), (.int (nar .char c1)), (.int (0 : Int32))] rfl ⟨by decide, by decide⟩ rfl (Nat.le_of_ble_eq_true rfl) N4 g_b2 d1_83 (fun T7 h7 X7 e7 W7 V7 N7 => ?_)
  refine g_dup X7 hx hby d1_84 rfl ?_
  refine g_iconst X7 hx hby (2 : Int32) d1_85 rfl ?_
  refine g_aloadN X7 hx hby d1_86 rfl rfl ?_
  refine g_iconst X7 hx hby (2 : Int32) d1_87 rfl ?_
  have f8 := (f6.other W7 ne5)
  refine g_caload X7 hx hby hZ e7 f8 (.int c2) ⟨by decide, by decide⟩ rfl d1_88 ?_
  refine g_castore X7 hx hby hZ e7 V7 2 [(.int (nar .char c0)), (.int (nar .char c1)), (.int (nar .char c2))] rfl ⟨by decide, by decide⟩ rfl (Nat.le_of_ble_eq_true rfl) N7 g_b2 d1_89 (fun T9 h9 X9 e9 W9 V9 N9 => ?_)
  have f11 := (((((OLD.ext E1).ext E2).wr W4 g_b2).wr W7 g_b2).wr W9 g_b2)
  have f12 := ((((A1.ext E2).wr W4).wr W7).wr W9)
  have ne13 : b1 ≠ b2 := (Nat.ne_of_lt (Nat.lt_of_lt_of_le A1.lt (Nat.le_of_eq g2)))
  have f14 := ((((F_coder_b1.ext E2).other W4 (Or.inl ne13)).other W7 (Or.inl ne13)).other W9 (Or.inl ne13))
  have f15 := ((((F_value_b1.ext E2).other W4 (Or.inl ne13)).other W7 (Or.inl ne13)).other W9 (Or.inl ne13))
  have g_b1 : n0 ≤ b1 := Nat.le_trans Z0 (Nat.le_of_eq g1)
  have z16 := (Nat.le_trans Z0 (Nat.le_trans (Nat.le_trans (Nat.le_trans (Nat.le_trans E1.1 E2.1) (Keep.of_wr W4).1) (Keep.of_wr W7).1) (Keep.of_wr W9).1))
  refine g_special X9 hx hby hZ hown (rm_ini1_3 l Z a0 hw [] b1 b2 k2 (nar .char c0) (nar .char c1) (nar .char c2) cz h9 n0 z16 O2 P5 f11 f12 f14 f15 V9 g_b1 (own_le hc0) (own_le hc1) (own_le hc2)) rfl rfl w8_ w9_ w7_ w10_ (by decide) e9 (by rw [hml]; rfl) [(.ref b2)] (lenOf own_pd1 rfl) rfl rfl (Nat.le_of_ble_eq_true rfl) (Nat.le_of_ble_eq_true rfl) (Nat.le_of_ble_eq_true rfl) (Nat.le_of_ble_eq_true rfl) d1_90 (fun v10 T10 L10 X10 hQ10 => ?_)
  obtain ⟨rfl, N10q, K10, t10, kb10, lo10, Es10, Cs10, Vs10, Bs10⟩ := hQ10
  have N10 := Fr.app N9 N10q
  have ne17 : b1 ≠ t10 := (Nat.ne_of_lt (Nat.lt_of_lt_of_le A1.lt (Nat.le_trans (Nat.le_trans (Nat.le_trans (Nat.le_trans E2.1 (Keep.of_wr W4).1) (Keep.of_wr W7).1) (Keep.of_wr W9).1) lo10)))
  refine g_aret X10 hx hby (t := (.object "java/lang/String")) rfl rfl rfl Bd.returns Bd.notSynchronized d1_93 rfl (by decide) (by decide) ?_
  show (Q_text3 Z al ka c0 c1 c2 cz h0 n0) (some (.ref b1)) _ _
  exact ⟨N10, (((((((Keep.refl h0 []).ext E1).ext E2).wr W4 (Or.inr (Nat.le_trans E1.1 (Nat.le_of_eq g2)))).wr W7 (Or.inr (Nat.le_trans E1.1 (Nat.le_of_eq g2)))).wr W9 (Or.inr (Nat.le_trans E1.1 (Nat.le_of_eq g2)))).trans K10 (allS (Or.inr (Nat.le_trans (Nat.le_refl _) (Nat.le_of_eq g1))) all0)), b1, t10, kb10, rfl, (Nat.le_trans (Nat.le_refl _) (Nat.le_of_eq g1)), ne17, Es10, Cs10, Vs10, Bs10⟩

theorem d12_0 : decode jdk_29_method_69_code 0 = .ok (.iload_n 0, 1) := by decide +kernel
theorem d12_1 : decode jdk_29_method_69_code 1 = .ok (.iload_n 1, 1) := by decide +kernel
theorem d12_2 : decode jdk_29_method_69_code 2 = .ok (.if_icmp .gt 7, 3) := by decide +kernel
theorem d12_9 : decode jdk_29_method_69_code 9 = .ok (.iload_n 1, 1) := by decide +kernel
theorem d12_10 : decode jdk_29_method_69_code 10 = .ok (.ireturn, 1) := by decide +kernel
theorem d12_5 : decode jdk_29_method_69_code 5 = .ok (.iload_n 0, 1) := by decide +kernel
theorem d12_6 : decode jdk_29_method_69_code 6 = .ok (.goto 4, 3) := by decide +kernel
def Q_mmin (Z : State) (a : Int32) (b : Int32) (h0 : Heap) (n0 : Nat) (v : Option Value) (h : Heap) (L : List Loc) : Prop := v = some (.int (own_min a b)) ∧ Fr n0 L ∧ h = h0
set_option maxRecDepth 65536 in
set_option maxHeartbeats 40000000 in
theorem rm_mmin (l : Launch) (Z : State) (a0 : Array Value) (hw : ∀ d ∈ tables_1, d.before a0 Z = true) (ws : List Jvm.Cond) (a : Int32) (b : Int32) (h0 : Heap) (n0 : Nat) (Z0 : n0 ≤ h0.size) :
    MetFree l (⟨"java/lang/Math", "min", "(II)I"⟩ : MethodName) (head1 (Jvm.Cond.code (⟨"java/lang/Math", "min", "(II)I"⟩ : MethodName) jdk_29_method_69_code 2 (some .int) :: ws) ({ frames := 0, cells := 0, slots := 0, locals := 0 } : Room)) (fun aa_ U => aa_ = #[(.int a), (.int b)] ∧ Z.Warmed39 U.vm ∧ U.heap = h0) (fun _ _ _ _ _ => True) (fun _ U o_ U' => RetG U (Q_mmin Z a b h0 n0) 0 0 U' o_) := by
  refine MetFree.of_bodySF (Jvm.Free.JP.mathPlain rfl (by decide +kernel)) hisR ?_
  intro p e s m args below meth c_ s₁ Bd hml0 hP hK
  obtain ⟨rfl, hZ, hh⟩ := hP
  have hx := Bd.exec
  have hby := Bd.bytes
  have hml : c_.maxLocals = 2 := hml0
  have hown : s.vm.findClass "java/lang/Math" = some m.cls := findClass_of_methodNamed Bd.named
  have hnm := (name_of_methodNamed Bd.named Bd.method).1
  have X0 : Stand p l e ({ frames := 0, cells := 0, slots := 0, locals := 0 } : Room) s m #[(.int a), (.int b)] below meth c_ s₁ [] 0 0 := Stand.of_body Bd
  have e0 : s₁.heap = h0 := by rw [← hh, Bd.state]; rfl
  have N0 := Fr.nil n0
  show Go p e below (RetG s (Q_mmin Z a b h0 n0) 0 0) (s₁.setTop (entryFrame m #[(.int a), (.int b)] 2))
  rw [show entryFrame m #[(.int a), (.int b)] 2 = mkF m 0 #[.val (.int a), .val (.int b)] [] from by first | (simp [entryFrame, mkF, argsToLocals, Value.category]; done) | rfl]
  refine g_iloadN X0 hx hby d12_0 rfl ?_
  refine g_iloadN X0 hx hby d12_1 rfl ?_
  by_cases hc2_1 : b < a
  · skip
    refine g_icY X0 hx hby 9 d12_2 (tlt hc2_1).2.2.1 (by decide) (by decide) ?_
    refine g_iloadN X0 hx hby d12_9 rfl ?_
    refine g_iret X0 hx hby Bd.returns Bd.notSynchronized d12_10 e0 (by decide) (by decide) ?_
    show (Q_mmin Z a b h0 n0) (some (.int b)) _ _
    exact ⟨by simp [own_min, hc2_1], N0, rfl⟩
  · skip
    refine g_icN X0 hx hby d12_2 (flt hc2_1).2.2.1 ?_
    refine g_iloadN X0 hx hby d12_5 rfl ?_
    refine g_goto X0 hx hby 10 d12_6 (by decide) (by decide) ?_
    refine g_iret X0 hx hby Bd.returns Bd.notSynchronized d12_10 e0 (by decide) (by decide) ?_
    show (Q_mmin Z a b h0 n0) (some (.int a)) _ _
    exact ⟨by simp [own_min, hc2_1], N0, rfl⟩

theorem d9_0 : decode method_4_code 0 = .ok (.aload_n 0, 1) := by decide +kernel
theorem d9_1 : decode method_4_code 1 = .ok (.aload_n 3, 1) := by decide +kernel
theorem d9_2 : decode method_4_code 2 = .ok (.iload_n 1, 1) := by decide +kernel
theorem d9_3 : decode method_4_code 3 = .ok (.caload, 1) := by decide +kernel
theorem d9_4 : decode method_4_code 4 = .ok (.invokevirtual 31, 3) := by decide +kernel
theorem d8_0 : decode jdk_42_method_152_code 0 = .ok (.getstatic 38, 3) := by decide +kernel
theorem d8_3 : decode jdk_42_method_152_code 3 = .ok (.ifCond .eq 10, 3) := by decide +kernel
theorem d8_6 : decode jdk_42_method_152_code 6 = .ok (.aload_n 0, 1) := by decide +kernel
theorem d8_7 : decode jdk_42_method_152_code 7 = .ok (.getfield 15, 3) := by decide +kernel
theorem d8_10 : decode jdk_42_method_152_code 10 = .ok (.goto 4, 3) := by decide +kernel
theorem d8_14 : decode jdk_42_method_152_code 14 = .ok (.ireturn, 1) := by decide +kernel
def Q_coder (Z : State) (a : Addr) (cd : Int32) (cz : Int32) (h0 : Heap) (n0 : Nat) (v : Option Value) (h : Heap) (L : List Loc) : Prop := v = some (.int (nar .byte cd)) ∧ Fr n0 L ∧ h = h0
set_option maxRecDepth 65536 in
set_option maxHeartbeats 40000000 in
theorem rm_coder (l : Launch) (Z : State) (a0 : Array Value) (hw : ∀ d ∈ tables_1, d.before a0 Z = true) (ws : List Jvm.Cond) (a : Addr) (cd : Int32) (cz : Int32) (h0 : Heap) (n0 : Nat) (Z0 : n0 ≤ h0.size) (O2 : Sta Z Z.heap "java/lang/String" "COMPACT_STRINGS" "Z" (.int cz)) (P5 : ¬ cz = (0 : Int32)) (OLD : Old Z n0 h0) (C : Fld Z h0 a "java/lang/String" "coder" "B" (.int cd)) :
    MetFree l (⟨"java/lang/String", "coder", "()B"⟩ : MethodName) (head1 (Jvm.Cond.code (⟨"java/lang/String", "coder", "()B"⟩ : MethodName) jdk_42_method_152_code 1 (some .byte) :: ws) ({ frames := 0, cells := 0, slots := 0, locals := 0 } : Room)) (fun aa_ U => aa_ = #[(.ref a)] ∧ Z.Warmed39 U.vm ∧ U.heap = h0) (fun _ _ _ _ _ => True) (fun _ U o_ U' => RetG U (Q_coder Z a cd cz h0 n0) 0 0 U' o_) := by
  refine MetFree.of_bodySF (plainFor_of_name own_pn0) hisR ?_
  intro p e s m args below meth c_ s₁ Bd hml0 hP hK
  obtain ⟨rfl, hZ, hh⟩ := hP
  have hx := Bd.exec
  have hby := Bd.bytes
  have hml : c_.maxLocals = 1 := hml0
  have hown : s.vm.findClass "java/lang/String" = some m.cls := findClass_of_methodNamed Bd.named
  have hnm := (name_of_methodNamed Bd.named Bd.method).1
  have X0 : Stand p l e ({ frames := 0, cells := 0, slots := 0, locals := 0 } : Room) s m #[(.ref a)] below meth c_ s₁ [] 0 0 := Stand.of_body Bd
  have e0 : s₁.heap = h0 := by rw [← hh, Bd.state]; rfl
  have N0 := Fr.nil n0
  have w25_ := hw _ (List.mem_of_getElem? (i := 25) rfl)
  have w52_ := hw _ (List.mem_of_getElem? (i := 52) rfl)
  show Go p e below (RetG s (Q_coder Z a cd cz h0 n0) 0 0) (s₁.setTop (entryFrame m #[(.ref a)] 1))
  rw [show entryFrame m #[(.ref a)] 1 = mkF m 0 #[.val (.ref a)] [] from by first | (simp [entryFrame, mkF, argsToLocals, Value.category]; done) | rfl]
  refine g_getS X0 hx hby hZ hown (host := "") (Or.inl w52_) Via.refl e0 (O2.ext OLD.2) d8_0 (fun T1 X1 e1 => ?_)
  refine g_ifN X1 hx hby d8_3 (feq (P5 : ¬ (cz = (0 : Int32)))).1 ?_
  refine g_aloadN X1 hx hby d8_6 rfl rfl ?_
  refine g_getF X1 hx hby hZ hown (host := "") (Or.inl w25_) Via.refl e1 C d8_7 (fun T2 X2 e2 => ?_)
  refine g_goto X2 hx hby 14 d8_10 (by decide) (by decide) ?_
  refine g_nret X2 hx hby (t := .byte) (by simp) Bd.returns Bd.notSynchronized d8_14 e2 (by decide) (by decide) ?_
  show (Q_coder Z a cd cz h0 n0) (some (.int (nar .byte cd))) _ _
  exact ⟨rfl, N0, rfl⟩

theorem d7_0 : decode jdk_42_method_54_code 0 = .ok (.aload_n 0, 1) := by decide +kernel
theorem d7_1 : decode jdk_42_method_54_code 1 = .ok (.getfield 9, 3) := by decide +kernel
theorem d7_4 : decode jdk_42_method_54_code 4 = .ok (.arraylength, 1) := by decide +kernel
theorem d7_5 : decode jdk_42_method_54_code 5 = .ok (.aload_n 0, 1) := by decide +kernel
theorem d7_6 : decode jdk_42_method_54_code 6 = .ok (.invokevirtual 335, 3) := by decide +kernel
theorem own_pd5 : parseMethodDescriptor "()B" = some ⟨[], some .byte⟩ := by decide +kernel
theorem d7_9 : decode jdk_42_method_54_code 9 = .ok (.ishr, 1) := by decide +kernel
theorem d7_10 : decode jdk_42_method_54_code 10 = .ok (.ireturn, 1) := by decide +kernel
def Q_slen_0 (Z : State) (a : Addr) (b : Addr) (kb : ClassId) (bs : List Value) (cz : Int32) (h0 : Heap) (n0 : Nat) (v : Option Value) (h : Heap) (L : List Loc) : Prop := v = some (.int (0 : Int32)) ∧ Fr n0 L ∧ h = h0
set_option maxRecDepth 65536 in
set_option maxHeartbeats 40000000 in
theorem rm_slen_0 (l : Launch) (Z : State) (a0 : Array Value) (hw : ∀ d ∈ tables_1, d.before a0 Z = true) (ws : List Jvm.Cond) (a : Addr) (b : Addr) (kb : ClassId) (bs : List Value) (cz : Int32) (h0 : Heap) (n0 : Nat) (Z0 : n0 ≤ h0.size) (O2 : Sta Z Z.heap "java/lang/String" "COMPACT_STRINGS" "Z" (.int cz)) (P5 : ¬ cz = (0 : Int32)) (OLD : Old Z n0 h0) (E : Exa Z h0 a "java/lang/String") (C : Fld Z h0 a "java/lang/String" "coder" "B" (.int (0 : Int32))) (VF : Fld Z h0 a "java/lang/String" "value" "[B" (.ref b)) (VB : Arv Z h0 b kb .byte (0 : Int32) bs (.int (0 : Int32))) :
    MetFree l (⟨"java/lang/String", "length", "()I"⟩ : MethodName) (head1 (Jvm.Cond.code (⟨"java/lang/String", "length", "()I"⟩ : MethodName) jdk_42_method_54_code 1 (some .int) :: ws) ({ frames := 1, cells := 0, slots := 0, locals := 13 } : Room)) (fun aa_ U => aa_ = #[(.ref a)] ∧ Z.Warmed39 U.vm ∧ U.heap = h0) (fun _ _ _ _ _ => True) (fun _ U o_ U' => RetG U (Q_slen_0 Z a b kb bs cz h0 n0) 0 0 U' o_) := by
  refine MetFree.of_bodySF (plainFor_of_name own_pn0) hisR ?_
  intro p e s m args below meth c_ s₁ Bd hml0 hP hK
  obtain ⟨rfl, hZ, hh⟩ := hP
  have hx := Bd.exec
  have hby := Bd.bytes
  have hml : c_.maxLocals = 1 := hml0
  have hown : s.vm.findClass "java/lang/String" = some m.cls := findClass_of_methodNamed Bd.named
  have hnm := (name_of_methodNamed Bd.named Bd.method).1
  have X0 : Stand p l e ({ frames := 1, cells := 0, slots := 0, locals := 13 } : Room) s m #[(.ref a)] below meth c_ s₁ [] 0 0 := Stand.of_body Bd
  have e0 : s₁.heap = h0 := by rw [← hh, Bd.state]; rfl
  have N0 := Fr.nil n0
  have w7_ := hw _ (List.mem_of_getElem? (i := 7) rfl)
  have w24_ := hw _ (List.mem_of_getElem? (i := 24) rfl)
  have w47_ := hw _ (List.mem_of_getElem? (i := 47) rfl)
  have w48_ := hw _ (List.mem_of_getElem? (i := 48) rfl)
  have w49_ := hw _ (List.mem_of_getElem? (i := 49) rfl)
  have w50_ := hw _ (List.mem_of_getElem? (i := 50) rfl)
  have w51_ := hw _ (List.mem_of_getElem? (i := 51) rfl)
  show Go p e below (RetG s (Q_slen_0 Z a b kb bs cz h0 n0) 0 0) (s₁.setTop (entryFrame m #[(.ref a)] 1))
  rw [show entryFrame m #[(.ref a)] 1 = mkF m 0 #[.val (.ref a)] [] from by first | (simp [entryFrame, mkF, argsToLocals, Value.category]; done) | rfl]
  refine g_aloadN X0 hx hby d7_0 rfl rfl ?_
  refine g_getF X0 hx hby hZ hown (host := "") (Or.inl w24_) Via.refl e0 VF d7_1 (fun T1 X1 e1 => ?_)
  refine g_arraylength X1 hx hby hZ e1 VB d7_4 ?_
  refine g_aloadN X1 hx hby d7_5 rfl rfl ?_
  refine g_virtual X1 hx hby hZ hown (rm_coder l Z a0 hw [] a (0 : Int32) cz h0 n0 Z0 O2 P5 OLD C) w47_ w48_ (notFace_of_selects (args := #[]) (mvT hZ w50_)) w50_ w49_ w7_ w51_ (by decide) e1 E (by rw [hml]; rfl) [] (lenOf own_pd5 rfl) rfl rfl (Nat.le_of_ble_eq_true rfl) (Nat.le_of_ble_eq_true rfl) (Nat.le_of_ble_eq_true rfl) (Nat.le_of_ble_eq_true rfl) d7_6 (fun v2 T2 L2 X2 hQ2 => ?_)
  obtain ⟨rfl, N2q, eh2⟩ := hQ2
  have N2 := Fr.app N0 N2q
  refine g_topI (T := T2) (0 : Int32) (by decide) ?_
  refine g_ishr X2 hx hby d7_9 ?_
  refine g_topI (0 : Int32) (by decide) ?_
  refine g_iret X2 hx hby Bd.returns Bd.notSynchronized d7_10 eh2 (by decide) (by decide) ?_
  show (Q_slen_0 Z a b kb bs cz h0 n0) (some (.int (0 : Int32))) _ _
  exact ⟨rfl, N2, rfl⟩

theorem d6_0 : decode prog_35_method_2_code 0 = .ok (.aload_n 0, 1) := by decide +kernel
theorem d6_1 : decode prog_35_method_2_code 1 = .ok (.getfield 13, 3) := by decide +kernel
theorem d6_4 : decode prog_35_method_2_code 4 = .ok (.aload_n 0, 1) := by decide +kernel
theorem d6_5 : decode prog_35_method_2_code 5 = .ok (.getfield 7, 3) := by decide +kernel
theorem d6_8 : decode prog_35_method_2_code 8 = .ok (.invokevirtual 17, 3) := by decide +kernel
theorem own_pd6 : parseMethodDescriptor "()I" = some ⟨[], some .int⟩ := by decide +kernel
theorem d6_11 : decode prog_35_method_2_code 11 = .ok (.if_icmp .ne 7, 3) := by decide +kernel
theorem d6_14 : decode prog_35_method_2_code 14 = .ok (.iconst 1, 1) := by decide +kernel
theorem d6_15 : decode prog_35_method_2_code 15 = .ok (.goto 4, 3) := by decide +kernel
theorem d6_19 : decode prog_35_method_2_code 19 = .ok (.ireturn, 1) := by decide +kernel
theorem own_pn3 : plainName "com/example/pathloom/pathloom/web/MediaType$Reader" = true := by first | (simp [plainName, overriddenIn]; done) | decide +kernel
def Q_rdend_0_0 (Z : State) (r : Addr) (a : Addr) (b : Addr) (kb : ClassId) (bs : List Value) (cz : Int32) (h0 : Heap) (n0 : Nat) (v : Option Value) (h : Heap) (L : List Loc) : Prop := v = some (.int (1 : Int32)) ∧ Fr n0 L ∧ h = h0
set_option maxRecDepth 65536 in
set_option maxHeartbeats 40000000 in
theorem rm_rdend_0_0 (l : Launch) (Z : State) (a0 : Array Value) (hw : ∀ d ∈ tables_1, d.before a0 Z = true) (ws : List Jvm.Cond) (r : Addr) (a : Addr) (b : Addr) (kb : ClassId) (bs : List Value) (cz : Int32) (h0 : Heap) (n0 : Nat) (Z0 : n0 ≤ h0.size) (O2 : Sta Z Z.heap "java/lang/String" "COMPACT_STRINGS" "Z" (.int cz)) (P5 : ¬ cz = (0 : Int32)) (OLD : Old Z n0 h0) (E : Exa Z h0 a "java/lang/String") (C : Fld Z h0 a "java/lang/String" "coder" "B" (.int (0 : Int32))) (VF : Fld Z h0 a "java/lang/String" "value" "[B" (.ref b)) (VB : Arv Z h0 b kb .byte (0 : Int32) bs (.int (0 : Int32))) (rE : Exa Z h0 r "com/example/pathloom/pathloom/web/MediaType$Reader") (rT : Fld Z h0 r "com/example/pathloom/pathloom/web/MediaType$Reader" "text" "Ljava/lang/String;" (.ref a)) (rP : Fld Z h0 r "com/example/pathloom/pathloom/web/MediaType$Reader" "position" "I" (.int (0 : Int32))) :
    MetFree l (⟨"com/example/pathloom/pathloom/web/MediaType$Reader", "atEnd", "()Z"⟩ : MethodName) (head1 (Jvm.Cond.code (⟨"com/example/pathloom/pathloom/web/MediaType$Reader", "atEnd", "()Z"⟩ : MethodName) prog_35_method_2_code 1 (some .boolean) :: ws) ({ frames := 2, cells := 0, slots := 0, locals := 26 } : Room)) (fun aa_ U => aa_ = #[(.ref r)] ∧ Z.Warmed39 U.vm ∧ U.heap = h0) (fun _ _ _ _ _ => True) (fun _ U o_ U' => RetG U (Q_rdend_0_0 Z r a b kb bs cz h0 n0) 0 0 U' o_) := by
  refine MetFree.of_bodySF (plainFor_of_name own_pn3) hisR ?_
  intro p e s m args below meth c_ s₁ Bd hml0 hP hK
  obtain ⟨rfl, hZ, hh⟩ := hP
  have hx := Bd.exec
  have hby := Bd.bytes
  have hml : c_.maxLocals = 1 := hml0
  have hown : s.vm.findClass "com/example/pathloom/pathloom/web/MediaType$Reader" = some m.cls := findClass_of_methodNamed Bd.named
  have hnm := (name_of_methodNamed Bd.named Bd.method).1
  have X0 : Stand p l e ({ frames := 2, cells := 0, slots := 0, locals := 26 } : Room) s m #[(.ref r)] below meth c_ s₁ [] 0 0 := Stand.of_body Bd
  have e0 : s₁.heap = h0 := by rw [← hh, Bd.state]; rfl
  have N0 := Fr.nil n0
  have w7_ := hw _ (List.mem_of_getElem? (i := 7) rfl)
  have w33_ := hw _ (List.mem_of_getElem? (i := 33) rfl)
  have w40_ := hw _ (List.mem_of_getElem? (i := 40) rfl)
  have w42_ := hw _ (List.mem_of_getElem? (i := 42) rfl)
  have w43_ := hw _ (List.mem_of_getElem? (i := 43) rfl)
  have w44_ := hw _ (List.mem_of_getElem? (i := 44) rfl)
  have w45_ := hw _ (List.mem_of_getElem? (i := 45) rfl)
  have w46_ := hw _ (List.mem_of_getElem? (i := 46) rfl)
  show Go p e below (RetG s (Q_rdend_0_0 Z r a b kb bs cz h0 n0) 0 0) (s₁.setTop (entryFrame m #[(.ref r)] 1))
  rw [show entryFrame m #[(.ref r)] 1 = mkF m 0 #[.val (.ref r)] [] from by first | (simp [entryFrame, mkF, argsToLocals, Value.category]; done) | rfl]
  refine g_aloadN X0 hx hby d6_0 rfl rfl ?_
  refine g_getF X0 hx hby hZ hown (host := "") (Or.inl w40_) Via.refl e0 rP d6_1 (fun T1 X1 e1 => ?_)
  refine g_aloadN X1 hx hby d6_4 rfl rfl ?_
  refine g_getF X1 hx hby hZ hown (host := "") (Or.inl w33_) Via.refl e1 rT d6_5 (fun T2 X2 e2 => ?_)
  refine g_virtual X2 hx hby hZ hown (rm_slen_0 l Z a0 hw [] a b kb bs cz h0 n0 Z0 O2 P5 OLD E C VF VB) w42_ w43_ (notFace_of_selects (args := #[]) (mvT hZ w45_)) w45_ w44_ w7_ w46_ (by decide) e2 E (by rw [hml]; rfl) [] (lenOf own_pd6 rfl) rfl rfl (Nat.le_of_ble_eq_true rfl) (Nat.le_of_ble_eq_true rfl) (Nat.le_of_ble_eq_true rfl) (Nat.le_of_ble_eq_true rfl) d6_8 (fun v3 T3 L3 X3 hQ3 => ?_)
  obtain ⟨rfl, N3q, eh3⟩ := hQ3
  have N3 := Fr.app N0 N3q
  refine g_icN X3 hx hby d6_11 (teq (by decide : (0 : Int32) = (0 : Int32))).2 ?_
  refine g_iconst X3 hx hby (1 : Int32) d6_14 rfl ?_
  refine g_goto X3 hx hby 19 d6_15 (by decide) (by decide) ?_
  refine g_nret X3 hx hby (t := .boolean) (by simp) Bd.returns Bd.notSynchronized d6_19 eh3 (by decide) (by decide) ?_
  show (Q_rdend_0_0 Z r a b kb bs cz h0 n0) (some (.int (1 : Int32))) _ _
  exact ⟨rfl, N3, rfl⟩

theorem d11_0 : decode prog_35_method_4_code 0 = .ok (.aload_n 0, 1) := by decide +kernel
theorem d11_1 : decode prog_35_method_4_code 1 = .ok (.invokevirtual 23, 3) := by decide +kernel
theorem own_pd7 : parseMethodDescriptor "()Z" = some ⟨[], some .boolean⟩ := by decide +kernel
theorem d11_4 : decode prog_35_method_4_code 4 = .ok (.ifCond .ne 22, 3) := by decide +kernel
theorem d11_26 : decode prog_35_method_4_code 26 = .ok (.iconst 0, 1) := by decide +kernel
theorem d11_27 : decode prog_35_method_4_code 27 = .ok (.ireturn, 1) := by decide +kernel
def Q_rdat_0_0 (Z : State) (r : Addr) (a : Addr) (b : Addr) (kb : ClassId) (bs : List Value) (cz : Int32) (c : Int32) (h0 : Heap) (n0 : Nat) (v : Option Value) (h : Heap) (L : List Loc) : Prop := v = some (.int (0 : Int32)) ∧ Fr n0 L ∧ h = h0
set_option maxRecDepth 65536 in
set_option maxHeartbeats 40000000 in
theorem rm_rdat_0_0 (l : Launch) (Z : State) (a0 : Array Value) (hw : ∀ d ∈ tables_1, d.before a0 Z = true) (ws : List Jvm.Cond) (r : Addr) (a : Addr) (b : Addr) (kb : ClassId) (bs : List Value) (cz : Int32) (c : Int32) (h0 : Heap) (n0 : Nat) (Z0 : n0 ≤ h0.size) (O2 : Sta Z Z.heap "java/lang/String" "COMPACT_STRINGS" "Z" (.int cz)) (P5 : ¬ cz = (0 : Int32)) (OLD : Old Z n0 h0) (E : Exa Z h0 a "java/lang/String") (C : Fld Z h0 a "java/lang/String" "coder" "B" (.int (0 : Int32))) (VF : Fld Z h0 a "java/lang/String" "value" "[B" (.ref b)) (VB : Arv Z h0 b kb .byte (0 : Int32) bs (.int (0 : Int32))) (rE : Exa Z h0 r "com/example/pathloom/pathloom/web/MediaType$Reader") (rT : Fld Z h0 r "com/example/pathloom/pathloom/web/MediaType$Reader" "text" "Ljava/lang/String;" (.ref a)) (rP : Fld Z h0 r "com/example/pathloom/pathloom/web/MediaType$Reader" "position" "I" (.int (0 : Int32))) :
    MetFree l (⟨"com/example/pathloom/pathloom/web/MediaType$Reader", "at", "(C)Z"⟩ : MethodName) (head1 (Jvm.Cond.code (⟨"com/example/pathloom/pathloom/web/MediaType$Reader", "at", "(C)Z"⟩ : MethodName) prog_35_method_4_code 2 (some .boolean) :: ws) ({ frames := 3, cells := 0, slots := 0, locals := 38 } : Room)) (fun aa_ U => aa_ = #[(.ref r), (.int c)] ∧ Z.Warmed39 U.vm ∧ U.heap = h0) (fun _ _ _ _ _ => True) (fun _ U o_ U' => RetG U (Q_rdat_0_0 Z r a b kb bs cz c h0 n0) 0 0 U' o_) := by
  refine MetFree.of_bodySF (plainFor_of_name own_pn3) hisR ?_
  intro p e s m args below meth c_ s₁ Bd hml0 hP hK
  obtain ⟨rfl, hZ, hh⟩ := hP
  have hx := Bd.exec
  have hby := Bd.bytes
  have hml : c_.maxLocals = 2 := hml0
  have hown : s.vm.findClass "com/example/pathloom/pathloom/web/MediaType$Reader" = some m.cls := findClass_of_methodNamed Bd.named
  have hnm := (name_of_methodNamed Bd.named Bd.method).1
  have X0 : Stand p l e ({ frames := 3, cells := 0, slots := 0, locals := 38 } : Room) s m #[(.ref r), (.int c)] below meth c_ s₁ [] 0 0 := Stand.of_body Bd
  have e0 : s₁.heap = h0 := by rw [← hh, Bd.state]; rfl
  have N0 := Fr.nil n0
  have w28_ := hw _ (List.mem_of_getElem? (i := 28) rfl)
  have w36_ := hw _ (List.mem_of_getElem? (i := 36) rfl)
  have w37_ := hw _ (List.mem_of_getElem? (i := 37) rfl)
  have w38_ := hw _ (List.mem_of_getElem? (i := 38) rfl)
  have w39_ := hw _ (List.mem_of_getElem? (i := 39) rfl)
  have w66_ := hw _ (List.mem_of_getElem? (i := 66) rfl)
  show Go p e below (RetG s (Q_rdat_0_0 Z r a b kb bs cz c h0 n0) 0 0) (s₁.setTop (entryFrame m #[(.ref r), (.int c)] 2))
  rw [show entryFrame m #[(.ref r), (.int c)] 2 = mkF m 0 #[.val (.ref r), .val (.int c)] [] from by first | (simp [entryFrame, mkF, argsToLocals, Value.category]; done) | rfl]
  refine g_aloadN X0 hx hby d11_0 rfl rfl ?_
  refine g_virtual X0 hx hby hZ hown (rm_rdend_0_0 l Z a0 hw [] r a b kb bs cz h0 n0 Z0 O2 P5 OLD E C VF VB rE rT rP) w66_ w36_ (notFace_of_selects (args := #[]) (mvT hZ w38_)) w38_ w37_ w28_ w39_ (by decide) e0 rE (by rw [hml]; rfl) [] (lenOf own_pd7 rfl) rfl rfl (Nat.le_of_ble_eq_true rfl) (Nat.le_of_ble_eq_true rfl) (Nat.le_of_ble_eq_true rfl) (Nat.le_of_ble_eq_true rfl) d11_1 (fun v1 T1 L1 X1 hQ1 => ?_)
  obtain ⟨rfl, N1q, eh1⟩ := hQ1
  have N1 := Fr.app N0 N1q
  refine g_ifY X1 hx hby 26 d11_4 (feq (by decide : ¬ ((1 : Int32) = (0 : Int32)))).2 (by decide) (by decide) ?_
  refine g_iconst X1 hx hby (0 : Int32) d11_26 rfl ?_
  refine g_nret X1 hx hby (t := .boolean) (by simp) Bd.returns Bd.notSynchronized d11_27 eh1 (by decide) (by decide) ?_
  show (Q_rdat_0_0 Z r a b kb bs cz c h0 n0) (some (.int (0 : Int32))) _ _
  exact ⟨rfl, N1, rfl⟩

theorem d10_0 : decode prog_35_method_5_code 0 = .ok (.aload_n 0, 1) := by decide +kernel
theorem d10_1 : decode prog_35_method_5_code 1 = .ok (.iload_n 1, 1) := by decide +kernel
theorem d10_2 : decode prog_35_method_5_code 2 = .ok (.invokevirtual 31, 3) := by decide +kernel
theorem own_pd8 : parseMethodDescriptor "(C)Z" = some ⟨[.char], some .boolean⟩ := by decide +kernel
theorem d10_5 : decode prog_35_method_5_code 5 = .ok (.istore_n 2, 1) := by decide +kernel
theorem d10_6 : decode prog_35_method_5_code 6 = .ok (.iload_n 2, 1) := by decide +kernel
theorem d10_7 : decode prog_35_method_5_code 7 = .ok (.ifCond .eq 13, 3) := by decide +kernel
theorem d10_20 : decode prog_35_method_5_code 20 = .ok (.iload_n 2, 1) := by decide +kernel
theorem d10_21 : decode prog_35_method_5_code 21 = .ok (.ireturn, 1) := by decide +kernel
def Q_rdtake_0_0 (Z : State) (r : Addr) (a : Addr) (b : Addr) (kb : ClassId) (bs : List Value) (cz : Int32) (c : Int32) (h0 : Heap) (n0 : Nat) (v : Option Value) (h : Heap) (L : List Loc) : Prop := v = some (.int (0 : Int32)) ∧ Fr n0 L ∧ Keep h0 h [r] ∧ Exa Z h r "com/example/pathloom/pathloom/web/MediaType$Reader" ∧ Fld Z h r "com/example/pathloom/pathloom/web/MediaType$Reader" "text" "Ljava/lang/String;" (.ref a) ∧ Fld Z h r "com/example/pathloom/pathloom/web/MediaType$Reader" "position" "I" (.int (0 : Int32))
set_option maxRecDepth 65536 in
set_option maxHeartbeats 40000000 in
theorem rm_rdtake_0_0 (l : Launch) (Z : State) (a0 : Array Value) (hw : ∀ d ∈ tables_1, d.before a0 Z = true) (ws : List Jvm.Cond) (r : Addr) (a : Addr) (b : Addr) (kb : ClassId) (bs : List Value) (cz : Int32) (c : Int32) (h0 : Heap) (n0 : Nat) (Z0 : n0 ≤ h0.size) (O2 : Sta Z Z.heap "java/lang/String" "COMPACT_STRINGS" "Z" (.int cz)) (P5 : ¬ cz = (0 : Int32)) (OLD : Old Z n0 h0) (E : Exa Z h0 a "java/lang/String") (C : Fld Z h0 a "java/lang/String" "coder" "B" (.int (0 : Int32))) (VF : Fld Z h0 a "java/lang/String" "value" "[B" (.ref b)) (VB : Arv Z h0 b kb .byte (0 : Int32) bs (.int (0 : Int32))) (rE : Exa Z h0 r "com/example/pathloom/pathloom/web/MediaType$Reader") (rT : Fld Z h0 r "com/example/pathloom/pathloom/web/MediaType$Reader" "text" "Ljava/lang/String;" (.ref a)) (rP : Fld Z h0 r "com/example/pathloom/pathloom/web/MediaType$Reader" "position" "I" (.int (0 : Int32))) (gr : n0 ≤ r) (nra : r ≠ a) (nrb : r ≠ b) :
    MetFree l (⟨"com/example/pathloom/pathloom/web/MediaType$Reader", "take", "(C)Z"⟩ : MethodName) (head1 (Jvm.Cond.code (⟨"com/example/pathloom/pathloom/web/MediaType$Reader", "take", "(C)Z"⟩ : MethodName) prog_35_method_5_code 3 (some .boolean) :: ws) ({ frames := 4, cells := 0, slots := 0, locals := 51 } : Room)) (fun aa_ U => aa_ = #[(.ref r), (.int c)] ∧ Z.Warmed39 U.vm ∧ U.heap = h0) (fun _ _ _ _ _ => True) (fun _ U o_ U' => RetG U (Q_rdtake_0_0 Z r a b kb bs cz c h0 n0) 0 0 U' o_) := by
  refine MetFree.of_bodySF (plainFor_of_name own_pn3) hisR ?_
  intro p e s m args below meth c_ s₁ Bd hml0 hP hK
  obtain ⟨rfl, hZ, hh⟩ := hP
  have hx := Bd.exec
  have hby := Bd.bytes
  have hml : c_.maxLocals = 3 := hml0
  have hown : s.vm.findClass "com/example/pathloom/pathloom/web/MediaType$Reader" = some m.cls := findClass_of_methodNamed Bd.named
  have hnm := (name_of_methodNamed Bd.named Bd.method).1
  have X0 : Stand p l e ({ frames := 4, cells := 0, slots := 0, locals := 51 } : Room) s m #[(.ref r), (.int c)] below meth c_ s₁ [] 0 0 := Stand.of_body Bd
  have e0 : s₁.heap = h0 := by rw [← hh, Bd.state]; rfl
  have N0 := Fr.nil n0
  have w28_ := hw _ (List.mem_of_getElem? (i := 28) rfl)
  have w61_ := hw _ (List.mem_of_getElem? (i := 61) rfl)
  have w62_ := hw _ (List.mem_of_getElem? (i := 62) rfl)
  have w63_ := hw _ (List.mem_of_getElem? (i := 63) rfl)
  have w64_ := hw _ (List.mem_of_getElem? (i := 64) rfl)
  have w65_ := hw _ (List.mem_of_getElem? (i := 65) rfl)
  show Go p e below (RetG s (Q_rdtake_0_0 Z r a b kb bs cz c h0 n0) 0 0) (s₁.setTop (entryFrame m #[(.ref r), (.int c)] 3))
  rw [show entryFrame m #[(.ref r), (.int c)] 3 = mkF m 0 #[.val (.ref r), .val (.int c), .unset] [] from by first | (simp [entryFrame, mkF, argsToLocals, Value.category]; done) | rfl]
  refine g_aloadN X0 hx hby d10_0 rfl rfl ?_
  refine g_iloadN X0 hx hby d10_1 rfl ?_
  refine g_virtual X0 hx hby hZ hown (rm_rdat_0_0 l Z a0 hw [] r a b kb bs cz c h0 n0 Z0 O2 P5 OLD E C VF VB rE rT rP) w61_ w62_ (notFace_of_selects (args := #[]) (mvT hZ w64_)) w64_ w63_ w28_ w65_ (by decide) e0 rE (by rw [hml]; rfl) [(.int c)] (lenOf own_pd8 rfl) rfl rfl (Nat.le_of_ble_eq_true rfl) (Nat.le_of_ble_eq_true rfl) (Nat.le_of_ble_eq_true rfl) (Nat.le_of_ble_eq_true rfl) d10_2 (fun v1 T1 L1 X1 hQ1 => ?_)
  obtain ⟨rfl, N1q, eh1⟩ := hQ1
  have N1 := Fr.app N0 N1q
  refine g_istoreN X1 hx hby d10_5 (l' := #[.val (.ref r), .val (.int c), .val (.int (0 : Int32))]) rfl ?_
  refine g_iloadN X1 hx hby d10_6 rfl ?_
  refine g_ifY X1 hx hby 20 d10_7 (teq (by decide : (0 : Int32) = (0 : Int32))).1 (by decide) (by decide) ?_
  refine g_iloadN X1 hx hby d10_20 rfl ?_
  refine g_nret X1 hx hby (t := .boolean) (by simp) Bd.returns Bd.notSynchronized d10_21 eh1 (by decide) (by decide) ?_
  show (Q_rdtake_0_0 Z r a b kb bs cz c h0 n0) (some (.int (0 : Int32))) _ _
  exact ⟨rfl, N1, (Keep.refl h0 [r]), rE, rT, rP⟩

theorem d9_7 : decode method_4_code 7 = .ok (.istore 4, 2) := by decide +kernel
theorem d9_9 : decode method_4_code 9 = .ok (.iload_n 1, 1) := by decide +kernel
theorem d9_10 : decode method_4_code 10 = .ok (.iconst 1, 1) := by decide +kernel
theorem d9_11 : decode method_4_code 11 = .ok (.iadd, 1) := by decide +kernel
theorem d9_12 : decode method_4_code 12 = .ok (.iload_n 2, 1) := by decide +kernel
theorem d9_13 : decode method_4_code 13 = .ok (.invokestatic 35, 3) := by decide +kernel
theorem own_pd9 : parseMethodDescriptor "(II)I" = some ⟨[.int, .int], some .int⟩ := by decide +kernel
theorem d9_16 : decode method_4_code 16 = .ok (.istore 5, 2) := by decide +kernel
theorem d9_18 : decode method_4_code 18 = .ok (.iload 4, 2) := by decide +kernel
theorem d9_20 : decode method_4_code 20 = .ok (.iload_n 1, 1) := by decide +kernel
theorem d9_21 : decode method_4_code 21 = .ok (.iload_n 2, 1) := by decide +kernel
theorem d9_22 : decode method_4_code 22 = .ok (.if_icmp .ge 7, 3) := by decide +kernel
theorem d9_29 : decode method_4_code 29 = .ok (.iconst 0, 1) := by decide +kernel
theorem d9_30 : decode method_4_code 30 = .ok (.if_icmp .ne 25, 3) := by decide +kernel
theorem d9_33 : decode method_4_code 33 = .ok (.aload_n 0, 1) := by decide +kernel
theorem d9_34 : decode method_4_code 34 = .ok (.invokevirtual 18, 3) := by decide +kernel
theorem d9_37 : decode method_4_code 37 = .ok (.iload 5, 2) := by decide +kernel
theorem d9_39 : decode method_4_code 39 = .ok (.iload_n 2, 1) := by decide +kernel
theorem d9_40 : decode method_4_code 40 = .ok (.if_icmp .ne 7, 3) := by decide +kernel
theorem d9_43 : decode method_4_code 43 = .ok (.iconst 1, 1) := by decide +kernel
theorem d9_44 : decode method_4_code 44 = .ok (.goto 4, 3) := by decide +kernel
theorem d9_48 : decode method_4_code 48 = .ok (.if_icmp .ne 7, 3) := by decide +kernel
theorem d9_51 : decode method_4_code 51 = .ok (.iconst 1, 1) := by decide +kernel
theorem d9_52 : decode method_4_code 52 = .ok (.goto 4, 3) := by decide +kernel
theorem d9_56 : decode method_4_code 56 = .ok (.ireturn, 1) := by decide +kernel
def Q_step00 (Z : State) (r : Addr) (a : Addr) (b : Addr) (kb : ClassId) (cz : Int32) (al : Addr) (ka : ClassId) (c0 : Int32) (c1 : Int32) (c2 : Int32) (fz : Value) (h0 : Heap) (n0 : Nat) (v : Option Value) (h : Heap) (L : List Loc) : Prop := v = some (.int (1 : Int32)) ∧ Fr n0 L ∧ Keep h0 h [r] ∧ Exa Z h r "com/example/pathloom/pathloom/web/MediaType$Reader" ∧ Fld Z h r "com/example/pathloom/pathloom/web/MediaType$Reader" "text" "Ljava/lang/String;" (.ref a) ∧ Fld Z h r "com/example/pathloom/pathloom/web/MediaType$Reader" "position" "I" (.int (0 : Int32))
set_option maxRecDepth 65536 in
set_option maxHeartbeats 40000000 in
theorem rm_step00 (l : Launch) (Z : State) (a0 : Array Value) (hw : ∀ d ∈ tables_1, d.before a0 Z = true) (ws : List Jvm.Cond) (r : Addr) (a : Addr) (b : Addr) (kb : ClassId) (cz : Int32) (al : Addr) (ka : ClassId) (c0 : Int32) (c1 : Int32) (c2 : Int32) (fz : Value) (h0 : Heap) (n0 : Nat) (Z0 : n0 ≤ h0.size) (O2 : Sta Z Z.heap "java/lang/String" "COMPACT_STRINGS" "Z" (.int cz)) (P5 : ¬ cz = (0 : Int32)) (OLD : Old Z n0 h0) (E : Exa Z h0 a "java/lang/String") (C : Fld Z h0 a "java/lang/String" "coder" "B" (.int (0 : Int32))) (VF : Fld Z h0 a "java/lang/String" "value" "[B" (.ref b)) (VB : Arv Z h0 b kb .byte (0 : Int32) [] (.int (0 : Int32))) (rE : Exa Z h0 r "com/example/pathloom/pathloom/web/MediaType$Reader") (rT : Fld Z h0 r "com/example/pathloom/pathloom/web/MediaType$Reader" "text" "Ljava/lang/String;" (.ref a)) (rP : Fld Z h0 r "com/example/pathloom/pathloom/web/MediaType$Reader" "position" "I" (.int (0 : Int32))) (VA : Arv Z h0 al ka .char (3 : Int32) [(.int c0), (.int c1), (.int c2)] (.int (0 : Int32))) (hc0 : 0 ≤ c0.toInt ∧ c0.toInt ≤ 255) (hc1 : 0 ≤ c1.toInt ∧ c1.toInt ≤ 255) (hc2 : 0 ≤ c2.toInt ∧ c2.toInt ≤ 255) (rfz : Rf fz) (O4 : Sta Z Z.heap "jdk/internal/util/Preconditions" "SIOOBE_FORMATTER" "Ljava/util/function/BiFunction;" fz) (gr : n0 ≤ r) (nra : r ≠ a) (nrb : r ≠ b) :
    MetFree l (⟨"com/example/pathloom/pathloom/web/ReaderAtEndPinLaw", "step", "(Lcom/example/pathloom/pathloom/web/MediaType$Reader;II[C)Z"⟩ : MethodName) (head1 (Jvm.Cond.code (⟨"com/example/pathloom/pathloom/web/ReaderAtEndPinLaw", "step", "(Lcom/example/pathloom/pathloom/web/MediaType$Reader;II[C)Z"⟩ : MethodName) method_4_code 6 (some .boolean) :: ws) ({ frames := 5, cells := 0, slots := 0, locals := 65 } : Room)) (fun aa_ U => aa_ = #[(.ref r), (.int (0 : Int32)), (.int (0 : Int32)), (.ref al)] ∧ Z.Warmed39 U.vm ∧ U.heap = h0) (fun _ _ _ _ _ => True) (fun _ U o_ U' => RetG U (Q_step00 Z r a b kb cz al ka c0 c1 c2 fz h0 n0) 0 0 U' o_) := by
  refine MetFree.of_bodySF (plainFor_of_name own_pn1) hisR ?_
  intro p e s m args below meth c_ s₁ Bd hml0 hP hK
  obtain ⟨rfl, hZ, hh⟩ := hP
  have hx := Bd.exec
  have hby := Bd.bytes
  have hml : c_.maxLocals = 6 := hml0
  have hown : s.vm.findClass "com/example/pathloom/pathloom/web/ReaderAtEndPinLaw" = some m.cls := findClass_of_methodNamed Bd.named
  have hnm := (name_of_methodNamed Bd.named Bd.method).1
  have X0 : Stand p l e ({ frames := 5, cells := 0, slots := 0, locals := 65 } : Room) s m #[(.ref r), (.int (0 : Int32)), (.int (0 : Int32)), (.ref al)] below meth c_ s₁ [] 0 0 := Stand.of_body Bd
  have e0 : s₁.heap = h0 := by rw [← hh, Bd.state]; rfl
  have N0 := Fr.nil n0
  have w28_ := hw _ (List.mem_of_getElem? (i := 28) rfl)
  have w35_ := hw _ (List.mem_of_getElem? (i := 35) rfl)
  have w36_ := hw _ (List.mem_of_getElem? (i := 36) rfl)
  have w37_ := hw _ (List.mem_of_getElem? (i := 37) rfl)
  have w38_ := hw _ (List.mem_of_getElem? (i := 38) rfl)
  have w39_ := hw _ (List.mem_of_getElem? (i := 39) rfl)
  have w56_ := hw _ (List.mem_of_getElem? (i := 56) rfl)
  have w57_ := hw _ (List.mem_of_getElem? (i := 57) rfl)
  have w58_ := hw _ (List.mem_of_getElem? (i := 58) rfl)
  have w59_ := hw _ (List.mem_of_getElem? (i := 59) rfl)
  have w60_ := hw _ (List.mem_of_getElem? (i := 60) rfl)
  have w67_ := hw _ (List.mem_of_getElem? (i := 67) rfl)
  have w68_ := hw _ (List.mem_of_getElem? (i := 68) rfl)
  have w69_ := hw _ (List.mem_of_getElem? (i := 69) rfl)
  have w70_ := hw _ (List.mem_of_getElem? (i := 70) rfl)
  show Go p e below (RetG s (Q_step00 Z r a b kb cz al ka c0 c1 c2 fz h0 n0) 0 0) (s₁.setTop (entryFrame m #[(.ref r), (.int (0 : Int32)), (.int (0 : Int32)), (.ref al)] 6))
  rw [show entryFrame m #[(.ref r), (.int (0 : Int32)), (.int (0 : Int32)), (.ref al)] 6 = mkF m 0 #[.val (.ref r), .val (.int (0 : Int32)), .val (.int (0 : Int32)), .val (.ref al), .unset, .unset] [] from by first | (simp [entryFrame, mkF, argsToLocals, Value.category]; done) | rfl]
  refine g_aloadN X0 hx hby d9_0 rfl rfl ?_
  refine g_aloadN X0 hx hby d9_1 rfl rfl ?_
  refine g_iloadN X0 hx hby d9_2 rfl ?_
  refine g_caload X0 hx hby hZ e0 VA (.int c0) ⟨by decide, by decide⟩ rfl d9_3 ?_
  refine g_virtual X0 hx hby hZ hown (rm_rdtake_0_0 l Z a0 hw [] r a b kb [] cz c0 h0 n0 Z0 O2 P5 OLD E C VF VB rE rT rP gr nra nrb) w56_ w57_ (notFace_of_selects (args := #[]) (mvT hZ w59_)) w59_ w58_ w28_ w60_ (by decide) e0 rE (by rw [hml]; rfl) [(.int c0)] (lenOf own_pd8 rfl) rfl rfl (Nat.le_of_ble_eq_true rfl) (Nat.le_of_ble_eq_true rfl) (Nat.le_of_ble_eq_true rfl) (Nat.le_of_ble_eq_true rfl) d9_4 (fun v1 T1 L1 X1 hQ1 => ?_)
  obtain ⟨rfl, N1q, K1, Er1, Tr1, Pr1⟩ := hQ1
  have N1 := Fr.app N0 N1q
  refine g_istore X1 hx hby d9_7 (l' := #[.val (.ref r), .val (.int (0 : Int32)), .val (.int (0 : Int32)), .val (.ref al), .val (.int (0 : Int32)), .unset]) rfl ?_
  refine g_iloadN X1 hx hby d9_9 rfl ?_
  refine g_iconst X1 hx hby (1 : Int32) d9_10 rfl ?_
  refine g_iadd X1 hx hby d9_11 ?_
  refine g_topI (1 : Int32) (by decide) ?_
  refine g_iloadN X1 hx hby d9_12 rfl ?_
  have z3 := (Nat.le_trans Z0 K1.1)
  refine g_static X1 hx hby hZ hown (rm_mmin l Z a0 hw [] (1 : Int32) (0 : Int32) T1.heap n0 z3 ) w67_ w68_ w69_ w70_ (by decide) rfl (by rw [hml]; rfl) [(.int (1 : Int32)), (.int (0 : Int32))] (lenOf own_pd9 rfl) rfl rfl (Nat.le_of_ble_eq_true rfl) (Nat.le_of_ble_eq_true rfl) (Nat.le_of_ble_eq_true rfl) (Nat.le_of_ble_eq_true rfl) d9_13 (fun v2 T2 L2 X2 hQ2 => ?_)
  obtain ⟨rfl, N2q, eh2⟩ := hQ2
  have N2 := Fr.app N1 N2q
  refine g_topI (T := T2) (0 : Int32) (by decide) ?_
  refine g_istore X2 hx hby d9_16 (l' := #[.val (.ref r), .val (.int (0 : Int32)), .val (.int (0 : Int32)), .val (.ref al), .val (.int (0 : Int32)), .val (.int (0 : Int32))]) rfl ?_
  refine g_iload X2 hx hby d9_18 rfl ?_
  refine g_iloadN X2 hx hby d9_20 rfl ?_
  refine g_iloadN X2 hx hby d9_21 rfl ?_
  refine g_at 22 rfl rfl rfl ?_
  refine g_icY X2 hx hby 29 d9_22 (flt (by decide : ¬ ((0 : Int32) < (0 : Int32)))).2.1 (by decide) (by decide) ?_
  refine g_iconst X2 hx hby (0 : Int32) d9_29 rfl ?_
  refine g_icN X2 hx hby d9_30 (teq (by decide : (0 : Int32) = (0 : Int32))).2 ?_
  refine g_aloadN X2 hx hby d9_33 rfl rfl ?_
  have f5 := (E.keep K1)
  have f6 := (C.keep K1 (ninS (Ne.symm nra) nin0))
  have f7 := (VF.keep K1 (ninS (Ne.symm nra) nin0))
  have f8 := (VB.keep K1 (ninS (Ne.symm nrb) nin0))
  have f9 := (OLD.keep K1 (allS gr all0))
  refine g_virtual X2 hx hby hZ hown (rm_rdend_0_0 l Z a0 hw [] r a b kb [] cz T1.heap n0 z3 O2 P5 f9 f5 f6 f7 f8 Er1 Tr1 Pr1) w35_ w36_ (notFace_of_selects (args := #[]) (mvT hZ w38_)) w38_ w37_ w28_ w39_ (by decide) eh2 Er1 (by rw [hml]; rfl) [] (lenOf own_pd7 rfl) rfl rfl (Nat.le_of_ble_eq_true rfl) (Nat.le_of_ble_eq_true rfl) (Nat.le_of_ble_eq_true rfl) (Nat.le_of_ble_eq_true rfl) d9_34 (fun v4 T4 L4 X4 hQ4 => ?_)
  obtain ⟨rfl, N4q, eh4⟩ := hQ4
  have N4 := Fr.app N2 N4q
  refine g_iload X4 hx hby d9_37 rfl ?_
  refine g_iloadN X4 hx hby d9_39 rfl ?_
  refine g_icN X4 hx hby d9_40 (teq (by decide : (0 : Int32) = (0 : Int32))).2 ?_
  refine g_iconst X4 hx hby (1 : Int32) d9_43 rfl ?_
  refine g_goto X4 hx hby 48 d9_44 (by decide) (by decide) ?_
  refine g_icN X4 hx hby d9_48 (teq (by decide : (1 : Int32) = (1 : Int32))).2 ?_
  refine g_iconst X4 hx hby (1 : Int32) d9_51 rfl ?_
  refine g_goto X4 hx hby 56 d9_52 (by decide) (by decide) ?_
  refine g_nret X4 hx hby (t := .boolean) (by simp) Bd.returns Bd.notSynchronized d9_56 eh4 (by decide) (by decide) ?_
  show (Q_step00 Z r a b kb cz al ka c0 c1 c2 fz h0 n0) (some (.int (1 : Int32))) _ _
  exact ⟨rfl, N4, ((Keep.refl h0 [r]).trans K1 (allS (Or.inl (List.mem_of_getElem? (i := 0) rfl)) all0)), Er1, Tr1, Pr1⟩

def Q_step01 (Z : State) (r : Addr) (a : Addr) (b : Addr) (kb : ClassId) (cz : Int32) (al : Addr) (ka : ClassId) (c0 : Int32) (c1 : Int32) (c2 : Int32) (fz : Value) (h0 : Heap) (n0 : Nat) (v : Option Value) (h : Heap) (L : List Loc) : Prop := v = some (.int (1 : Int32)) ∧ Fr n0 L ∧ Keep h0 h [r] ∧ Exa Z h r "com/example/pathloom/pathloom/web/MediaType$Reader" ∧ Fld Z h r "com/example/pathloom/pathloom/web/MediaType$Reader" "text" "Ljava/lang/String;" (.ref a) ∧ Fld Z h r "com/example/pathloom/pathloom/web/MediaType$Reader" "position" "I" (.int (0 : Int32))
set_option maxRecDepth 65536 in
set_option maxHeartbeats 40000000 in
theorem rm_step01 (l : Launch) (Z : State) (a0 : Array Value) (hw : ∀ d ∈ tables_1, d.before a0 Z = true) (ws : List Jvm.Cond) (r : Addr) (a : Addr) (b : Addr) (kb : ClassId) (cz : Int32) (al : Addr) (ka : ClassId) (c0 : Int32) (c1 : Int32) (c2 : Int32) (fz : Value) (h0 : Heap) (n0 : Nat) (Z0 : n0 ≤ h0.size) (O2 : Sta Z Z.heap "java/lang/String" "COMPACT_STRINGS" "Z" (.int cz)) (P5 : ¬ cz = (0 : Int32)) (OLD : Old Z n0 h0) (E : Exa Z h0 a "java/lang/String") (C : Fld Z h0 a "java/lang/String" "coder" "B" (.int (0 : Int32))) (VF : Fld Z h0 a "java/lang/String" "value" "[B" (.ref b)) (VB : Arv Z h0 b kb .byte (0 : Int32) [] (.int (0 : Int32))) (rE : Exa Z h0 r "com/example/pathloom/pathloom/web/MediaType$Reader") (rT : Fld Z h0 r "com/example/pathloom/pathloom/web/MediaType$Reader" "text" "Ljava/lang/String;" (.ref a)) (rP : Fld Z h0 r "com/example/pathloom/pathloom/web/MediaType$Reader" "position" "I" (.int (0 : Int32))) (VA : Arv Z h0 al ka .char (3 : Int32) [(.int c0), (.int c1), (.int c2)] (.int (0 : Int32))) (hc0 : 0 ≤ c0.toInt ∧ c0.toInt ≤ 255) (hc1 : 0 ≤ c1.toInt ∧ c1.toInt ≤ 255) (hc2 : 0 ≤ c2.toInt ∧ c2.toInt ≤ 255) (rfz : Rf fz) (O4 : Sta Z Z.heap "jdk/internal/util/Preconditions" "SIOOBE_FORMATTER" "Ljava/util/function/BiFunction;" fz) (gr : n0 ≤ r) (nra : r ≠ a) (nrb : r ≠ b) :
    MetFree l (⟨"com/example/pathloom/pathloom/web/ReaderAtEndPinLaw", "step", "(Lcom/example/pathloom/pathloom/web/MediaType$Reader;II[C)Z"⟩ : MethodName) (head1 (Jvm.Cond.code (⟨"com/example/pathloom/pathloom/web/ReaderAtEndPinLaw", "step", "(Lcom/example/pathloom/pathloom/web/MediaType$Reader;II[C)Z"⟩ : MethodName) method_4_code 6 (some .boolean) :: ws) ({ frames := 5, cells := 0, slots := 0, locals := 65 } : Room)) (fun aa_ U => aa_ = #[(.ref r), (.int (1 : Int32)), (.int (0 : Int32)), (.ref al)] ∧ Z.Warmed39 U.vm ∧ U.heap = h0) (fun _ _ _ _ _ => True) (fun _ U o_ U' => RetG U (Q_step01 Z r a b kb cz al ka c0 c1 c2 fz h0 n0) 0 0 U' o_) := by
  refine MetFree.of_bodySF (plainFor_of_name own_pn1) hisR ?_
  intro p e s m args below meth c_ s₁ Bd hml0 hP hK
  obtain ⟨rfl, hZ, hh⟩ := hP
  have hx := Bd.exec
  have hby := Bd.bytes
  have hml : c_.maxLocals = 6 := hml0
  have hown : s.vm.findClass "com/example/pathloom/pathloom/web/ReaderAtEndPinLaw" = some m.cls := findClass_of_methodNamed Bd.named
  have hnm := (name_of_methodNamed Bd.named Bd.method).1
  have X0 : Stand p l e ({ frames := 5, cells := 0, slots := 0, locals := 65 } : Room) s m #[(.ref r), (.int (1 : Int32)), (.int (0 : Int32)), (.ref al)] below meth c_ s₁ [] 0 0 := Stand.of_body Bd
  have e0 : s₁.heap = h0 := by rw [← hh, Bd.state]; rfl
  have N0 := Fr.nil n0
  have w28_ := hw _ (List.mem_of_getElem? (i := 28) rfl)
  have w35_ := hw _ (List.mem_of_getElem? (i := 35) rfl)
  have w36_ := hw _ (List.mem_of_getElem? (i := 36) rfl)
  have w37_ := hw _ (List.mem_of_getElem? (i := 37) rfl)
  have w38_ := hw _ (List.mem_of_getElem? (i := 38) rfl)
  have w39_ := hw _ (List.mem_of_getElem? (i := 39) rfl)
  have w56_ := hw _ (List.mem_of_getElem? (i := 56) rfl)
  have w57_ := hw _ (List.mem_of_getElem? (i := 57) rfl)
  have w58_ := hw _ (List.mem_of_getElem? (i := 58) rfl)
  have w59_ := hw _ (List.mem_of_getElem? (i := 59) rfl)
  have w60_ := hw _ (List.mem_of_getElem? (i := 60) rfl)
  have w67_ := hw _ (List.mem_of_getElem? (i := 67) rfl)
  have w68_ := hw _ (List.mem_of_getElem? (i := 68) rfl)
  have w69_ := hw _ (List.mem_of_getElem? (i := 69) rfl)
  have w70_ := hw _ (List.mem_of_getElem? (i := 70) rfl)
  show Go p e below (RetG s (Q_step01 Z r a b kb cz al ka c0 c1 c2 fz h0 n0) 0 0) (s₁.setTop (entryFrame m #[(.ref r), (.int (1 : Int32)), (.int (0 : Int32)), (.ref al)] 6))
  rw [show entryFrame m #[(.ref r), (.int (1 : Int32)), (.int (0 : Int32)), (.ref al)] 6 = mkF m 0 #[.val (.ref r), .val (.int (1 : Int32)), .val (.int (0 : Int32)), .val (.ref al), .unset, .unset] [] from by first | (simp [entryFrame, mkF, argsToLocals, Value.category]; done) | rfl]
  refine g_aloadN X0 hx hby d9_0 rfl rfl ?_
  refine g_aloadN X0 hx hby d9_1 rfl rfl ?_
  refine g_iloadN X0 hx hby d9_2 rfl ?_
  refine g_caload X0 hx hby hZ e0 VA (.int c1) ⟨by decide, by decide⟩ rfl d9_3 ?_
  refine g_virtual X0 hx hby hZ hown (rm_rdtake_0_0 l Z a0 hw [] r a b kb [] cz c1 h0 n0 Z0 O2 P5 OLD E C VF VB rE rT rP gr nra nrb) w56_ w57_ (notFace_of_selects (args := #[]) (mvT hZ w59_)) w59_ w58_ w28_ w60_ (by decide) e0 rE (by rw [hml]; rfl) [(.int c1)] (lenOf own_pd8 rfl) rfl rfl (Nat.le_of_ble_eq_true rfl) (Nat.le_of_ble_eq_true rfl) (Nat.le_of_ble_eq_true rfl) (Nat.le_of_ble_eq_true rfl) d9_4 (fun v1 T1 L1 X1 hQ1 => ?_)
  obtain ⟨rfl, N1q, K1, Er1, Tr1, Pr1⟩ := hQ1
  have N1 := Fr.app N0 N1q
  refine g_istore X1 hx hby d9_7 (l' := #[.val (.ref r), .val (.int (1 : Int32)), .val (.int (0 : Int32)), .val (.ref al), .val (.int (0 : Int32)), .unset]) rfl ?_
  refine g_iloadN X1 hx hby d9_9 rfl ?_
  refine g_iconst X1 hx hby (1 : Int32) d9_10 rfl ?_
  refine g_iadd X1 hx hby d9_11 ?_
  refine g_topI (2 : Int32) (by decide) ?_
  refine g_iloadN X1 hx hby d9_12 rfl ?_
  have z3 := (Nat.le_trans Z0 K1.1)
  refine g_static X1 hx hby hZ hown (rm_mmin l Z a0 hw [] (2 : Int32) (0 : Int32) T1.heap n0 z3 ) w67_ w68_ w69_ w70_ (by decide) rfl (by rw [hml]; rfl) [(.int (2 : Int32)), (.int (0 : Int32))] (lenOf own_pd9 rfl) rfl rfl (Nat.le_of_ble_eq_true rfl) (Nat.le_of_ble_eq_true rfl) (Nat.le_of_ble_eq_true rfl) (Nat.le_of_ble_eq_true rfl) d9_13 (fun v2 T2 L2 X2 hQ2 => ?_)
  obtain ⟨rfl, N2q, eh2⟩ := hQ2
  have N2 := Fr.app N1 N2q
  refine g_topI (T := T2) (0 : Int32) (by decide) ?_
  refine g_istore X2 hx hby d9_16 (l' := #[.val (.ref r), .val (.int (1 : Int32)), .val (.int (0 : Int32)), .val (.ref al), .val (.int (0 : Int32)), .val (.int (0 : Int32))]) rfl ?_
  refine g_iload X2 hx hby d9_18 rfl ?_
  refine g_iloadN X2 hx hby d9_20 rfl ?_
  refine g_iloadN X2 hx hby d9_21 rfl ?_
  refine g_at 22 rfl rfl rfl ?_
  refine g_icY X2 hx hby 29 d9_22 (flt (by decide : ¬ ((1 : Int32) < (0 : Int32)))).2.1 (by decide) (by decide) ?_
  refine g_iconst X2 hx hby (0 : Int32) d9_29 rfl ?_
  refine g_icN X2 hx hby d9_30 (teq (by decide : (0 : Int32) = (0 : Int32))).2 ?_
  refine g_aloadN X2 hx hby d9_33 rfl rfl ?_
  have f5 := (E.keep K1)
  have f6 := (C.keep K1 (ninS (Ne.symm nra) nin0))
  have f7 := (VF.keep K1 (ninS (Ne.symm nra) nin0))
  have f8 := (VB.keep K1 (ninS (Ne.symm nrb) nin0))
  have f9 := (OLD.keep K1 (allS gr all0))
  refine g_virtual X2 hx hby hZ hown (rm_rdend_0_0 l Z a0 hw [] r a b kb [] cz T1.heap n0 z3 O2 P5 f9 f5 f6 f7 f8 Er1 Tr1 Pr1) w35_ w36_ (notFace_of_selects (args := #[]) (mvT hZ w38_)) w38_ w37_ w28_ w39_ (by decide) eh2 Er1 (by rw [hml]; rfl) [] (lenOf own_pd7 rfl) rfl rfl (Nat.le_of_ble_eq_true rfl) (Nat.le_of_ble_eq_true rfl) (Nat.le_of_ble_eq_true rfl) (Nat.le_of_ble_eq_true rfl) d9_34 (fun v4 T4 L4 X4 hQ4 => ?_)
  obtain ⟨rfl, N4q, eh4⟩ := hQ4
  have N4 := Fr.app N2 N4q
  refine g_iload X4 hx hby d9_37 rfl ?_
  refine g_iloadN X4 hx hby d9_39 rfl ?_
  refine g_icN X4 hx hby d9_40 (teq (by decide : (0 : Int32) = (0 : Int32))).2 ?_
  refine g_iconst X4 hx hby (1 : Int32) d9_43 rfl ?_
  refine g_goto X4 hx hby 48 d9_44 (by decide) (by decide) ?_
  refine g_icN X4 hx hby d9_48 (teq (by decide : (1 : Int32) = (1 : Int32))).2 ?_
  refine g_iconst X4 hx hby (1 : Int32) d9_51 rfl ?_
  refine g_goto X4 hx hby 56 d9_52 (by decide) (by decide) ?_
  refine g_nret X4 hx hby (t := .boolean) (by simp) Bd.returns Bd.notSynchronized d9_56 eh4 (by decide) (by decide) ?_
  show (Q_step01 Z r a b kb cz al ka c0 c1 c2 fz h0 n0) (some (.int (1 : Int32))) _ _
  exact ⟨rfl, N4, ((Keep.refl h0 [r]).trans K1 (allS (Or.inl (List.mem_of_getElem? (i := 0) rfl)) all0)), Er1, Tr1, Pr1⟩

def Q_step02 (Z : State) (r : Addr) (a : Addr) (b : Addr) (kb : ClassId) (cz : Int32) (al : Addr) (ka : ClassId) (c0 : Int32) (c1 : Int32) (c2 : Int32) (fz : Value) (h0 : Heap) (n0 : Nat) (v : Option Value) (h : Heap) (L : List Loc) : Prop := v = some (.int (1 : Int32)) ∧ Fr n0 L ∧ Keep h0 h [r] ∧ Exa Z h r "com/example/pathloom/pathloom/web/MediaType$Reader" ∧ Fld Z h r "com/example/pathloom/pathloom/web/MediaType$Reader" "text" "Ljava/lang/String;" (.ref a) ∧ Fld Z h r "com/example/pathloom/pathloom/web/MediaType$Reader" "position" "I" (.int (0 : Int32))
set_option maxRecDepth 65536 in
set_option maxHeartbeats 40000000 in
theorem rm_step02 (l : Launch) (Z : State) (a0 : Array Value) (hw : ∀ d ∈ tables_1, d.before a0 Z = true) (ws : List Jvm.Cond) (r : Addr) (a : Addr) (b : Addr) (kb : ClassId) (cz : Int32) (al : Addr) (ka : ClassId) (c0 : Int32) (c1 : Int32) (c2 : Int32) (fz : Value) (h0 : Heap) (n0 : Nat) (Z0 : n0 ≤ h0.size) (O2 : Sta Z Z.heap "java/lang/String" "COMPACT_STRINGS" "Z" (.int cz)) (P5 : ¬ cz = (0 : Int32)) (OLD : Old Z n0 h0) (E : Exa Z h0 a "java/lang/String") (C : Fld Z h0 a "java/lang/String" "coder" "B" (.int (0 : Int32))) (VF : Fld Z h0 a "java/lang/String" "value" "[B" (.ref b)) (VB : Arv Z h0 b kb .byte (0 : Int32) [] (.int (0 : Int32))) (rE : Exa Z h0 r "com/example/pathloom/pathloom/web/MediaType$Reader") (rT : Fld Z h0 r "com/example/pathloom/pathloom/web/MediaType$Reader" "text" "Ljava/lang/String;" (.ref a)) (rP : Fld Z h0 r "com/example/pathloom/pathloom/web/MediaType$Reader" "position" "I" (.int (0 : Int32))) (VA : Arv Z h0 al ka .char (3 : Int32) [(.int c0), (.int c1), (.int c2)] (.int (0 : Int32))) (hc0 : 0 ≤ c0.toInt ∧ c0.toInt ≤ 255) (hc1 : 0 ≤ c1.toInt ∧ c1.toInt ≤ 255) (hc2 : 0 ≤ c2.toInt ∧ c2.toInt ≤ 255) (rfz : Rf fz) (O4 : Sta Z Z.heap "jdk/internal/util/Preconditions" "SIOOBE_FORMATTER" "Ljava/util/function/BiFunction;" fz) (gr : n0 ≤ r) (nra : r ≠ a) (nrb : r ≠ b) :
    MetFree l (⟨"com/example/pathloom/pathloom/web/ReaderAtEndPinLaw", "step", "(Lcom/example/pathloom/pathloom/web/MediaType$Reader;II[C)Z"⟩ : MethodName) (head1 (Jvm.Cond.code (⟨"com/example/pathloom/pathloom/web/ReaderAtEndPinLaw", "step", "(Lcom/example/pathloom/pathloom/web/MediaType$Reader;II[C)Z"⟩ : MethodName) method_4_code 6 (some .boolean) :: ws) ({ frames := 5, cells := 0, slots := 0, locals := 65 } : Room)) (fun aa_ U => aa_ = #[(.ref r), (.int (2 : Int32)), (.int (0 : Int32)), (.ref al)] ∧ Z.Warmed39 U.vm ∧ U.heap = h0) (fun _ _ _ _ _ => True) (fun _ U o_ U' => RetG U (Q_step02 Z r a b kb cz al ka c0 c1 c2 fz h0 n0) 0 0 U' o_) := by
  refine MetFree.of_bodySF (plainFor_of_name own_pn1) hisR ?_
  intro p e s m args below meth c_ s₁ Bd hml0 hP hK
  obtain ⟨rfl, hZ, hh⟩ := hP
  have hx := Bd.exec
  have hby := Bd.bytes
  have hml : c_.maxLocals = 6 := hml0
  have hown : s.vm.findClass "com/example/pathloom/pathloom/web/ReaderAtEndPinLaw" = some m.cls := findClass_of_methodNamed Bd.named
  have hnm := (name_of_methodNamed Bd.named Bd.method).1
  have X0 : Stand p l e ({ frames := 5, cells := 0, slots := 0, locals := 65 } : Room) s m #[(.ref r), (.int (2 : Int32)), (.int (0 : Int32)), (.ref al)] below meth c_ s₁ [] 0 0 := Stand.of_body Bd
  have e0 : s₁.heap = h0 := by rw [← hh, Bd.state]; rfl
  have N0 := Fr.nil n0
  have w28_ := hw _ (List.mem_of_getElem? (i := 28) rfl)
  have w35_ := hw _ (List.mem_of_getElem? (i := 35) rfl)
  have w36_ := hw _ (List.mem_of_getElem? (i := 36) rfl)
  have w37_ := hw _ (List.mem_of_getElem? (i := 37) rfl)
  have w38_ := hw _ (List.mem_of_getElem? (i := 38) rfl)
  have w39_ := hw _ (List.mem_of_getElem? (i := 39) rfl)
  have w56_ := hw _ (List.mem_of_getElem? (i := 56) rfl)
  have w57_ := hw _ (List.mem_of_getElem? (i := 57) rfl)
  have w58_ := hw _ (List.mem_of_getElem? (i := 58) rfl)
  have w59_ := hw _ (List.mem_of_getElem? (i := 59) rfl)
  have w60_ := hw _ (List.mem_of_getElem? (i := 60) rfl)
  have w67_ := hw _ (List.mem_of_getElem? (i := 67) rfl)
  have w68_ := hw _ (List.mem_of_getElem? (i := 68) rfl)
  have w69_ := hw _ (List.mem_of_getElem? (i := 69) rfl)
  have w70_ := hw _ (List.mem_of_getElem? (i := 70) rfl)
  show Go p e below (RetG s (Q_step02 Z r a b kb cz al ka c0 c1 c2 fz h0 n0) 0 0) (s₁.setTop (entryFrame m #[(.ref r), (.int (2 : Int32)), (.int (0 : Int32)), (.ref al)] 6))
  rw [show entryFrame m #[(.ref r), (.int (2 : Int32)), (.int (0 : Int32)), (.ref al)] 6 = mkF m 0 #[.val (.ref r), .val (.int (2 : Int32)), .val (.int (0 : Int32)), .val (.ref al), .unset, .unset] [] from by first | (simp [entryFrame, mkF, argsToLocals, Value.category]; done) | rfl]
  refine g_aloadN X0 hx hby d9_0 rfl rfl ?_
  refine g_aloadN X0 hx hby d9_1 rfl rfl ?_
  refine g_iloadN X0 hx hby d9_2 rfl ?_
  refine g_caload X0 hx hby hZ e0 VA (.int c2) ⟨by decide, by decide⟩ rfl d9_3 ?_
  refine g_virtual X0 hx hby hZ hown (rm_rdtake_0_0 l Z a0 hw [] r a b kb [] cz c2 h0 n0 Z0 O2 P5 OLD E C VF VB rE rT rP gr nra nrb) w56_ w57_ (notFace_of_selects (args := #[]) (mvT hZ w59_)) w59_ w58_ w28_ w60_ (by decide) e0 rE (by rw [hml]; rfl) [(.int c2)] (lenOf own_pd8 rfl) rfl rfl (Nat.le_of_ble_eq_true rfl) (Nat.le_of_ble_eq_true rfl) (Nat.le_of_ble_eq_true rfl) (Nat.le_of_ble_eq_true rfl) d9_4 (fun v1 T1 L1 X1 hQ1 => ?_)
  obtain ⟨rfl, N1q, K1, Er1, Tr1, Pr1⟩ := hQ1
  have N1 := Fr.app N0 N1q
  refine g_istore X1 hx hby d9_7 (l' := #[.val (.ref r), .val (.int (2 : Int32)), .val (.int (0 : Int32)), .val (.ref al), .val (.int (0 : Int32)), .unset]) rfl ?_
  refine g_iloadN X1 hx hby d9_9 rfl ?_
  refine g_iconst X1 hx hby (1 : Int32) d9_10 rfl ?_
  refine g_iadd X1 hx hby d9_11 ?_
  refine g_topI (3 : Int32) (by decide) ?_
  refine g_iloadN X1 hx hby d9_12 rfl ?_
  have z3 := (Nat.le_trans Z0 K1.1)
  refine g_static X1 hx hby hZ hown (rm_mmin l Z a0 hw [] (3 : Int32) (0 : Int32) T1.heap n0 z3 ) w67_ w68_ w69_ w70_ (by decide) rfl (by rw [hml]; rfl) [(.int (3 : Int32)), (.int (0 : Int32))] (lenOf own_pd9 rfl) rfl rfl (Nat.le_of_ble_eq_true rfl) (Nat.le_of_ble_eq_true rfl) (Nat.le_of_ble_eq_true rfl) (Nat.le_of_ble_eq_true rfl) d9_13 (fun v2 T2 L2 X2 hQ2 => ?_)
  obtain ⟨rfl, N2q, eh2⟩ := hQ2
  have N2 := Fr.app N1 N2q
  refine g_topI (T := T2) (0 : Int32) (by decide) ?_
  refine g_istore X2 hx hby d9_16 (l' := #[.val (.ref r), .val (.int (2 : Int32)), .val (.int (0 : Int32)), .val (.ref al), .val (.int (0 : Int32)), .val (.int (0 : Int32))]) rfl ?_
  refine g_iload X2 hx hby d9_18 rfl ?_
  refine g_iloadN X2 hx hby d9_20 rfl ?_
  refine g_iloadN X2 hx hby d9_21 rfl ?_
  refine g_at 22 rfl rfl rfl ?_
  refine g_icY X2 hx hby 29 d9_22 (flt (by decide : ¬ ((2 : Int32) < (0 : Int32)))).2.1 (by decide) (by decide) ?_
  refine g_iconst X2 hx hby (0 : Int32) d9_29 rfl ?_
  refine g_icN X2 hx hby d9_30 (teq (by decide : (0 : Int32) = (0 : Int32))).2 ?_
  refine g_aloadN X2 hx hby d9_33 rfl rfl ?_
  have f5 := (E.keep K1)
  have f6 := (C.keep K1 (ninS (Ne.symm nra) nin0))
  have f7 := (VF.keep K1 (ninS (Ne.symm nra) nin0))
  have f8 := (VB.keep K1 (ninS (Ne.symm nrb) nin0))
  have f9 := (OLD.keep K1 (allS gr all0))
  refine g_virtual X2 hx hby hZ hown (rm_rdend_0_0 l Z a0 hw [] r a b kb [] cz T1.heap n0 z3 O2 P5 f9 f5 f6 f7 f8 Er1 Tr1 Pr1) w35_ w36_ (notFace_of_selects (args := #[]) (mvT hZ w38_)) w38_ w37_ w28_ w39_ (by decide) eh2 Er1 (by rw [hml]; rfl) [] (lenOf own_pd7 rfl) rfl rfl (Nat.le_of_ble_eq_true rfl) (Nat.le_of_ble_eq_true rfl) (Nat.le_of_ble_eq_true rfl) (Nat.le_of_ble_eq_true rfl) d9_34 (fun v4 T4 L4 X4 hQ4 => ?_)
  obtain ⟨rfl, N4q, eh4⟩ := hQ4
  have N4 := Fr.app N2 N4q
  refine g_iload X4 hx hby d9_37 rfl ?_
  refine g_iloadN X4 hx hby d9_39 rfl ?_
  refine g_icN X4 hx hby d9_40 (teq (by decide : (0 : Int32) = (0 : Int32))).2 ?_
  refine g_iconst X4 hx hby (1 : Int32) d9_43 rfl ?_
  refine g_goto X4 hx hby 48 d9_44 (by decide) (by decide) ?_
  refine g_icN X4 hx hby d9_48 (teq (by decide : (1 : Int32) = (1 : Int32))).2 ?_
  refine g_iconst X4 hx hby (1 : Int32) d9_51 rfl ?_
  refine g_goto X4 hx hby 56 d9_52 (by decide) (by decide) ?_
  refine g_nret X4 hx hby (t := .boolean) (by simp) Bd.returns Bd.notSynchronized d9_56 eh4 (by decide) (by decide) ?_
  show (Q_step02 Z r a b kb cz al ka c0 c1 c2 fz h0 n0) (some (.int (1 : Int32))) _ _
  exact ⟨rfl, N4, ((Keep.refl h0 [r]).trans K1 (allS (Or.inl (List.mem_of_getElem? (i := 0) rfl)) all0)), Er1, Tr1, Pr1⟩

def Q_slen_1 (Z : State) (a : Addr) (b : Addr) (kb : ClassId) (bs : List Value) (cz : Int32) (h0 : Heap) (n0 : Nat) (v : Option Value) (h : Heap) (L : List Loc) : Prop := v = some (.int (1 : Int32)) ∧ Fr n0 L ∧ h = h0
set_option maxRecDepth 65536 in
set_option maxHeartbeats 40000000 in
theorem rm_slen_1 (l : Launch) (Z : State) (a0 : Array Value) (hw : ∀ d ∈ tables_1, d.before a0 Z = true) (ws : List Jvm.Cond) (a : Addr) (b : Addr) (kb : ClassId) (bs : List Value) (cz : Int32) (h0 : Heap) (n0 : Nat) (Z0 : n0 ≤ h0.size) (O2 : Sta Z Z.heap "java/lang/String" "COMPACT_STRINGS" "Z" (.int cz)) (P5 : ¬ cz = (0 : Int32)) (OLD : Old Z n0 h0) (E : Exa Z h0 a "java/lang/String") (C : Fld Z h0 a "java/lang/String" "coder" "B" (.int (0 : Int32))) (VF : Fld Z h0 a "java/lang/String" "value" "[B" (.ref b)) (VB : Arv Z h0 b kb .byte (1 : Int32) bs (.int (0 : Int32))) :
    MetFree l (⟨"java/lang/String", "length", "()I"⟩ : MethodName) (head1 (Jvm.Cond.code (⟨"java/lang/String", "length", "()I"⟩ : MethodName) jdk_42_method_54_code 1 (some .int) :: ws) ({ frames := 1, cells := 0, slots := 0, locals := 13 } : Room)) (fun aa_ U => aa_ = #[(.ref a)] ∧ Z.Warmed39 U.vm ∧ U.heap = h0) (fun _ _ _ _ _ => True) (fun _ U o_ U' => RetG U (Q_slen_1 Z a b kb bs cz h0 n0) 0 0 U' o_) := by
  refine MetFree.of_bodySF (plainFor_of_name own_pn0) hisR ?_
  intro p e s m args below meth c_ s₁ Bd hml0 hP hK
  obtain ⟨rfl, hZ, hh⟩ := hP
  have hx := Bd.exec
  have hby := Bd.bytes
  have hml : c_.maxLocals = 1 := hml0
  have hown : s.vm.findClass "java/lang/String" = some m.cls := findClass_of_methodNamed Bd.named
  have hnm := (name_of_methodNamed Bd.named Bd.method).1
  have X0 : Stand p l e ({ frames := 1, cells := 0, slots := 0, locals := 13 } : Room) s m #[(.ref a)] below meth c_ s₁ [] 0 0 := Stand.of_body Bd
  have e0 : s₁.heap = h0 := by rw [← hh, Bd.state]; rfl
  have N0 := Fr.nil n0
  have w7_ := hw _ (List.mem_of_getElem? (i := 7) rfl)
  have w24_ := hw _ (List.mem_of_getElem? (i := 24) rfl)
  have w47_ := hw _ (List.mem_of_getElem? (i := 47) rfl)
  have w48_ := hw _ (List.mem_of_getElem? (i := 48) rfl)
  have w49_ := hw _ (List.mem_of_getElem? (i := 49) rfl)
  have w50_ := hw _ (List.mem_of_getElem? (i := 50) rfl)
  have w51_ := hw _ (List.mem_of_getElem? (i := 51) rfl)
  show Go p e below (RetG s (Q_slen_1 Z a b kb bs cz h0 n0) 0 0) (s₁.setTop (entryFrame m #[(.ref a)] 1))
  rw [show entryFrame m #[(.ref a)] 1 = mkF m 0 #[.val (.ref a)] [] from by first | (simp [entryFrame, mkF, argsToLocals, Value.category]; done) | rfl]
  refine g_aloadN X0 hx hby d7_0 rfl rfl ?_
  refine g_getF X0 hx hby hZ hown (host := "") (Or.inl w24_) Via.refl e0 VF d7_1 (fun T1 X1 e1 => ?_)
  refine g_arraylength X1 hx hby hZ e1 VB d7_4 ?_
  refine g_aloadN X1 hx hby d7_5 rfl rfl ?_
  refine g_virtual X1 hx hby hZ hown (rm_coder l Z a0 hw [] a (0 : Int32) cz h0 n0 Z0 O2 P5 OLD C) w47_ w48_ (notFace_of_selects (args := #[]) (mvT hZ w50_)) w50_ w49_ w7_ w51_ (by decide) e1 E (by rw [hml]; rfl) [] (lenOf own_pd5 rfl) rfl rfl (Nat.le_of_ble_eq_true rfl) (Nat.le_of_ble_eq_true rfl) (Nat.le_of_ble_eq_true rfl) (Nat.le_of_ble_eq_true rfl) d7_6 (fun v2 T2 L2 X2 hQ2 => ?_)
  obtain ⟨rfl, N2q, eh2⟩ := hQ2
  have N2 := Fr.app N0 N2q
  refine g_topI (T := T2) (0 : Int32) (by decide) ?_
  refine g_ishr X2 hx hby d7_9 ?_
  refine g_topI (1 : Int32) (by decide) ?_
  refine g_iret X2 hx hby Bd.returns Bd.notSynchronized d7_10 eh2 (by decide) (by decide) ?_
  show (Q_slen_1 Z a b kb bs cz h0 n0) (some (.int (1 : Int32))) _ _
  exact ⟨rfl, N2, rfl⟩

theorem d6_18 : decode prog_35_method_2_code 18 = .ok (.iconst 0, 1) := by decide +kernel
def Q_rdend_1_0 (Z : State) (r : Addr) (a : Addr) (b : Addr) (kb : ClassId) (bs : List Value) (cz : Int32) (h0 : Heap) (n0 : Nat) (v : Option Value) (h : Heap) (L : List Loc) : Prop := v = some (.int (0 : Int32)) ∧ Fr n0 L ∧ h = h0
set_option maxRecDepth 65536 in
set_option maxHeartbeats 40000000 in
theorem rm_rdend_1_0 (l : Launch) (Z : State) (a0 : Array Value) (hw : ∀ d ∈ tables_1, d.before a0 Z = true) (ws : List Jvm.Cond) (r : Addr) (a : Addr) (b : Addr) (kb : ClassId) (bs : List Value) (cz : Int32) (h0 : Heap) (n0 : Nat) (Z0 : n0 ≤ h0.size) (O2 : Sta Z Z.heap "java/lang/String" "COMPACT_STRINGS" "Z" (.int cz)) (P5 : ¬ cz = (0 : Int32)) (OLD : Old Z n0 h0) (E : Exa Z h0 a "java/lang/String") (C : Fld Z h0 a "java/lang/String" "coder" "B" (.int (0 : Int32))) (VF : Fld Z h0 a "java/lang/String" "value" "[B" (.ref b)) (VB : Arv Z h0 b kb .byte (1 : Int32) bs (.int (0 : Int32))) (rE : Exa Z h0 r "com/example/pathloom/pathloom/web/MediaType$Reader") (rT : Fld Z h0 r "com/example/pathloom/pathloom/web/MediaType$Reader" "text" "Ljava/lang/String;" (.ref a)) (rP : Fld Z h0 r "com/example/pathloom/pathloom/web/MediaType$Reader" "position" "I" (.int (0 : Int32))) :
    MetFree l (⟨"com/example/pathloom/pathloom/web/MediaType$Reader", "atEnd", "()Z"⟩ : MethodName) (head1 (Jvm.Cond.code (⟨"com/example/pathloom/pathloom/web/MediaType$Reader", "atEnd", "()Z"⟩ : MethodName) prog_35_method_2_code 1 (some .boolean) :: ws) ({ frames := 2, cells := 0, slots := 0, locals := 26 } : Room)) (fun aa_ U => aa_ = #[(.ref r)] ∧ Z.Warmed39 U.vm ∧ U.heap = h0) (fun _ _ _ _ _ => True) (fun _ U o_ U' => RetG U (Q_rdend_1_0 Z r a b kb bs cz h0 n0) 0 0 U' o_) := by
  refine MetFree.of_bodySF (plainFor_of_name own_pn3) hisR ?_
  intro p e s m args below meth c_ s₁ Bd hml0 hP hK
  obtain ⟨rfl, hZ, hh⟩ := hP
  have hx := Bd.exec
  have hby := Bd.bytes
  have hml : c_.maxLocals = 1 := hml0
  have hown : s.vm.findClass "com/example/pathloom/pathloom/web/MediaType$Reader" = some m.cls := findClass_of_methodNamed Bd.named
  have hnm := (name_of_methodNamed Bd.named Bd.method).1
  have X0 : Stand p l e ({ frames := 2, cells := 0, slots := 0, locals := 26 } : Room) s m #[(.ref r)] below meth c_ s₁ [] 0 0 := Stand.of_body Bd
  have e0 : s₁.heap = h0 := by rw [← hh, Bd.state]; rfl
  have N0 := Fr.nil n0
  have w7_ := hw _ (List.mem_of_getElem? (i := 7) rfl)
  have w33_ := hw _ (List.mem_of_getElem? (i := 33) rfl)
  have w40_ := hw _ (List.mem_of_getElem? (i := 40) rfl)
  have w42_ := hw _ (List.mem_of_getElem? (i := 42) rfl)
  have w43_ := hw _ (List.mem_of_getElem? (i := 43) rfl)
  have w44_ := hw _ (List.mem_of_getElem? (i := 44) rfl)
  have w45_ := hw _ (List.mem_of_getElem? (i := 45) rfl)
  have w46_ := hw _ (List.mem_of_getElem? (i := 46) rfl)
  show Go p e below (RetG s (Q_rdend_1_0 Z r a b kb bs cz h0 n0) 0 0) (s₁.setTop (entryFrame m #[(.ref r)] 1))
  rw [show entryFrame m #[(.ref r)] 1 = mkF m 0 #[.val (.ref r)] [] from by first | (simp [entryFrame, mkF, argsToLocals, Value.category]; done) | rfl]
  refine g_aloadN X0 hx hby d6_0 rfl rfl ?_
  refine g_getF X0 hx hby hZ hown (host := "") (Or.inl w40_) Via.refl e0 rP d6_1 (fun T1 X1 e1 => ?_)
  refine g_aloadN X1 hx hby d6_4 rfl rfl ?_
  refine g_getF X1 hx hby hZ hown (host := "") (Or.inl w33_) Via.refl e1 rT d6_5 (fun T2 X2 e2 => ?_)
  refine g_virtual X2 hx hby hZ hown (rm_slen_1 l Z a0 hw [] a b kb bs cz h0 n0 Z0 O2 P5 OLD E C VF VB) w42_ w43_ (notFace_of_selects (args := #[]) (mvT hZ w45_)) w45_ w44_ w7_ w46_ (by decide) e2 E (by rw [hml]; rfl) [] (lenOf own_pd6 rfl) rfl rfl (Nat.le_of_ble_eq_true rfl) (Nat.le_of_ble_eq_true rfl) (Nat.le_of_ble_eq_true rfl) (Nat.le_of_ble_eq_true rfl) d6_8 (fun v3 T3 L3 X3 hQ3 => ?_)
  obtain ⟨rfl, N3q, eh3⟩ := hQ3
  have N3 := Fr.app N0 N3q
  refine g_icY X3 hx hby 18 d6_11 (feq (by decide : ¬ ((0 : Int32) = (1 : Int32)))).2 (by decide) (by decide) ?_
  refine g_iconst X3 hx hby (0 : Int32) d6_18 rfl ?_
  refine g_nret X3 hx hby (t := .boolean) (by simp) Bd.returns Bd.notSynchronized d6_19 eh3 (by decide) (by decide) ?_
  show (Q_rdend_1_0 Z r a b kb bs cz h0 n0) (some (.int (0 : Int32))) _ _
  exact ⟨rfl, N3, rfl⟩

theorem d20_0 : decode jdk_41_method_11_code 0 = .ok (.iload_n 0, 1) := by decide +kernel
theorem d20_1 : decode jdk_41_method_11_code 1 = .ok (.ifCond .lt 8, 3) := by decide +kernel
theorem d20_4 : decode jdk_41_method_11_code 4 = .ok (.iload_n 0, 1) := by decide +kernel
theorem d20_5 : decode jdk_41_method_11_code 5 = .ok (.iload_n 1, 1) := by decide +kernel
theorem d20_6 : decode jdk_41_method_11_code 6 = .ok (.if_icmp .lt 10, 3) := by decide +kernel
theorem d20_16 : decode jdk_41_method_11_code 16 = .ok (.iload_n 0, 1) := by decide +kernel
theorem d20_17 : decode jdk_41_method_11_code 17 = .ok (.ireturn, 1) := by decide +kernel
theorem own_pn4 : plainName "jdk/internal/util/Preconditions" = true := by first | (simp [plainName, overriddenIn]; done) | decide +kernel
def Q_pchk (Z : State) (j : Int32) (z : Int32) (fz : Value) (h0 : Heap) (n0 : Nat) (v : Option Value) (h : Heap) (L : List Loc) : Prop := v = some (.int j) ∧ Fr n0 L ∧ h = h0
set_option maxRecDepth 65536 in
set_option maxHeartbeats 40000000 in
theorem rm_pchk (l : Launch) (Z : State) (a0 : Array Value) (hw : ∀ d ∈ tables_1, d.before a0 Z = true) (ws : List Jvm.Cond) (j : Int32) (z : Int32) (fz : Value) (h0 : Heap) (n0 : Nat) (Z0 : n0 ≤ h0.size) (hj : ¬ j < 0 ∧ j < z) (rfz : Rf fz) :
    MetFree l (⟨"jdk/internal/util/Preconditions", "checkIndex", "(IILjava/util/function/BiFunction;)I"⟩ : MethodName) (head1 (Jvm.Cond.code (⟨"jdk/internal/util/Preconditions", "checkIndex", "(IILjava/util/function/BiFunction;)I"⟩ : MethodName) jdk_41_method_11_code 3 (some .int) :: ws) ({ frames := 0, cells := 0, slots := 0, locals := 0 } : Room)) (fun aa_ U => aa_ = #[(.int j), (.int z), fz] ∧ Z.Warmed39 U.vm ∧ U.heap = h0) (fun _ _ _ _ _ => True) (fun _ U o_ U' => RetG U (Q_pchk Z j z fz h0 n0) 0 0 U' o_) := by
  refine MetFree.of_bodySF (plainFor_of_name own_pn4) hisR ?_
  intro p e s m args below meth c_ s₁ Bd hml0 hP hK
  obtain ⟨rfl, hZ, hh⟩ := hP
  have hx := Bd.exec
  have hby := Bd.bytes
  have hml : c_.maxLocals = 3 := hml0
  have hown : s.vm.findClass "jdk/internal/util/Preconditions" = some m.cls := findClass_of_methodNamed Bd.named
  have hnm := (name_of_methodNamed Bd.named Bd.method).1
  have X0 : Stand p l e ({ frames := 0, cells := 0, slots := 0, locals := 0 } : Room) s m #[(.int j), (.int z), fz] below meth c_ s₁ [] 0 0 := Stand.of_body Bd
  have e0 : s₁.heap = h0 := by rw [← hh, Bd.state]; rfl
  have N0 := Fr.nil n0
  show Go p e below (RetG s (Q_pchk Z j z fz h0 n0) 0 0) (s₁.setTop (entryFrame m #[(.int j), (.int z), fz] 3))
  rw [show entryFrame m #[(.int j), (.int z), fz] 3 = mkF m 0 #[.val (.int j), .val (.int z), .val fz] [] from by rcases rfz with rfl | ⟨_, rfl⟩ <;> first | (simp [entryFrame, mkF, argsToLocals, Value.category]; done) | rfl]
  refine g_iloadN X0 hx hby d20_0 rfl ?_
  refine g_ifN X0 hx hby d20_1 (flt (hj.1 : ¬ (j < (0 : Int32)))).1 ?_
  refine g_iloadN X0 hx hby d20_4 rfl ?_
  refine g_iloadN X0 hx hby d20_5 rfl ?_
  refine g_icY X0 hx hby 16 d20_6 (tlt (hj.2 : j < z)).1 (by decide) (by decide) ?_
  refine g_iloadN X0 hx hby d20_16 rfl ?_
  refine g_iret X0 hx hby Bd.returns Bd.notSynchronized d20_17 e0 (by decide) (by decide) ?_
  show (Q_pchk Z j z fz h0 n0) (some (.int j)) _ _
  exact ⟨rfl, N0, rfl⟩

theorem d19_0 : decode jdk_42_method_155_code 0 = .ok (.iload_n 0, 1) := by decide +kernel
theorem d19_1 : decode jdk_42_method_155_code 1 = .ok (.iload_n 1, 1) := by decide +kernel
theorem d19_2 : decode jdk_42_method_155_code 2 = .ok (.getstatic 1053, 3) := by decide +kernel
theorem d19_5 : decode jdk_42_method_155_code 5 = .ok (.invokestatic 1059, 3) := by decide +kernel
theorem own_pd10 : parseMethodDescriptor "(IILjava/util/function/BiFunction;)I" = some ⟨[.int, .int, (.object "java/util/function/BiFunction")], some .int⟩ := by decide +kernel
theorem d19_8 : decode jdk_42_method_155_code 8 = .ok (.pop, 1) := by decide +kernel
theorem d19_9 : decode jdk_42_method_155_code 9 = .ok (.return_, 1) := by decide +kernel
def Q_schk (Z : State) (j : Int32) (z : Int32) (fz : Value) (h0 : Heap) (n0 : Nat) (v : Option Value) (h : Heap) (L : List Loc) : Prop := v = none ∧ Fr n0 L ∧ h = h0
set_option maxRecDepth 65536 in
set_option maxHeartbeats 40000000 in
theorem rm_schk (l : Launch) (Z : State) (a0 : Array Value) (hw : ∀ d ∈ tables_1, d.before a0 Z = true) (ws : List Jvm.Cond) (j : Int32) (z : Int32) (fz : Value) (h0 : Heap) (n0 : Nat) (Z0 : n0 ≤ h0.size) (hj : ¬ j < 0 ∧ j < z) (rfz : Rf fz) (O4 : Sta Z Z.heap "jdk/internal/util/Preconditions" "SIOOBE_FORMATTER" "Ljava/util/function/BiFunction;" fz) (OLD : Old Z n0 h0) :
    MetFree l (⟨"java/lang/String", "checkIndex", "(II)V"⟩ : MethodName) (head1 (Jvm.Cond.code (⟨"java/lang/String", "checkIndex", "(II)V"⟩ : MethodName) jdk_42_method_155_code 2 none :: ws) ({ frames := 1, cells := 0, slots := 0, locals := 14 } : Room)) (fun aa_ U => aa_ = #[(.int j), (.int z)] ∧ Z.Warmed39 U.vm ∧ U.heap = h0) (fun _ _ _ _ _ => True) (fun _ U o_ U' => RetG U (Q_schk Z j z fz h0 n0) 0 0 U' o_) := by
  refine MetFree.of_bodySF (plainFor_of_name own_pn0) hisR ?_
  intro p e s m args below meth c_ s₁ Bd hml0 hP hK
  obtain ⟨rfl, hZ, hh⟩ := hP
  have hx := Bd.exec
  have hby := Bd.bytes
  have hml : c_.maxLocals = 2 := hml0
  have hown : s.vm.findClass "java/lang/String" = some m.cls := findClass_of_methodNamed Bd.named
  have hnm := (name_of_methodNamed Bd.named Bd.method).1
  have X0 : Stand p l e ({ frames := 1, cells := 0, slots := 0, locals := 14 } : Room) s m #[(.int j), (.int z)] below meth c_ s₁ [] 0 0 := Stand.of_body Bd
  have e0 : s₁.heap = h0 := by rw [← hh, Bd.state]; rfl
  have N0 := Fr.nil n0
  have w98_ := hw _ (List.mem_of_getElem? (i := 98) rfl)
  have w99_ := hw _ (List.mem_of_getElem? (i := 99) rfl)
  have w100_ := hw _ (List.mem_of_getElem? (i := 100) rfl)
  have w101_ := hw _ (List.mem_of_getElem? (i := 101) rfl)
  have w102_ := hw _ (List.mem_of_getElem? (i := 102) rfl)
  show Go p e below (RetG s (Q_schk Z j z fz h0 n0) 0 0) (s₁.setTop (entryFrame m #[(.int j), (.int z)] 2))
  rw [show entryFrame m #[(.int j), (.int z)] 2 = mkF m 0 #[.val (.int j), .val (.int z)] [] from by first | (simp [entryFrame, mkF, argsToLocals, Value.category]; done) | rfl]
  refine g_iloadN X0 hx hby d19_0 rfl ?_
  refine g_iloadN X0 hx hby d19_1 rfl ?_
  refine g_getS X0 hx hby hZ hown (host := "") (Or.inl w98_) Via.refl e0 (O4.ext OLD.2) d19_2 (fun T1 X1 e1 => ?_)
  refine g_static X1 hx hby hZ hown (rm_pchk l Z a0 hw [] j z fz h0 n0 Z0 hj rfz) w100_ w101_ w99_ w102_ (by decide) e1 (by rw [hml]; rfl) [(.int j), (.int z), fz] (lenOf own_pd10 rfl) rfl rfl (Nat.le_of_ble_eq_true rfl) (Nat.le_of_ble_eq_true rfl) (Nat.le_of_ble_eq_true rfl) (Nat.le_of_ble_eq_true rfl) d19_5 (fun v2 T2 L2 X2 hQ2 => ?_)
  obtain ⟨rfl, N2q, eh2⟩ := hQ2
  have N2 := Fr.app N0 N2q
  refine g_pop X2 hx hby d19_8 rfl ?_
  refine g_ret X2 hx hby Bd.returns Bd.notSynchronized d19_9 eh2 (by decide) (by decide) ?_
  show (Q_schk Z j z fz h0 n0) none _ _
  exact ⟨rfl, N2, rfl⟩

theorem d17_0 : decode jdk_42_method_154_code 0 = .ok (.getstatic 38, 3) := by decide +kernel
theorem d17_3 : decode jdk_42_method_154_code 3 = .ok (.ifCond .eq 14, 3) := by decide +kernel
theorem d17_6 : decode jdk_42_method_154_code 6 = .ok (.aload_n 0, 1) := by decide +kernel
theorem d17_7 : decode jdk_42_method_154_code 7 = .ok (.getfield 15, 3) := by decide +kernel
theorem d17_10 : decode jdk_42_method_154_code 10 = .ok (.ifCond .ne 7, 3) := by decide +kernel
theorem d17_13 : decode jdk_42_method_154_code 13 = .ok (.iconst 1, 1) := by decide +kernel
theorem d17_14 : decode jdk_42_method_154_code 14 = .ok (.goto 4, 3) := by decide +kernel
theorem d17_18 : decode jdk_42_method_154_code 18 = .ok (.ireturn, 1) := by decide +kernel
def Q_islat (Z : State) (a : Addr) (cz : Int32) (h0 : Heap) (n0 : Nat) (v : Option Value) (h : Heap) (L : List Loc) : Prop := v = some (.int (1 : Int32)) ∧ Fr n0 L ∧ h = h0
set_option maxRecDepth 65536 in
set_option maxHeartbeats 40000000 in
theorem rm_islat (l : Launch) (Z : State) (a0 : Array Value) (hw : ∀ d ∈ tables_1, d.before a0 Z = true) (ws : List Jvm.Cond) (a : Addr) (cz : Int32) (h0 : Heap) (n0 : Nat) (Z0 : n0 ≤ h0.size) (O2 : Sta Z Z.heap "java/lang/String" "COMPACT_STRINGS" "Z" (.int cz)) (P5 : ¬ cz = (0 : Int32)) (OLD : Old Z n0 h0) (C : Fld Z h0 a "java/lang/String" "coder" "B" (.int (0 : Int32))) :
    MetFree l (⟨"java/lang/String", "isLatin1", "()Z"⟩ : MethodName) (head1 (Jvm.Cond.code (⟨"java/lang/String", "isLatin1", "()Z"⟩ : MethodName) jdk_42_method_154_code 1 (some .boolean) :: ws) ({ frames := 0, cells := 0, slots := 0, locals := 0 } : Room)) (fun aa_ U => aa_ = #[(.ref a)] ∧ Z.Warmed39 U.vm ∧ U.heap = h0) (fun _ _ _ _ _ => True) (fun _ U o_ U' => RetG U (Q_islat Z a cz h0 n0) 0 0 U' o_) := by
  refine MetFree.of_bodySF (plainFor_of_name own_pn0) hisR ?_
  intro p e s m args below meth c_ s₁ Bd hml0 hP hK
  obtain ⟨rfl, hZ, hh⟩ := hP
  have hx := Bd.exec
  have hby := Bd.bytes
  have hml : c_.maxLocals = 1 := hml0
  have hown : s.vm.findClass "java/lang/String" = some m.cls := findClass_of_methodNamed Bd.named
  have hnm := (name_of_methodNamed Bd.named Bd.method).1
  have X0 : Stand p l e ({ frames := 0, cells := 0, slots := 0, locals := 0 } : Room) s m #[(.ref a)] below meth c_ s₁ [] 0 0 := Stand.of_body Bd
  have e0 : s₁.heap = h0 := by rw [← hh, Bd.state]; rfl
  have N0 := Fr.nil n0
  have w25_ := hw _ (List.mem_of_getElem? (i := 25) rfl)
  have w52_ := hw _ (List.mem_of_getElem? (i := 52) rfl)
  show Go p e below (RetG s (Q_islat Z a cz h0 n0) 0 0) (s₁.setTop (entryFrame m #[(.ref a)] 1))
  rw [show entryFrame m #[(.ref a)] 1 = mkF m 0 #[.val (.ref a)] [] from by first | (simp [entryFrame, mkF, argsToLocals, Value.category]; done) | rfl]
  refine g_getS X0 hx hby hZ hown (host := "") (Or.inl w52_) Via.refl e0 (O2.ext OLD.2) d17_0 (fun T1 X1 e1 => ?_)
  refine g_ifN X1 hx hby d17_3 (feq (P5 : ¬ (cz = (0 : Int32)))).1 ?_
  refine g_aloadN X1 hx hby d17_6 rfl rfl ?_
  refine g_getF X1 hx hby hZ hown (host := "") (Or.inl w25_) Via.refl e1 C d17_7 (fun T2 X2 e2 => ?_)
  refine g_ifN X2 hx hby d17_10 (teq (by decide : (0 : Int32) = (0 : Int32))).2 ?_
  refine g_iconst X2 hx hby (1 : Int32) d17_13 rfl ?_
  refine g_goto X2 hx hby 18 d17_14 (by decide) (by decide) ?_
  refine g_nret X2 hx hby (t := .boolean) (by simp) Bd.returns Bd.notSynchronized d17_18 e2 (by decide) (by decide) ?_
  show (Q_islat Z a cz h0 n0) (some (.int (1 : Int32))) _ _
  exact ⟨rfl, N0, rfl⟩

theorem d18_0 : decode jdk_43_method_2_code 0 = .ok (.iload_n 1, 1) := by decide +kernel
theorem d18_1 : decode jdk_43_method_2_code 1 = .ok (.aload_n 0, 1) := by decide +kernel
theorem d18_2 : decode jdk_43_method_2_code 2 = .ok (.arraylength, 1) := by decide +kernel
theorem d18_3 : decode jdk_43_method_2_code 3 = .ok (.invokestatic 9, 3) := by decide +kernel
theorem own_pd11 : parseMethodDescriptor "(II)V" = some ⟨[.int, .int], none⟩ := by decide +kernel
theorem d18_6 : decode jdk_43_method_2_code 6 = .ok (.aload_n 0, 1) := by decide +kernel
theorem d18_7 : decode jdk_43_method_2_code 7 = .ok (.iload_n 1, 1) := by decide +kernel
theorem d18_8 : decode jdk_43_method_2_code 8 = .ok (.baload, 1) := by decide +kernel
theorem d18_9 : decode jdk_43_method_2_code 9 = .ok (.sipush 255, 3) := by decide +kernel
theorem d18_12 : decode jdk_43_method_2_code 12 = .ok (.iand, 1) := by decide +kernel
theorem d18_13 : decode jdk_43_method_2_code 13 = .ok (.i2c, 1) := by decide +kernel
theorem d18_14 : decode jdk_43_method_2_code 14 = .ok (.ireturn, 1) := by decide +kernel
theorem own_pn5 : plainName "java/lang/StringLatin1" = true := by first | (simp [plainName, overriddenIn]; done) | decide +kernel
def Q_lchar_1 (Z : State) (b : Addr) (kb : ClassId) (bs : List Value) (j : Int32) (bv : Int32) (fz : Value) (h0 : Heap) (n0 : Nat) (v : Option Value) (h : Heap) (L : List Loc) : Prop := v = some (.int (nar .char ((bv &&& (255 : Int32)).toUInt32.toUInt16.toUInt32.toInt32))) ∧ Fr n0 L ∧ h = h0
set_option maxRecDepth 65536 in
set_option maxHeartbeats 40000000 in
theorem rm_lchar_1 (l : Launch) (Z : State) (a0 : Array Value) (hw : ∀ d ∈ tables_1, d.before a0 Z = true) (ws : List Jvm.Cond) (b : Addr) (kb : ClassId) (bs : List Value) (j : Int32) (bv : Int32) (fz : Value) (h0 : Heap) (n0 : Nat) (Z0 : n0 ≤ h0.size) (VB : Arv Z h0 b kb .byte (1 : Int32) bs (.int (0 : Int32))) (hj : ¬ j < 0 ∧ j < (1 : Int32)) (hv : bs.getD j.toNatClampNeg (.int (0 : Int32)) = .int bv) (rfz : Rf fz) (O4 : Sta Z Z.heap "jdk/internal/util/Preconditions" "SIOOBE_FORMATTER" "Ljava/util/function/BiFunction;" fz) (OLD : Old Z n0 h0) :
    MetFree l (⟨"java/lang/StringLatin1", "charAt", "([BI)C"⟩ : MethodName) (head1 (Jvm.Cond.code (⟨"java/lang/StringLatin1", "charAt", "([BI)C"⟩ : MethodName) jdk_43_method_2_code 2 (some .char) :: ws) ({ frames := 2, cells := 0, slots := 0, locals := 27 } : Room)) (fun aa_ U => aa_ = #[(.ref b), (.int j)] ∧ Z.Warmed39 U.vm ∧ U.heap = h0) (fun _ _ _ _ _ => True) (fun _ U o_ U' => RetG U (Q_lchar_1 Z b kb bs j bv fz h0 n0) 0 0 U' o_) := by
  refine MetFree.of_bodySF (plainFor_of_name own_pn5) hisR ?_
  intro p e s m args below meth c_ s₁ Bd hml0 hP hK
  obtain ⟨rfl, hZ, hh⟩ := hP
  have hx := Bd.exec
  have hby := Bd.bytes
  have hml : c_.maxLocals = 2 := hml0
  have hown : s.vm.findClass "java/lang/StringLatin1" = some m.cls := findClass_of_methodNamed Bd.named
  have hnm := (name_of_methodNamed Bd.named Bd.method).1
  have X0 : Stand p l e ({ frames := 2, cells := 0, slots := 0, locals := 27 } : Room) s m #[(.ref b), (.int j)] below meth c_ s₁ [] 0 0 := Stand.of_body Bd
  have e0 : s₁.heap = h0 := by rw [← hh, Bd.state]; rfl
  have N0 := Fr.nil n0
  have w7_ := hw _ (List.mem_of_getElem? (i := 7) rfl)
  have w95_ := hw _ (List.mem_of_getElem? (i := 95) rfl)
  have w96_ := hw _ (List.mem_of_getElem? (i := 96) rfl)
  have w97_ := hw _ (List.mem_of_getElem? (i := 97) rfl)
  show Go p e below (RetG s (Q_lchar_1 Z b kb bs j bv fz h0 n0) 0 0) (s₁.setTop (entryFrame m #[(.ref b), (.int j)] 2))
  rw [show entryFrame m #[(.ref b), (.int j)] 2 = mkF m 0 #[.val (.ref b), .val (.int j)] [] from by first | (simp [entryFrame, mkF, argsToLocals, Value.category]; done) | rfl]
  refine g_iloadN X0 hx hby d18_0 rfl ?_
  refine g_aloadN X0 hx hby d18_1 rfl rfl ?_
  refine g_arraylength X0 hx hby hZ e0 VB d18_2 ?_
  refine g_static X0 hx hby hZ hown (rm_schk l Z a0 hw [] j (1 : Int32) fz h0 n0 Z0 hj rfz O4 OLD) w95_ w96_ w7_ w97_ (by decide) e0 (by rw [hml]; rfl) [(.int j), (.int (1 : Int32))] (lenOf own_pd11 rfl) rfl rfl (Nat.le_of_ble_eq_true rfl) (Nat.le_of_ble_eq_true rfl) (Nat.le_of_ble_eq_true rfl) (Nat.le_of_ble_eq_true rfl) d18_3 (fun v1 T1 L1 X1 hQ1 => ?_)
  obtain ⟨rfl, N1q, eh1⟩ := hQ1
  have N1 := Fr.app N0 N1q
  refine g_aloadN X1 hx hby d18_6 rfl rfl ?_
  refine g_iloadN X1 hx hby d18_7 rfl ?_
  refine g_baload X1 hx hby hZ eh1 VB (.int bv) hj hv d18_8 ?_
  refine g_sipush X1 hx hby (255 : Int32) d18_9 rfl ?_
  refine g_iand X1 hx hby d18_12 ?_
  refine g_i2c X1 hx hby d18_13 ?_
  refine g_nret X1 hx hby (t := .char) (by simp) Bd.returns Bd.notSynchronized d18_14 eh1 (by decide) (by decide) ?_
  show (Q_lchar_1 Z b kb bs j bv fz h0 n0) (some (.int (nar .char ((bv &&& (255 : Int32)).toUInt32.toUInt16.toUInt32.toInt32)))) _ _
  exact ⟨rfl, N1, rfl⟩

theorem d16_0 : decode jdk_42_method_56_code 0 = .ok (.aload_n 0, 1) := by decide +kernel
theorem d16_1 : decode jdk_42_method_56_code 1 = .ok (.invokevirtual 492, 3) := by decide +kernel
theorem d16_4 : decode jdk_42_method_56_code 4 = .ok (.ifCond .eq 12, 3) := by decide +kernel
theorem d16_7 : decode jdk_42_method_56_code 7 = .ok (.aload_n 0, 1) := by decide +kernel
theorem d16_8 : decode jdk_42_method_56_code 8 = .ok (.getfield 9, 3) := by decide +kernel
theorem d16_11 : decode jdk_42_method_56_code 11 = .ok (.iload_n 1, 1) := by decide +kernel
theorem d16_12 : decode jdk_42_method_56_code 12 = .ok (.invokestatic 495, 3) := by decide +kernel
theorem own_pd12 : parseMethodDescriptor "([BI)C" = some ⟨[(.array .byte), .int], some .char⟩ := by decide +kernel
theorem d16_15 : decode jdk_42_method_56_code 15 = .ok (.ireturn, 1) := by decide +kernel
def Q_schar_1 (Z : State) (a : Addr) (b : Addr) (kb : ClassId) (bs : List Value) (j : Int32) (bv : Int32) (fz : Value) (cz : Int32) (h0 : Heap) (n0 : Nat) (v : Option Value) (h : Heap) (L : List Loc) : Prop := v = some (.int (nar .char (nar .char ((bv &&& (255 : Int32)).toUInt32.toUInt16.toUInt32.toInt32)))) ∧ Fr n0 L ∧ h = h0
set_option maxRecDepth 65536 in
set_option maxHeartbeats 40000000 in
theorem rm_schar_1 (l : Launch) (Z : State) (a0 : Array Value) (hw : ∀ d ∈ tables_1, d.before a0 Z = true) (ws : List Jvm.Cond) (a : Addr) (b : Addr) (kb : ClassId) (bs : List Value) (j : Int32) (bv : Int32) (fz : Value) (cz : Int32) (h0 : Heap) (n0 : Nat) (Z0 : n0 ≤ h0.size) (O2 : Sta Z Z.heap "java/lang/String" "COMPACT_STRINGS" "Z" (.int cz)) (P5 : ¬ cz = (0 : Int32)) (OLD : Old Z n0 h0) (E : Exa Z h0 a "java/lang/String") (C : Fld Z h0 a "java/lang/String" "coder" "B" (.int (0 : Int32))) (VF : Fld Z h0 a "java/lang/String" "value" "[B" (.ref b)) (VB : Arv Z h0 b kb .byte (1 : Int32) bs (.int (0 : Int32))) (hj : ¬ j < 0 ∧ j < (1 : Int32)) (hv : bs.getD j.toNatClampNeg (.int (0 : Int32)) = .int bv) (rfz : Rf fz) (O4 : Sta Z Z.heap "jdk/internal/util/Preconditions" "SIOOBE_FORMATTER" "Ljava/util/function/BiFunction;" fz) :
    MetFree l (⟨"java/lang/String", "charAt", "(I)C"⟩ : MethodName) (head1 (Jvm.Cond.code (⟨"java/lang/String", "charAt", "(I)C"⟩ : MethodName) jdk_42_method_56_code 2 (some .char) :: ws) ({ frames := 3, cells := 0, slots := 0, locals := 40 } : Room)) (fun aa_ U => aa_ = #[(.ref a), (.int j)] ∧ Z.Warmed39 U.vm ∧ U.heap = h0) (fun _ _ _ _ _ => True) (fun _ U o_ U' => RetG U (Q_schar_1 Z a b kb bs j bv fz cz h0 n0) 0 0 U' o_) := by
  refine MetFree.of_bodySF (plainFor_of_name own_pn0) hisR ?_
  intro p e s m args below meth c_ s₁ Bd hml0 hP hK
  obtain ⟨rfl, hZ, hh⟩ := hP
  have hx := Bd.exec
  have hby := Bd.bytes
  have hml : c_.maxLocals = 2 := hml0
  have hown : s.vm.findClass "java/lang/String" = some m.cls := findClass_of_methodNamed Bd.named
  have hnm := (name_of_methodNamed Bd.named Bd.method).1
  have X0 : Stand p l e ({ frames := 3, cells := 0, slots := 0, locals := 40 } : Room) s m #[(.ref a), (.int j)] below meth c_ s₁ [] 0 0 := Stand.of_body Bd
  have e0 : s₁.heap = h0 := by rw [← hh, Bd.state]; rfl
  have N0 := Fr.nil n0
  have w7_ := hw _ (List.mem_of_getElem? (i := 7) rfl)
  have w24_ := hw _ (List.mem_of_getElem? (i := 24) rfl)
  have w86_ := hw _ (List.mem_of_getElem? (i := 86) rfl)
  have w87_ := hw _ (List.mem_of_getElem? (i := 87) rfl)
  have w88_ := hw _ (List.mem_of_getElem? (i := 88) rfl)
  have w89_ := hw _ (List.mem_of_getElem? (i := 89) rfl)
  have w90_ := hw _ (List.mem_of_getElem? (i := 90) rfl)
  have w91_ := hw _ (List.mem_of_getElem? (i := 91) rfl)
  have w92_ := hw _ (List.mem_of_getElem? (i := 92) rfl)
  have w93_ := hw _ (List.mem_of_getElem? (i := 93) rfl)
  have w94_ := hw _ (List.mem_of_getElem? (i := 94) rfl)
  show Go p e below (RetG s (Q_schar_1 Z a b kb bs j bv fz cz h0 n0) 0 0) (s₁.setTop (entryFrame m #[(.ref a), (.int j)] 2))
  rw [show entryFrame m #[(.ref a), (.int j)] 2 = mkF m 0 #[.val (.ref a), .val (.int j)] [] from by first | (simp [entryFrame, mkF, argsToLocals, Value.category]; done) | rfl]
  refine g_aloadN X0 hx hby d16_0 rfl rfl ?_
  refine g_virtual X0 hx hby hZ hown (rm_islat l Z a0 hw [] a cz h0 n0 Z0 O2 P5 OLD C) w86_ w87_ (notFace_of_selects (args := #[]) (mvT hZ w89_)) w89_ w88_ w7_ w90_ (by decide) e0 E (by rw [hml]; rfl) [] (lenOf own_pd7 rfl) rfl rfl (Nat.le_of_ble_eq_true rfl) (Nat.le_of_ble_eq_true rfl) (Nat.le_of_ble_eq_true rfl) (Nat.le_of_ble_eq_true rfl) d16_1 (fun v1 T1 L1 X1 hQ1 => ?_)
  obtain ⟨rfl, N1q, eh1⟩ := hQ1
  have N1 := Fr.app N0 N1q
  refine g_ifN X1 hx hby d16_4 (feq (by decide : ¬ ((1 : Int32) = (0 : Int32)))).1 ?_
  refine g_aloadN X1 hx hby d16_7 rfl rfl ?_
  refine g_getF X1 hx hby hZ hown (host := "") (Or.inl w24_) Via.refl eh1 VF d16_8 (fun T2 X2 e2 => ?_)
  refine g_iloadN X2 hx hby d16_11 rfl ?_
  refine g_static X2 hx hby hZ hown (rm_lchar_1 l Z a0 hw [] b kb bs j bv fz h0 n0 Z0 VB hj hv rfz O4 OLD) w91_ w92_ w93_ w94_ (by decide) e2 (by rw [hml]; rfl) [(.ref b), (.int j)] (lenOf own_pd12 rfl) rfl rfl (Nat.le_of_ble_eq_true rfl) (Nat.le_of_ble_eq_true rfl) (Nat.le_of_ble_eq_true rfl) (Nat.le_of_ble_eq_true rfl) d16_12 (fun v3 T3 L3 X3 hQ3 => ?_)
  obtain ⟨rfl, N3q, eh3⟩ := hQ3
  have N3 := Fr.app N1 N3q
  refine g_nret X3 hx hby (t := .char) (by simp) Bd.returns Bd.notSynchronized d16_15 eh3 (by decide) (by decide) ?_
  show (Q_schar_1 Z a b kb bs j bv fz cz h0 n0) (some (.int (nar .char (nar .char ((bv &&& (255 : Int32)).toUInt32.toUInt16.toUInt32.toInt32))))) _ _
  exact ⟨rfl, N3, rfl⟩

theorem d11_7 : decode prog_35_method_4_code 7 = .ok (.aload_n 0, 1) := by decide +kernel
theorem d11_8 : decode prog_35_method_4_code 8 = .ok (.getfield 7, 3) := by decide +kernel
theorem d11_11 : decode prog_35_method_4_code 11 = .ok (.aload_n 0, 1) := by decide +kernel
theorem d11_12 : decode prog_35_method_4_code 12 = .ok (.getfield 13, 3) := by decide +kernel
theorem d11_15 : decode prog_35_method_4_code 15 = .ok (.invokevirtual 27, 3) := by decide +kernel
theorem own_pd13 : parseMethodDescriptor "(I)C" = some ⟨[.int], some .char⟩ := by decide +kernel
theorem d11_18 : decode prog_35_method_4_code 18 = .ok (.iload_n 1, 1) := by decide +kernel
theorem d11_19 : decode prog_35_method_4_code 19 = .ok (.if_icmp .ne 7, 3) := by decide +kernel
theorem d11_22 : decode prog_35_method_4_code 22 = .ok (.iconst 1, 1) := by decide +kernel
theorem d11_23 : decode prog_35_method_4_code 23 = .ok (.goto 4, 3) := by decide +kernel
def Q_rdat_1_0 (Z : State) (r : Addr) (a : Addr) (b : Addr) (kb : ClassId) (bs : List Value) (cz : Int32) (c : Int32) (bv : Int32) (fz : Value) (h0 : Heap) (n0 : Nat) (v : Option Value) (h : Heap) (L : List Loc) : Prop := v = some (.int (1 : Int32)) ∧ Fr n0 L ∧ h = h0
set_option maxRecDepth 65536 in
set_option maxHeartbeats 40000000 in
theorem rm_rdat_1_0 (l : Launch) (Z : State) (a0 : Array Value) (hw : ∀ d ∈ tables_1, d.before a0 Z = true) (ws : List Jvm.Cond) (r : Addr) (a : Addr) (b : Addr) (kb : ClassId) (bs : List Value) (cz : Int32) (c : Int32) (bv : Int32) (fz : Value) (h0 : Heap) (n0 : Nat) (Z0 : n0 ≤ h0.size) (O2 : Sta Z Z.heap "java/lang/String" "COMPACT_STRINGS" "Z" (.int cz)) (P5 : ¬ cz = (0 : Int32)) (OLD : Old Z n0 h0) (E : Exa Z h0 a "java/lang/String") (C : Fld Z h0 a "java/lang/String" "coder" "B" (.int (0 : Int32))) (VF : Fld Z h0 a "java/lang/String" "value" "[B" (.ref b)) (VB : Arv Z h0 b kb .byte (1 : Int32) bs (.int (0 : Int32))) (rE : Exa Z h0 r "com/example/pathloom/pathloom/web/MediaType$Reader") (rT : Fld Z h0 r "com/example/pathloom/pathloom/web/MediaType$Reader" "text" "Ljava/lang/String;" (.ref a)) (rP : Fld Z h0 r "com/example/pathloom/pathloom/web/MediaType$Reader" "position" "I" (.int (0 : Int32))) (hv : bs.getD 0 (.int (0 : Int32)) = .int bv) (hcb : nar .char (nar .char ((bv &&& (255 : Int32)).toUInt32.toUInt16.toUInt32.toInt32)) = c) (rfz : Rf fz) (O4 : Sta Z Z.heap "jdk/internal/util/Preconditions" "SIOOBE_FORMATTER" "Ljava/util/function/BiFunction;" fz) :
    MetFree l (⟨"com/example/pathloom/pathloom/web/MediaType$Reader", "at", "(C)Z"⟩ : MethodName) (head1 (Jvm.Cond.code (⟨"com/example/pathloom/pathloom/web/MediaType$Reader", "at", "(C)Z"⟩ : MethodName) prog_35_method_4_code 2 (some .boolean) :: ws) ({ frames := 4, cells := 0, slots := 0, locals := 53 } : Room)) (fun aa_ U => aa_ = #[(.ref r), (.int c)] ∧ Z.Warmed39 U.vm ∧ U.heap = h0) (fun _ _ _ _ _ => True) (fun _ U o_ U' => RetG U (Q_rdat_1_0 Z r a b kb bs cz c bv fz h0 n0) 0 0 U' o_) := by
  refine MetFree.of_bodySF (plainFor_of_name own_pn3) hisR ?_
  intro p e s m args below meth c_ s₁ Bd hml0 hP hK
  obtain ⟨rfl, hZ, hh⟩ := hP
  have hx := Bd.exec
  have hby := Bd.bytes
  have hml : c_.maxLocals = 2 := hml0
  have hown : s.vm.findClass "com/example/pathloom/pathloom/web/MediaType$Reader" = some m.cls := findClass_of_methodNamed Bd.named
  have hnm := (name_of_methodNamed Bd.named Bd.method).1
  have X0 : Stand p l e ({ frames := 4, cells := 0, slots := 0, locals := 53 } : Room) s m #[(.ref r), (.int c)] below meth c_ s₁ [] 0 0 := Stand.of_body Bd
  have e0 : s₁.heap = h0 := by rw [← hh, Bd.state]; rfl
  have N0 := Fr.nil n0
  have w7_ := hw _ (List.mem_of_getElem? (i := 7) rfl)
  have w28_ := hw _ (List.mem_of_getElem? (i := 28) rfl)
  have w33_ := hw _ (List.mem_of_getElem? (i := 33) rfl)
  have w36_ := hw _ (List.mem_of_getElem? (i := 36) rfl)
  have w37_ := hw _ (List.mem_of_getElem? (i := 37) rfl)
  have w38_ := hw _ (List.mem_of_getElem? (i := 38) rfl)
  have w39_ := hw _ (List.mem_of_getElem? (i := 39) rfl)
  have w40_ := hw _ (List.mem_of_getElem? (i := 40) rfl)
  have w66_ := hw _ (List.mem_of_getElem? (i := 66) rfl)
  have w81_ := hw _ (List.mem_of_getElem? (i := 81) rfl)
  have w82_ := hw _ (List.mem_of_getElem? (i := 82) rfl)
  have w83_ := hw _ (List.mem_of_getElem? (i := 83) rfl)
  have w84_ := hw _ (List.mem_of_getElem? (i := 84) rfl)
  have w85_ := hw _ (List.mem_of_getElem? (i := 85) rfl)
  show Go p e below (RetG s (Q_rdat_1_0 Z r a b kb bs cz c bv fz h0 n0) 0 0) (s₁.setTop (entryFrame m #[(.ref r), (.int c)] 2))
  rw [show entryFrame m #[(.ref r), (.int c)] 2 = mkF m 0 #[.val (.ref r), .val (.int c)] [] from by first | (simp [entryFrame, mkF, argsToLocals, Value.category]; done) | rfl]
  refine g_aloadN X0 hx hby d11_0 rfl rfl ?_
  refine g_virtual X0 hx hby hZ hown (rm_rdend_1_0 l Z a0 hw [] r a b kb bs cz h0 n0 Z0 O2 P5 OLD E C VF VB rE rT rP) w66_ w36_ (notFace_of_selects (args := #[]) (mvT hZ w38_)) w38_ w37_ w28_ w39_ (by decide) e0 rE (by rw [hml]; rfl) [] (lenOf own_pd7 rfl) rfl rfl (Nat.le_of_ble_eq_true rfl) (Nat.le_of_ble_eq_true rfl) (Nat.le_of_ble_eq_true rfl) (Nat.le_of_ble_eq_true rfl) d11_1 (fun v1 T1 L1 X1 hQ1 => ?_)
  obtain ⟨rfl, N1q, eh1⟩ := hQ1
  have N1 := Fr.app N0 N1q
  refine g_ifN X1 hx hby d11_4 (teq (by decide : (0 : Int32) = (0 : Int32))).2 ?_
  refine g_aloadN X1 hx hby d11_7 rfl rfl ?_
  refine g_getF X1 hx hby hZ hown (host := "") (Or.inl w33_) Via.refl eh1 rT d11_8 (fun T2 X2 e2 => ?_)
  refine g_aloadN X2 hx hby d11_11 rfl rfl ?_
  refine g_getF X2 hx hby hZ hown (host := "") (Or.inl w40_) Via.refl e2 rP d11_12 (fun T3 X3 e3 => ?_)
  refine g_virtual X3 hx hby hZ hown (rm_schar_1 l Z a0 hw [] a b kb bs (0 : Int32) bv fz cz h0 n0 Z0 O2 P5 OLD E C VF VB ⟨by decide, by decide⟩ hv rfz O4) w81_ w82_ (notFace_of_selects (args := #[]) (mvT hZ w84_)) w84_ w83_ w7_ w85_ (by decide) e3 E (by rw [hml]; rfl) [(.int (0 : Int32))] (lenOf own_pd13 rfl) rfl rfl (Nat.le_of_ble_eq_true rfl) (Nat.le_of_ble_eq_true rfl) (Nat.le_of_ble_eq_true rfl) (Nat.le_of_ble_eq_true rfl) d11_15 (fun v4 T4 L4 X4 hQ4 => ?_)
  obtain ⟨rfl, N4q, eh4⟩ := hQ4
  have N4 := Fr.app N1 N4q
  refine g_topI (T := T4) c hcb ?_
  refine g_iloadN X4 hx hby d11_18 rfl ?_
  refine g_icN X4 hx hby d11_19 (teq (rfl : c = c)).2 ?_
  refine g_iconst X4 hx hby (1 : Int32) d11_22 rfl ?_
  refine g_goto X4 hx hby 27 d11_23 (by decide) (by decide) ?_
  refine g_nret X4 hx hby (t := .boolean) (by simp) Bd.returns Bd.notSynchronized d11_27 eh4 (by decide) (by decide) ?_
  show (Q_rdat_1_0 Z r a b kb bs cz c bv fz h0 n0) (some (.int (1 : Int32))) _ _
  exact ⟨rfl, N4, rfl⟩

theorem d10_10 : decode prog_35_method_5_code 10 = .ok (.aload_n 0, 1) := by decide +kernel
theorem d10_11 : decode prog_35_method_5_code 11 = .ok (.dup, 1) := by decide +kernel
theorem d10_12 : decode prog_35_method_5_code 12 = .ok (.getfield 13, 3) := by decide +kernel
theorem d10_15 : decode prog_35_method_5_code 15 = .ok (.iconst 1, 1) := by decide +kernel
theorem d10_16 : decode prog_35_method_5_code 16 = .ok (.iadd, 1) := by decide +kernel
theorem d10_17 : decode prog_35_method_5_code 17 = .ok (.putfield 13, 3) := by decide +kernel
def Q_rdtake_1_0 (Z : State) (r : Addr) (a : Addr) (b : Addr) (kb : ClassId) (bs : List Value) (cz : Int32) (c : Int32) (bv : Int32) (fz : Value) (h0 : Heap) (n0 : Nat) (v : Option Value) (h : Heap) (L : List Loc) : Prop := v = some (.int (1 : Int32)) ∧ Fr n0 L ∧ Keep h0 h [r] ∧ Exa Z h r "com/example/pathloom/pathloom/web/MediaType$Reader" ∧ Fld Z h r "com/example/pathloom/pathloom/web/MediaType$Reader" "text" "Ljava/lang/String;" (.ref a) ∧ Fld Z h r "com/example/pathloom/pathloom/web/MediaType$Reader" "position" "I" (.int (1 : Int32))
set_option maxRecDepth 65536 in
set_option maxHeartbeats 40000000 in
theorem rm_rdtake_1_0 (l : Launch) (Z : State) (a0 : Array Value) (hw : ∀ d ∈ tables_1, d.before a0 Z = true) (ws : List Jvm.Cond) (r : Addr) (a : Addr) (b : Addr) (kb : ClassId) (bs : List Value) (cz : Int32) (c : Int32) (bv : Int32) (fz : Value) (h0 : Heap) (n0 : Nat) (Z0 : n0 ≤ h0.size) (O2 : Sta Z Z.heap "java/lang/String" "COMPACT_STRINGS" "Z" (.int cz)) (P5 : ¬ cz = (0 : Int32)) (OLD : Old Z n0 h0) (E : Exa Z h0 a "java/lang/String") (C : Fld Z h0 a "java/lang/String" "coder" "B" (.int (0 : Int32))) (VF : Fld Z h0 a "java/lang/String" "value" "[B" (.ref b)) (VB : Arv Z h0 b kb .byte (1 : Int32) bs (.int (0 : Int32))) (rE : Exa Z h0 r "com/example/pathloom/pathloom/web/MediaType$Reader") (rT : Fld Z h0 r "com/example/pathloom/pathloom/web/MediaType$Reader" "text" "Ljava/lang/String;" (.ref a)) (rP : Fld Z h0 r "com/example/pathloom/pathloom/web/MediaType$Reader" "position" "I" (.int (0 : Int32))) (hv : bs.getD 0 (.int (0 : Int32)) = .int bv) (hcb : nar .char (nar .char ((bv &&& (255 : Int32)).toUInt32.toUInt16.toUInt32.toInt32)) = c) (rfz : Rf fz) (O4 : Sta Z Z.heap "jdk/internal/util/Preconditions" "SIOOBE_FORMATTER" "Ljava/util/function/BiFunction;" fz) (gr : n0 ≤ r) (nra : r ≠ a) (nrb : r ≠ b) :
    MetFree l (⟨"com/example/pathloom/pathloom/web/MediaType$Reader", "take", "(C)Z"⟩ : MethodName) (head1 (Jvm.Cond.code (⟨"com/example/pathloom/pathloom/web/MediaType$Reader", "take", "(C)Z"⟩ : MethodName) prog_35_method_5_code 3 (some .boolean) :: ws) ({ frames := 5, cells := 0, slots := 0, locals := 66 } : Room)) (fun aa_ U => aa_ = #[(.ref r), (.int c)] ∧ Z.Warmed39 U.vm ∧ U.heap = h0) (fun _ _ _ _ _ => True) (fun _ U o_ U' => RetG U (Q_rdtake_1_0 Z r a b kb bs cz c bv fz h0 n0) 0 0 U' o_) := by
  refine MetFree.of_bodySF (plainFor_of_name own_pn3) hisR ?_
  intro p e s m args below meth c_ s₁ Bd hml0 hP hK
  obtain ⟨rfl, hZ, hh⟩ := hP
  have hx := Bd.exec
  have hby := Bd.bytes
  have hml : c_.maxLocals = 3 := hml0
  have hown : s.vm.findClass "com/example/pathloom/pathloom/web/MediaType$Reader" = some m.cls := findClass_of_methodNamed Bd.named
  have hnm := (name_of_methodNamed Bd.named Bd.method).1
  have X0 : Stand p l e ({ frames := 5, cells := 0, slots := 0, locals := 66 } : Room) s m #[(.ref r), (.int c)] below meth c_ s₁ [] 0 0 := Stand.of_body Bd
  have e0 : s₁.heap = h0 := by rw [← hh, Bd.state]; rfl
  have N0 := Fr.nil n0
  have w27_ := hw _ (List.mem_of_getElem? (i := 27) rfl)
  have w28_ := hw _ (List.mem_of_getElem? (i := 28) rfl)
  have w34_ := hw _ (List.mem_of_getElem? (i := 34) rfl)
  have w40_ := hw _ (List.mem_of_getElem? (i := 40) rfl)
  have w41_ := hw _ (List.mem_of_getElem? (i := 41) rfl)
  have w61_ := hw _ (List.mem_of_getElem? (i := 61) rfl)
  have w62_ := hw _ (List.mem_of_getElem? (i := 62) rfl)
  have w63_ := hw _ (List.mem_of_getElem? (i := 63) rfl)
  have w64_ := hw _ (List.mem_of_getElem? (i := 64) rfl)
  have w65_ := hw _ (List.mem_of_getElem? (i := 65) rfl)
  show Go p e below (RetG s (Q_rdtake_1_0 Z r a b kb bs cz c bv fz h0 n0) 0 0) (s₁.setTop (entryFrame m #[(.ref r), (.int c)] 3))
  rw [show entryFrame m #[(.ref r), (.int c)] 3 = mkF m 0 #[.val (.ref r), .val (.int c), .unset] [] from by first | (simp [entryFrame, mkF, argsToLocals, Value.category]; done) | rfl]
  refine g_aloadN X0 hx hby d10_0 rfl rfl ?_
  refine g_iloadN X0 hx hby d10_1 rfl ?_
  refine g_virtual X0 hx hby hZ hown (rm_rdat_1_0 l Z a0 hw [] r a b kb bs cz c bv fz h0 n0 Z0 O2 P5 OLD E C VF VB rE rT rP hv hcb rfz O4) w61_ w62_ (notFace_of_selects (args := #[]) (mvT hZ w64_)) w64_ w63_ w28_ w65_ (by decide) e0 rE (by rw [hml]; rfl) [(.int c)] (lenOf own_pd8 rfl) rfl rfl (Nat.le_of_ble_eq_true rfl) (Nat.le_of_ble_eq_true rfl) (Nat.le_of_ble_eq_true rfl) (Nat.le_of_ble_eq_true rfl) d10_2 (fun v1 T1 L1 X1 hQ1 => ?_)
  obtain ⟨rfl, N1q, eh1⟩ := hQ1
  have N1 := Fr.app N0 N1q
  refine g_istoreN X1 hx hby d10_5 (l' := #[.val (.ref r), .val (.int c), .val (.int (1 : Int32))]) rfl ?_
  refine g_iloadN X1 hx hby d10_6 rfl ?_
  refine g_ifN X1 hx hby d10_7 (feq (by decide : ¬ ((1 : Int32) = (0 : Int32)))).1 ?_
  refine g_aloadN X1 hx hby d10_10 rfl rfl ?_
  refine g_dup X1 hx hby d10_11 rfl ?_
  refine g_getF X1 hx hby hZ hown (host := "") (Or.inl w40_) Via.refl eh1 rP d10_12 (fun T2 X2 e2 => ?_)
  refine g_iconst X2 hx hby (1 : Int32) d10_15 rfl ?_
  refine g_iadd X2 hx hby d10_16 ?_
  refine g_topI (1 : Int32) (by decide) ?_
  refine g_putF X2 hx hby hZ hown (host := "") (Or.inl w40_) Via.refl e2 rP rE (Or.inl w41_) w27_ .int (by decide) rfl rfl N1 gr d10_17 (fun T3 h3 X3 e3 W3 F3 N3 => ?_)
  refine g_iloadN X3 hx hby d10_20 rfl ?_
  have f4 := (rE.wr W3)
  have f5 := (rT.other W3 (Or.inr (slot_ne (Or.inr w34_) (Or.inl w41_) (by decide) (t := (.object "java/lang/String")) (t' := .int) (by decide) (by decide))))
  refine g_nret X3 hx hby (t := .boolean) (by simp) Bd.returns Bd.notSynchronized d10_21 e3 (by decide) (by decide) ?_
  show (Q_rdtake_1_0 Z r a b kb bs cz c bv fz h0 n0) (some (.int (1 : Int32))) _ _
  exact ⟨rfl, N3, ((Keep.refl h0 [r]).wr W3 (Or.inl (List.mem_of_getElem? (i := 0) rfl))), f4, f5, F3⟩

theorem d9_25 : decode method_4_code 25 = .ok (.iconst 1, 1) := by decide +kernel
theorem d9_26 : decode method_4_code 26 = .ok (.goto 4, 3) := by decide +kernel
def Q_rdend_1_1 (Z : State) (r : Addr) (a : Addr) (b : Addr) (kb : ClassId) (bs : List Value) (cz : Int32) (h0 : Heap) (n0 : Nat) (v : Option Value) (h : Heap) (L : List Loc) : Prop := v = some (.int (1 : Int32)) ∧ Fr n0 L ∧ h = h0
set_option maxRecDepth 65536 in
set_option maxHeartbeats 40000000 in
theorem rm_rdend_1_1 (l : Launch) (Z : State) (a0 : Array Value) (hw : ∀ d ∈ tables_1, d.before a0 Z = true) (ws : List Jvm.Cond) (r : Addr) (a : Addr) (b : Addr) (kb : ClassId) (bs : List Value) (cz : Int32) (h0 : Heap) (n0 : Nat) (Z0 : n0 ≤ h0.size) (O2 : Sta Z Z.heap "java/lang/String" "COMPACT_STRINGS" "Z" (.int cz)) (P5 : ¬ cz = (0 : Int32)) (OLD : Old Z n0 h0) (E : Exa Z h0 a "java/lang/String") (C : Fld Z h0 a "java/lang/String" "coder" "B" (.int (0 : Int32))) (VF : Fld Z h0 a "java/lang/String" "value" "[B" (.ref b)) (VB : Arv Z h0 b kb .byte (1 : Int32) bs (.int (0 : Int32))) (rE : Exa Z h0 r "com/example/pathloom/pathloom/web/MediaType$Reader") (rT : Fld Z h0 r "com/example/pathloom/pathloom/web/MediaType$Reader" "text" "Ljava/lang/String;" (.ref a)) (rP : Fld Z h0 r "com/example/pathloom/pathloom/web/MediaType$Reader" "position" "I" (.int (1 : Int32))) :
    MetFree l (⟨"com/example/pathloom/pathloom/web/MediaType$Reader", "atEnd", "()Z"⟩ : MethodName) (head1 (Jvm.Cond.code (⟨"com/example/pathloom/pathloom/web/MediaType$Reader", "atEnd", "()Z"⟩ : MethodName) prog_35_method_2_code 1 (some .boolean) :: ws) ({ frames := 2, cells := 0, slots := 0, locals := 26 } : Room)) (fun aa_ U => aa_ = #[(.ref r)] ∧ Z.Warmed39 U.vm ∧ U.heap = h0) (fun _ _ _ _ _ => True) (fun _ U o_ U' => RetG U (Q_rdend_1_1 Z r a b kb bs cz h0 n0) 0 0 U' o_) := by
  refine MetFree.of_bodySF (plainFor_of_name own_pn3) hisR ?_
  intro p e s m args below meth c_ s₁ Bd hml0 hP hK
  obtain ⟨rfl, hZ, hh⟩ := hP
  have hx := Bd.exec
  have hby := Bd.bytes
  have hml : c_.maxLocals = 1 := hml0
  have hown : s.vm.findClass "com/example/pathloom/pathloom/web/MediaType$Reader" = some m.cls := findClass_of_methodNamed Bd.named
  have hnm := (name_of_methodNamed Bd.named Bd.method).1
  have X0 : Stand p l e ({ frames := 2, cells := 0, slots := 0, locals := 26 } : Room) s m #[(.ref r)] below meth c_ s₁ [] 0 0 := Stand.of_body Bd
  have e0 : s₁.heap = h0 := by rw [← hh, Bd.state]; rfl
  have N0 := Fr.nil n0
  have w7_ := hw _ (List.mem_of_getElem? (i := 7) rfl)
  have w33_ := hw _ (List.mem_of_getElem? (i := 33) rfl)
  have w40_ := hw _ (List.mem_of_getElem? (i := 40) rfl)
  have w42_ := hw _ (List.mem_of_getElem? (i := 42) rfl)
  have w43_ := hw _ (List.mem_of_getElem? (i := 43) rfl)
  have w44_ := hw _ (List.mem_of_getElem? (i := 44) rfl)
  have w45_ := hw _ (List.mem_of_getElem? (i := 45) rfl)
  have w46_ := hw _ (List.mem_of_getElem? (i := 46) rfl)
  show Go p e below (RetG s (Q_rdend_1_1 Z r a b kb bs cz h0 n0) 0 0) (s₁.setTop (entryFrame m #[(.ref r)] 1))
  rw [show entryFrame m #[(.ref r)] 1 = mkF m 0 #[.val (.ref r)] [] from by first | (simp [entryFrame, mkF, argsToLocals, Value.category]; done) | rfl]
  refine g_aloadN X0 hx hby d6_0 rfl rfl ?_
  refine g_getF X0 hx hby hZ hown (host := "") (Or.inl w40_) Via.refl e0 rP d6_1 (fun T1 X1 e1 => ?_)
  refine g_aloadN X1 hx hby d6_4 rfl rfl ?_
  refine g_getF X1 hx hby hZ hown (host := "") (Or.inl w33_) Via.refl e1 rT d6_5 (fun T2 X2 e2 => ?_)
  refine g_virtual X2 hx hby hZ hown (rm_slen_1 l Z a0 hw [] a b kb bs cz h0 n0 Z0 O2 P5 OLD E C VF VB) w42_ w43_ (notFace_of_selects (args := #[]) (mvT hZ w45_)) w45_ w44_ w7_ w46_ (by decide) e2 E (by rw [hml]; rfl) [] (lenOf own_pd6 rfl) rfl rfl (Nat.le_of_ble_eq_true rfl) (Nat.le_of_ble_eq_true rfl) (Nat.le_of_ble_eq_true rfl) (Nat.le_of_ble_eq_true rfl) d6_8 (fun v3 T3 L3 X3 hQ3 => ?_)
  obtain ⟨rfl, N3q, eh3⟩ := hQ3
  have N3 := Fr.app N0 N3q
  refine g_icN X3 hx hby d6_11 (teq (by decide : (1 : Int32) = (1 : Int32))).2 ?_
  refine g_iconst X3 hx hby (1 : Int32) d6_14 rfl ?_
  refine g_goto X3 hx hby 19 d6_15 (by decide) (by decide) ?_
  refine g_nret X3 hx hby (t := .boolean) (by simp) Bd.returns Bd.notSynchronized d6_19 eh3 (by decide) (by decide) ?_
  show (Q_rdend_1_1 Z r a b kb bs cz h0 n0) (some (.int (1 : Int32))) _ _
  exact ⟨rfl, N3, rfl⟩

def Q_step10 (Z : State) (r : Addr) (a : Addr) (b : Addr) (kb : ClassId) (cz : Int32) (al : Addr) (ka : ClassId) (c0 : Int32) (c1 : Int32) (c2 : Int32) (fz : Value) (h0 : Heap) (n0 : Nat) (v : Option Value) (h : Heap) (L : List Loc) : Prop := v = some (.int (1 : Int32)) ∧ Fr n0 L ∧ Keep h0 h [r] ∧ Exa Z h r "com/example/pathloom/pathloom/web/MediaType$Reader" ∧ Fld Z h r "com/example/pathloom/pathloom/web/MediaType$Reader" "text" "Ljava/lang/String;" (.ref a) ∧ Fld Z h r "com/example/pathloom/pathloom/web/MediaType$Reader" "position" "I" (.int (1 : Int32))
set_option maxRecDepth 65536 in
set_option maxHeartbeats 40000000 in
theorem rm_step10 (l : Launch) (Z : State) (a0 : Array Value) (hw : ∀ d ∈ tables_1, d.before a0 Z = true) (ws : List Jvm.Cond) (r : Addr) (a : Addr) (b : Addr) (kb : ClassId) (cz : Int32) (al : Addr) (ka : ClassId) (c0 : Int32) (c1 : Int32) (c2 : Int32) (fz : Value) (h0 : Heap) (n0 : Nat) (Z0 : n0 ≤ h0.size) (O2 : Sta Z Z.heap "java/lang/String" "COMPACT_STRINGS" "Z" (.int cz)) (P5 : ¬ cz = (0 : Int32)) (OLD : Old Z n0 h0) (E : Exa Z h0 a "java/lang/String") (C : Fld Z h0 a "java/lang/String" "coder" "B" (.int (0 : Int32))) (VF : Fld Z h0 a "java/lang/String" "value" "[B" (.ref b)) (VB : Arv Z h0 b kb .byte (1 : Int32) [(.int (nar .byte ((nar .char c0).toInt8.toInt32)))] (.int (0 : Int32))) (rE : Exa Z h0 r "com/example/pathloom/pathloom/web/MediaType$Reader") (rT : Fld Z h0 r "com/example/pathloom/pathloom/web/MediaType$Reader" "text" "Ljava/lang/String;" (.ref a)) (rP : Fld Z h0 r "com/example/pathloom/pathloom/web/MediaType$Reader" "position" "I" (.int (0 : Int32))) (VA : Arv Z h0 al ka .char (3 : Int32) [(.int c0), (.int c1), (.int c2)] (.int (0 : Int32))) (hc0 : 0 ≤ c0.toInt ∧ c0.toInt ≤ 255) (hc1 : 0 ≤ c1.toInt ∧ c1.toInt ≤ 255) (hc2 : 0 ≤ c2.toInt ∧ c2.toInt ≤ 255) (rfz : Rf fz) (O4 : Sta Z Z.heap "jdk/internal/util/Preconditions" "SIOOBE_FORMATTER" "Ljava/util/function/BiFunction;" fz) (gr : n0 ≤ r) (nra : r ≠ a) (nrb : r ≠ b) :
    MetFree l (⟨"com/example/pathloom/pathloom/web/ReaderAtEndPinLaw", "step", "(Lcom/example/pathloom/pathloom/web/MediaType$Reader;II[C)Z"⟩ : MethodName) (head1 (Jvm.Cond.code (⟨"com/example/pathloom/pathloom/web/ReaderAtEndPinLaw", "step", "(Lcom/example/pathloom/pathloom/web/MediaType$Reader;II[C)Z"⟩ : MethodName) method_4_code 6 (some .boolean) :: ws) ({ frames := 6, cells := 0, slots := 0, locals := 80 } : Room)) (fun aa_ U => aa_ = #[(.ref r), (.int (0 : Int32)), (.int (1 : Int32)), (.ref al)] ∧ Z.Warmed39 U.vm ∧ U.heap = h0) (fun _ _ _ _ _ => True) (fun _ U o_ U' => RetG U (Q_step10 Z r a b kb cz al ka c0 c1 c2 fz h0 n0) 0 0 U' o_) := by
  refine MetFree.of_bodySF (plainFor_of_name own_pn1) hisR ?_
  intro p e s m args below meth c_ s₁ Bd hml0 hP hK
  obtain ⟨rfl, hZ, hh⟩ := hP
  have hx := Bd.exec
  have hby := Bd.bytes
  have hml : c_.maxLocals = 6 := hml0
  have hown : s.vm.findClass "com/example/pathloom/pathloom/web/ReaderAtEndPinLaw" = some m.cls := findClass_of_methodNamed Bd.named
  have hnm := (name_of_methodNamed Bd.named Bd.method).1
  have X0 : Stand p l e ({ frames := 6, cells := 0, slots := 0, locals := 80 } : Room) s m #[(.ref r), (.int (0 : Int32)), (.int (1 : Int32)), (.ref al)] below meth c_ s₁ [] 0 0 := Stand.of_body Bd
  have e0 : s₁.heap = h0 := by rw [← hh, Bd.state]; rfl
  have N0 := Fr.nil n0
  have w28_ := hw _ (List.mem_of_getElem? (i := 28) rfl)
  have w35_ := hw _ (List.mem_of_getElem? (i := 35) rfl)
  have w36_ := hw _ (List.mem_of_getElem? (i := 36) rfl)
  have w37_ := hw _ (List.mem_of_getElem? (i := 37) rfl)
  have w38_ := hw _ (List.mem_of_getElem? (i := 38) rfl)
  have w39_ := hw _ (List.mem_of_getElem? (i := 39) rfl)
  have w56_ := hw _ (List.mem_of_getElem? (i := 56) rfl)
  have w57_ := hw _ (List.mem_of_getElem? (i := 57) rfl)
  have w58_ := hw _ (List.mem_of_getElem? (i := 58) rfl)
  have w59_ := hw _ (List.mem_of_getElem? (i := 59) rfl)
  have w60_ := hw _ (List.mem_of_getElem? (i := 60) rfl)
  have w67_ := hw _ (List.mem_of_getElem? (i := 67) rfl)
  have w68_ := hw _ (List.mem_of_getElem? (i := 68) rfl)
  have w69_ := hw _ (List.mem_of_getElem? (i := 69) rfl)
  have w70_ := hw _ (List.mem_of_getElem? (i := 70) rfl)
  show Go p e below (RetG s (Q_step10 Z r a b kb cz al ka c0 c1 c2 fz h0 n0) 0 0) (s₁.setTop (entryFrame m #[(.ref r), (.int (0 : Int32)), (.int (1 : Int32)), (.ref al)] 6))
  rw [show entryFrame m #[(.ref r), (.int (0 : Int32)), (.int (1 : Int32)), (.ref al)] 6 = mkF m 0 #[.val (.ref r), .val (.int (0 : Int32)), .val (.int (1 : Int32)), .val (.ref al), .unset, .unset] [] from by first | (simp [entryFrame, mkF, argsToLocals, Value.category]; done) | rfl]
  refine g_aloadN X0 hx hby d9_0 rfl rfl ?_
  refine g_aloadN X0 hx hby d9_1 rfl rfl ?_
  refine g_iloadN X0 hx hby d9_2 rfl ?_
  refine g_caload X0 hx hby hZ e0 VA (.int c0) ⟨by decide, by decide⟩ rfl d9_3 ?_
  refine g_virtual X0 hx hby hZ hown (rm_rdtake_1_0 l Z a0 hw [] r a b kb [(.int (nar .byte ((nar .char c0).toInt8.toInt32)))] cz c0 (nar .byte ((nar .char c0).toInt8.toInt32)) fz h0 n0 Z0 O2 P5 OLD E C VF VB rE rT rP rfl (own_byte hc0) rfz O4 gr nra nrb) w56_ w57_ (notFace_of_selects (args := #[]) (mvT hZ w59_)) w59_ w58_ w28_ w60_ (by decide) e0 rE (by rw [hml]; rfl) [(.int c0)] (lenOf own_pd8 rfl) rfl rfl (Nat.le_of_ble_eq_true rfl) (Nat.le_of_ble_eq_true rfl) (Nat.le_of_ble_eq_true rfl) (Nat.le_of_ble_eq_true rfl) d9_4 (fun v1 T1 L1 X1 hQ1 => ?_)
  obtain ⟨rfl, N1q, K1, Er1, Tr1, Pr1⟩ := hQ1
  have N1 := Fr.app N0 N1q
  refine g_istore X1 hx hby d9_7 (l' := #[.val (.ref r), .val (.int (0 : Int32)), .val (.int (1 : Int32)), .val (.ref al), .val (.int (1 : Int32)), .unset]) rfl ?_
  refine g_iloadN X1 hx hby d9_9 rfl ?_
  refine g_iconst X1 hx hby (1 : Int32) d9_10 rfl ?_
  refine g_iadd X1 hx hby d9_11 ?_
  refine g_topI (1 : Int32) (by decide) ?_
  refine g_iloadN X1 hx hby d9_12 rfl ?_
  have z3 := (Nat.le_trans Z0 K1.1)
  refine g_static X1 hx hby hZ hown (rm_mmin l Z a0 hw [] (1 : Int32) (1 : Int32) T1.heap n0 z3 ) w67_ w68_ w69_ w70_ (by decide) rfl (by rw [hml]; rfl) [(.int (1 : Int32)), (.int (1 : Int32))] (lenOf own_pd9 rfl) rfl rfl (Nat.le_of_ble_eq_true rfl) (Nat.le_of_ble_eq_true rfl) (Nat.le_of_ble_eq_true rfl) (Nat.le_of_ble_eq_true rfl) d9_13 (fun v2 T2 L2 X2 hQ2 => ?_)
  obtain ⟨rfl, N2q, eh2⟩ := hQ2
  have N2 := Fr.app N1 N2q
  refine g_topI (T := T2) (1 : Int32) (by decide) ?_
  refine g_istore X2 hx hby d9_16 (l' := #[.val (.ref r), .val (.int (0 : Int32)), .val (.int (1 : Int32)), .val (.ref al), .val (.int (1 : Int32)), .val (.int (1 : Int32))]) rfl ?_
  refine g_iload X2 hx hby d9_18 rfl ?_
  refine g_iloadN X2 hx hby d9_20 rfl ?_
  refine g_iloadN X2 hx hby d9_21 rfl ?_
  refine g_at 22 rfl rfl rfl ?_
  refine g_icN X2 hx hby d9_22 (tlt (by decide : (0 : Int32) < (1 : Int32))).2.1 ?_
  refine g_iconst X2 hx hby (1 : Int32) d9_25 rfl ?_
  refine g_goto X2 hx hby 30 d9_26 (by decide) (by decide) ?_
  refine g_icN X2 hx hby d9_30 (teq (by decide : (1 : Int32) = (1 : Int32))).2 ?_
  refine g_aloadN X2 hx hby d9_33 rfl rfl ?_
  have f5 := (E.keep K1)
  have f6 := (C.keep K1 (ninS (Ne.symm nra) nin0))
  have f7 := (VF.keep K1 (ninS (Ne.symm nra) nin0))
  have f8 := (VB.keep K1 (ninS (Ne.symm nrb) nin0))
  have f9 := (OLD.keep K1 (allS gr all0))
  refine g_virtual X2 hx hby hZ hown (rm_rdend_1_1 l Z a0 hw [] r a b kb [(.int (nar .byte ((nar .char c0).toInt8.toInt32)))] cz T1.heap n0 z3 O2 P5 f9 f5 f6 f7 f8 Er1 Tr1 Pr1) w35_ w36_ (notFace_of_selects (args := #[]) (mvT hZ w38_)) w38_ w37_ w28_ w39_ (by decide) eh2 Er1 (by rw [hml]; rfl) [] (lenOf own_pd7 rfl) rfl rfl (Nat.le_of_ble_eq_true rfl) (Nat.le_of_ble_eq_true rfl) (Nat.le_of_ble_eq_true rfl) (Nat.le_of_ble_eq_true rfl) d9_34 (fun v4 T4 L4 X4 hQ4 => ?_)
  obtain ⟨rfl, N4q, eh4⟩ := hQ4
  have N4 := Fr.app N2 N4q
  refine g_iload X4 hx hby d9_37 rfl ?_
  refine g_iloadN X4 hx hby d9_39 rfl ?_
  refine g_icN X4 hx hby d9_40 (teq (by decide : (1 : Int32) = (1 : Int32))).2 ?_
  refine g_iconst X4 hx hby (1 : Int32) d9_43 rfl ?_
  refine g_goto X4 hx hby 48 d9_44 (by decide) (by decide) ?_
  refine g_icN X4 hx hby d9_48 (teq (by decide : (1 : Int32) = (1 : Int32))).2 ?_
  refine g_iconst X4 hx hby (1 : Int32) d9_51 rfl ?_
  refine g_goto X4 hx hby 56 d9_52 (by decide) (by decide) ?_
  refine g_nret X4 hx hby (t := .boolean) (by simp) Bd.returns Bd.notSynchronized d9_56 eh4 (by decide) (by decide) ?_
  show (Q_step10 Z r a b kb cz al ka c0 c1 c2 fz h0 n0) (some (.int (1 : Int32))) _ _
  exact ⟨rfl, N4, ((Keep.refl h0 [r]).trans K1 (allS (Or.inl (List.mem_of_getElem? (i := 0) rfl)) all0)), Er1, Tr1, Pr1⟩

def Q_rdat_1_1 (Z : State) (r : Addr) (a : Addr) (b : Addr) (kb : ClassId) (bs : List Value) (cz : Int32) (c : Int32) (h0 : Heap) (n0 : Nat) (v : Option Value) (h : Heap) (L : List Loc) : Prop := v = some (.int (0 : Int32)) ∧ Fr n0 L ∧ h = h0
set_option maxRecDepth 65536 in
set_option maxHeartbeats 40000000 in
theorem rm_rdat_1_1 (l : Launch) (Z : State) (a0 : Array Value) (hw : ∀ d ∈ tables_1, d.before a0 Z = true) (ws : List Jvm.Cond) (r : Addr) (a : Addr) (b : Addr) (kb : ClassId) (bs : List Value) (cz : Int32) (c : Int32) (h0 : Heap) (n0 : Nat) (Z0 : n0 ≤ h0.size) (O2 : Sta Z Z.heap "java/lang/String" "COMPACT_STRINGS" "Z" (.int cz)) (P5 : ¬ cz = (0 : Int32)) (OLD : Old Z n0 h0) (E : Exa Z h0 a "java/lang/String") (C : Fld Z h0 a "java/lang/String" "coder" "B" (.int (0 : Int32))) (VF : Fld Z h0 a "java/lang/String" "value" "[B" (.ref b)) (VB : Arv Z h0 b kb .byte (1 : Int32) bs (.int (0 : Int32))) (rE : Exa Z h0 r "com/example/pathloom/pathloom/web/MediaType$Reader") (rT : Fld Z h0 r "com/example/pathloom/pathloom/web/MediaType$Reader" "text" "Ljava/lang/String;" (.ref a)) (rP : Fld Z h0 r "com/example/pathloom/pathloom/web/MediaType$Reader" "position" "I" (.int (1 : Int32))) :
    MetFree l (⟨"com/example/pathloom/pathloom/web/MediaType$Reader", "at", "(C)Z"⟩ : MethodName) (head1 (Jvm.Cond.code (⟨"com/example/pathloom/pathloom/web/MediaType$Reader", "at", "(C)Z"⟩ : MethodName) prog_35_method_4_code 2 (some .boolean) :: ws) ({ frames := 3, cells := 0, slots := 0, locals := 38 } : Room)) (fun aa_ U => aa_ = #[(.ref r), (.int c)] ∧ Z.Warmed39 U.vm ∧ U.heap = h0) (fun _ _ _ _ _ => True) (fun _ U o_ U' => RetG U (Q_rdat_1_1 Z r a b kb bs cz c h0 n0) 0 0 U' o_) := by
  refine MetFree.of_bodySF (plainFor_of_name own_pn3) hisR ?_
  intro p e s m args below meth c_ s₁ Bd hml0 hP hK
  obtain ⟨rfl, hZ, hh⟩ := hP
  have hx := Bd.exec
  have hby := Bd.bytes
  have hml : c_.maxLocals = 2 := hml0
  have hown : s.vm.findClass "com/example/pathloom/pathloom/web/MediaType$Reader" = some m.cls := findClass_of_methodNamed Bd.named
  have hnm := (name_of_methodNamed Bd.named Bd.method).1
  have X0 : Stand p l e ({ frames := 3, cells := 0, slots := 0, locals := 38 } : Room) s m #[(.ref r), (.int c)] below meth c_ s₁ [] 0 0 := Stand.of_body Bd
  have e0 : s₁.heap = h0 := by rw [← hh, Bd.state]; rfl
  have N0 := Fr.nil n0
  have w28_ := hw _ (List.mem_of_getElem? (i := 28) rfl)
  have w36_ := hw _ (List.mem_of_getElem? (i := 36) rfl)
  have w37_ := hw _ (List.mem_of_getElem? (i := 37) rfl)
  have w38_ := hw _ (List.mem_of_getElem? (i := 38) rfl)
  have w39_ := hw _ (List.mem_of_getElem? (i := 39) rfl)
  have w66_ := hw _ (List.mem_of_getElem? (i := 66) rfl)
  show Go p e below (RetG s (Q_rdat_1_1 Z r a b kb bs cz c h0 n0) 0 0) (s₁.setTop (entryFrame m #[(.ref r), (.int c)] 2))
  rw [show entryFrame m #[(.ref r), (.int c)] 2 = mkF m 0 #[.val (.ref r), .val (.int c)] [] from by first | (simp [entryFrame, mkF, argsToLocals, Value.category]; done) | rfl]
  refine g_aloadN X0 hx hby d11_0 rfl rfl ?_
  refine g_virtual X0 hx hby hZ hown (rm_rdend_1_1 l Z a0 hw [] r a b kb bs cz h0 n0 Z0 O2 P5 OLD E C VF VB rE rT rP) w66_ w36_ (notFace_of_selects (args := #[]) (mvT hZ w38_)) w38_ w37_ w28_ w39_ (by decide) e0 rE (by rw [hml]; rfl) [] (lenOf own_pd7 rfl) rfl rfl (Nat.le_of_ble_eq_true rfl) (Nat.le_of_ble_eq_true rfl) (Nat.le_of_ble_eq_true rfl) (Nat.le_of_ble_eq_true rfl) d11_1 (fun v1 T1 L1 X1 hQ1 => ?_)
  obtain ⟨rfl, N1q, eh1⟩ := hQ1
  have N1 := Fr.app N0 N1q
  refine g_ifY X1 hx hby 26 d11_4 (feq (by decide : ¬ ((1 : Int32) = (0 : Int32)))).2 (by decide) (by decide) ?_
  refine g_iconst X1 hx hby (0 : Int32) d11_26 rfl ?_
  refine g_nret X1 hx hby (t := .boolean) (by simp) Bd.returns Bd.notSynchronized d11_27 eh1 (by decide) (by decide) ?_
  show (Q_rdat_1_1 Z r a b kb bs cz c h0 n0) (some (.int (0 : Int32))) _ _
  exact ⟨rfl, N1, rfl⟩

def Q_rdtake_1_1 (Z : State) (r : Addr) (a : Addr) (b : Addr) (kb : ClassId) (bs : List Value) (cz : Int32) (c : Int32) (h0 : Heap) (n0 : Nat) (v : Option Value) (h : Heap) (L : List Loc) : Prop := v = some (.int (0 : Int32)) ∧ Fr n0 L ∧ Keep h0 h [r] ∧ Exa Z h r "com/example/pathloom/pathloom/web/MediaType$Reader" ∧ Fld Z h r "com/example/pathloom/pathloom/web/MediaType$Reader" "text" "Ljava/lang/String;" (.ref a) ∧ Fld Z h r "com/example/pathloom/pathloom/web/MediaType$Reader" "position" "I" (.int (1 : Int32))
set_option maxRecDepth 65536 in
set_option maxHeartbeats 40000000 in
theorem rm_rdtake_1_1 (l : Launch) (Z : State) (a0 : Array Value) (hw : ∀ d ∈ tables_1, d.before a0 Z = true) (ws : List Jvm.Cond) (r : Addr) (a : Addr) (b : Addr) (kb : ClassId) (bs : List Value) (cz : Int32) (c : Int32) (h0 : Heap) (n0 : Nat) (Z0 : n0 ≤ h0.size) (O2 : Sta Z Z.heap "java/lang/String" "COMPACT_STRINGS" "Z" (.int cz)) (P5 : ¬ cz = (0 : Int32)) (OLD : Old Z n0 h0) (E : Exa Z h0 a "java/lang/String") (C : Fld Z h0 a "java/lang/String" "coder" "B" (.int (0 : Int32))) (VF : Fld Z h0 a "java/lang/String" "value" "[B" (.ref b)) (VB : Arv Z h0 b kb .byte (1 : Int32) bs (.int (0 : Int32))) (rE : Exa Z h0 r "com/example/pathloom/pathloom/web/MediaType$Reader") (rT : Fld Z h0 r "com/example/pathloom/pathloom/web/MediaType$Reader" "text" "Ljava/lang/String;" (.ref a)) (rP : Fld Z h0 r "com/example/pathloom/pathloom/web/MediaType$Reader" "position" "I" (.int (1 : Int32))) (gr : n0 ≤ r) (nra : r ≠ a) (nrb : r ≠ b) :
    MetFree l (⟨"com/example/pathloom/pathloom/web/MediaType$Reader", "take", "(C)Z"⟩ : MethodName) (head1 (Jvm.Cond.code (⟨"com/example/pathloom/pathloom/web/MediaType$Reader", "take", "(C)Z"⟩ : MethodName) prog_35_method_5_code 3 (some .boolean) :: ws) ({ frames := 4, cells := 0, slots := 0, locals := 51 } : Room)) (fun aa_ U => aa_ = #[(.ref r), (.int c)] ∧ Z.Warmed39 U.vm ∧ U.heap = h0) (fun _ _ _ _ _ => True) (fun _ U o_ U' => RetG U (Q_rdtake_1_1 Z r a b kb bs cz c h0 n0) 0 0 U' o_) := by
  refine MetFree.of_bodySF (plainFor_of_name own_pn3) hisR ?_
  intro p e s m args below meth c_ s₁ Bd hml0 hP hK
  obtain ⟨rfl, hZ, hh⟩ := hP
  have hx := Bd.exec
  have hby := Bd.bytes
  have hml : c_.maxLocals = 3 := hml0
  have hown : s.vm.findClass "com/example/pathloom/pathloom/web/MediaType$Reader" = some m.cls := findClass_of_methodNamed Bd.named
  have hnm := (name_of_methodNamed Bd.named Bd.method).1
  have X0 : Stand p l e ({ frames := 4, cells := 0, slots := 0, locals := 51 } : Room) s m #[(.ref r), (.int c)] below meth c_ s₁ [] 0 0 := Stand.of_body Bd
  have e0 : s₁.heap = h0 := by rw [← hh, Bd.state]; rfl
  have N0 := Fr.nil n0
  have w28_ := hw _ (List.mem_of_getElem? (i := 28) rfl)
  have w61_ := hw _ (List.mem_of_getElem? (i := 61) rfl)
  have w62_ := hw _ (List.mem_of_getElem? (i := 62) rfl)
  have w63_ := hw _ (List.mem_of_getElem? (i := 63) rfl)
  have w64_ := hw _ (List.mem_of_getElem? (i := 64) rfl)
  have w65_ := hw _ (List.mem_of_getElem? (i := 65) rfl)
  show Go p e below (RetG s (Q_rdtake_1_1 Z r a b kb bs cz c h0 n0) 0 0) (s₁.setTop (entryFrame m #[(.ref r), (.int c)] 3))
  rw [show entryFrame m #[(.ref r), (.int c)] 3 = mkF m 0 #[.val (.ref r), .val (.int c), .unset] [] from by first | (simp [entryFrame, mkF, argsToLocals, Value.category]; done) | rfl]
  refine g_aloadN X0 hx hby d10_0 rfl rfl ?_
  refine g_iloadN X0 hx hby d10_1 rfl ?_
  refine g_virtual X0 hx hby hZ hown (rm_rdat_1_1 l Z a0 hw [] r a b kb bs cz c h0 n0 Z0 O2 P5 OLD E C VF VB rE rT rP) w61_ w62_ (notFace_of_selects (args := #[]) (mvT hZ w64_)) w64_ w63_ w28_ w65_ (by decide) e0 rE (by rw [hml]; rfl) [(.int c)] (lenOf own_pd8 rfl) rfl rfl (Nat.le_of_ble_eq_true rfl) (Nat.le_of_ble_eq_true rfl) (Nat.le_of_ble_eq_true rfl) (Nat.le_of_ble_eq_true rfl) d10_2 (fun v1 T1 L1 X1 hQ1 => ?_)
  obtain ⟨rfl, N1q, eh1⟩ := hQ1
  have N1 := Fr.app N0 N1q
  refine g_istoreN X1 hx hby d10_5 (l' := #[.val (.ref r), .val (.int c), .val (.int (0 : Int32))]) rfl ?_
  refine g_iloadN X1 hx hby d10_6 rfl ?_
  refine g_ifY X1 hx hby 20 d10_7 (teq (by decide : (0 : Int32) = (0 : Int32))).1 (by decide) (by decide) ?_
  refine g_iloadN X1 hx hby d10_20 rfl ?_
  refine g_nret X1 hx hby (t := .boolean) (by simp) Bd.returns Bd.notSynchronized d10_21 eh1 (by decide) (by decide) ?_
  show (Q_rdtake_1_1 Z r a b kb bs cz c h0 n0) (some (.int (0 : Int32))) _ _
  exact ⟨rfl, N1, (Keep.refl h0 [r]), rE, rT, rP⟩

def Q_step11 (Z : State) (r : Addr) (a : Addr) (b : Addr) (kb : ClassId) (cz : Int32) (al : Addr) (ka : ClassId) (c0 : Int32) (c1 : Int32) (c2 : Int32) (fz : Value) (h0 : Heap) (n0 : Nat) (v : Option Value) (h : Heap) (L : List Loc) : Prop := v = some (.int (1 : Int32)) ∧ Fr n0 L ∧ Keep h0 h [r] ∧ Exa Z h r "com/example/pathloom/pathloom/web/MediaType$Reader" ∧ Fld Z h r "com/example/pathloom/pathloom/web/MediaType$Reader" "text" "Ljava/lang/String;" (.ref a) ∧ Fld Z h r "com/example/pathloom/pathloom/web/MediaType$Reader" "position" "I" (.int (1 : Int32))
set_option maxRecDepth 65536 in
set_option maxHeartbeats 40000000 in
theorem rm_step11 (l : Launch) (Z : State) (a0 : Array Value) (hw : ∀ d ∈ tables_1, d.before a0 Z = true) (ws : List Jvm.Cond) (r : Addr) (a : Addr) (b : Addr) (kb : ClassId) (cz : Int32) (al : Addr) (ka : ClassId) (c0 : Int32) (c1 : Int32) (c2 : Int32) (fz : Value) (h0 : Heap) (n0 : Nat) (Z0 : n0 ≤ h0.size) (O2 : Sta Z Z.heap "java/lang/String" "COMPACT_STRINGS" "Z" (.int cz)) (P5 : ¬ cz = (0 : Int32)) (OLD : Old Z n0 h0) (E : Exa Z h0 a "java/lang/String") (C : Fld Z h0 a "java/lang/String" "coder" "B" (.int (0 : Int32))) (VF : Fld Z h0 a "java/lang/String" "value" "[B" (.ref b)) (VB : Arv Z h0 b kb .byte (1 : Int32) [(.int (nar .byte ((nar .char c0).toInt8.toInt32)))] (.int (0 : Int32))) (rE : Exa Z h0 r "com/example/pathloom/pathloom/web/MediaType$Reader") (rT : Fld Z h0 r "com/example/pathloom/pathloom/web/MediaType$Reader" "text" "Ljava/lang/String;" (.ref a)) (rP : Fld Z h0 r "com/example/pathloom/pathloom/web/MediaType$Reader" "position" "I" (.int (1 : Int32))) (VA : Arv Z h0 al ka .char (3 : Int32) [(.int c0), (.int c1), (.int c2)] (.int (0 : Int32))) (hc0 : 0 ≤ c0.toInt ∧ c0.toInt ≤ 255) (hc1 : 0 ≤ c1.toInt ∧ c1.toInt ≤ 255) (hc2 : 0 ≤ c2.toInt ∧ c2.toInt ≤ 255) (rfz : Rf fz) (O4 : Sta Z Z.heap "jdk/internal/util/Preconditions" "SIOOBE_FORMATTER" "Ljava/util/function/BiFunction;" fz) (gr : n0 ≤ r) (nra : r ≠ a) (nrb : r ≠ b) :
    MetFree l (⟨"com/example/pathloom/pathloom/web/ReaderAtEndPinLaw", "step", "(Lcom/example/pathloom/pathloom/web/MediaType$Reader;II[C)Z"⟩ : MethodName) (head1 (Jvm.Cond.code (⟨"com/example/pathloom/pathloom/web/ReaderAtEndPinLaw", "step", "(Lcom/example/pathloom/pathloom/web/MediaType$Reader;II[C)Z"⟩ : MethodName) method_4_code 6 (some .boolean) :: ws) ({ frames := 5, cells := 0, slots := 0, locals := 65 } : Room)) (fun aa_ U => aa_ = #[(.ref r), (.int (1 : Int32)), (.int (1 : Int32)), (.ref al)] ∧ Z.Warmed39 U.vm ∧ U.heap = h0) (fun _ _ _ _ _ => True) (fun _ U o_ U' => RetG U (Q_step11 Z r a b kb cz al ka c0 c1 c2 fz h0 n0) 0 0 U' o_) := by
  refine MetFree.of_bodySF (plainFor_of_name own_pn1) hisR ?_
  intro p e s m args below meth c_ s₁ Bd hml0 hP hK
  obtain ⟨rfl, hZ, hh⟩ := hP
  have hx := Bd.exec
  have hby := Bd.bytes
  have hml : c_.maxLocals = 6 := hml0
  have hown : s.vm.findClass "com/example/pathloom/pathloom/web/ReaderAtEndPinLaw" = some m.cls := findClass_of_methodNamed Bd.named
  have hnm := (name_of_methodNamed Bd.named Bd.method).1
  have X0 : Stand p l e ({ frames := 5, cells := 0, slots := 0, locals := 65 } : Room) s m #[(.ref r), (.int (1 : Int32)), (.int (1 : Int32)), (.ref al)] below meth c_ s₁ [] 0 0 := Stand.of_body Bd
  have e0 : s₁.heap = h0 := by rw [← hh, Bd.state]; rfl
  have N0 := Fr.nil n0
  have w28_ := hw _ (List.mem_of_getElem? (i := 28) rfl)
  have w35_ := hw _ (List.mem_of_getElem? (i := 35) rfl)
  have w36_ := hw _ (List.mem_of_getElem? (i := 36) rfl)
  have w37_ := hw _ (List.mem_of_getElem? (i := 37) rfl)
  have w38_ := hw _ (List.mem_of_getElem? (i := 38) rfl)
  have w39_ := hw _ (List.mem_of_getElem? (i := 39) rfl)
  have w56_ := hw _ (List.mem_of_getElem? (i := 56) rfl)
  have w57_ := hw _ (List.mem_of_getElem? (i := 57) rfl)
  have w58_ := hw _ (List.mem_of_getElem? (i := 58) rfl)
  have w59_ := hw _ (List.mem_of_getElem? (i := 59) rfl)
  have w60_ := hw _ (List.mem_of_getElem? (i := 60) rfl)
  have w67_ := hw _ (List.mem_of_getElem? (i := 67) rfl)
  have w68_ := hw _ (List.mem_of_getElem? (i := 68) rfl)
  have w69_ := hw _ (List.mem_of_getElem? (i := 69) rfl)
  have w70_ := hw _ (List.mem_of_getElem? (i := 70) rfl)
  show Go p e below (RetG s (Q_step11 Z r a b kb cz al ka c0 c1 c2 fz h0 n0) 0 0) (s₁.setTop (entryFrame m #[(.ref r), (.int (1 : Int32)), (.int (1 : Int32)), (.ref al)] 6))
  rw [show entryFrame m #[(.ref r), (.int (1 : Int32)), (.int (1 : Int32)), (.ref al)] 6 = mkF m 0 #[.val (.ref r), .val (.int (1 : Int32)), .val (.int (1 : Int32)), .val (.ref al), .unset, .unset] [] from by first | (simp [entryFrame, mkF, argsToLocals, Value.category]; done) | rfl]
  refine g_aloadN X0 hx hby d9_0 rfl rfl ?_
  refine g_aloadN X0 hx hby d9_1 rfl rfl ?_
  refine g_iloadN X0 hx hby d9_2 rfl ?_
  refine g_caload X0 hx hby hZ e0 VA (.int c1) ⟨by decide, by decide⟩ rfl d9_3 ?_
  refine g_virtual X0 hx hby hZ hown (rm_rdtake_1_1 l Z a0 hw [] r a b kb [(.int (nar .byte ((nar .char c0).toInt8.toInt32)))] cz c1 h0 n0 Z0 O2 P5 OLD E C VF VB rE rT rP gr nra nrb) w56_ w57_ (notFace_of_selects (args := #[]) (mvT hZ w59_)) w59_ w58_ w28_ w60_ (by decide) e0 rE (by rw [hml]; rfl) [(.int c1)] (lenOf own_pd8 rfl) rfl rfl (Nat.le_of_ble_eq_true rfl) (Nat.le_of_ble_eq_true rfl) (Nat.le_of_ble_eq_true rfl) (Nat.le_of_ble_eq_true rfl) d9_4 (fun v1 T1 L1 X1 hQ1 => ?_)
  obtain ⟨rfl, N1q, K1, Er1, Tr1, Pr1⟩ := hQ1
  have N1 := Fr.app N0 N1q
  refine g_istore X1 hx hby d9_7 (l' := #[.val (.ref r), .val (.int (1 : Int32)), .val (.int (1 : Int32)), .val (.ref al), .val (.int (0 : Int32)), .unset]) rfl ?_
  refine g_iloadN X1 hx hby d9_9 rfl ?_
  refine g_iconst X1 hx hby (1 : Int32) d9_10 rfl ?_
  refine g_iadd X1 hx hby d9_11 ?_
  refine g_topI (2 : Int32) (by decide) ?_
  refine g_iloadN X1 hx hby d9_12 rfl ?_
  have z3 := (Nat.le_trans Z0 K1.1)
  refine g_static X1 hx hby hZ hown (rm_mmin l Z a0 hw [] (2 : Int32) (1 : Int32) T1.heap n0 z3 ) w67_ w68_ w69_ w70_ (by decide) rfl (by rw [hml]; rfl) [(.int (2 : Int32)), (.int (1 : Int32))] (lenOf own_pd9 rfl) rfl rfl (Nat.le_of_ble_eq_true rfl) (Nat.le_of_ble_eq_true rfl) (Nat.le_of_ble_eq_true rfl) (Nat.le_of_ble_eq_true rfl) d9_13 (fun v2 T2 L2 X2 hQ2 => ?_)
  obtain ⟨rfl, N2q, eh2⟩ := hQ2
  have N2 := Fr.app N1 N2q
  refine g_topI (T := T2) (1 : Int32) (by decide) ?_
  refine g_istore X2 hx hby d9_16 (l' := #[.val (.ref r), .val (.int (1 : Int32)), .val (.int (1 : Int32)), .val (.ref al), .val (.int (0 : Int32)), .val (.int (1 : Int32))]) rfl ?_
  refine g_iload X2 hx hby d9_18 rfl ?_
  refine g_iloadN X2 hx hby d9_20 rfl ?_
  refine g_iloadN X2 hx hby d9_21 rfl ?_
  refine g_at 22 rfl rfl rfl ?_
  refine g_icY X2 hx hby 29 d9_22 (flt (by decide : ¬ ((1 : Int32) < (1 : Int32)))).2.1 (by decide) (by decide) ?_
  refine g_iconst X2 hx hby (0 : Int32) d9_29 rfl ?_
  refine g_icN X2 hx hby d9_30 (teq (by decide : (0 : Int32) = (0 : Int32))).2 ?_
  refine g_aloadN X2 hx hby d9_33 rfl rfl ?_
  have f5 := (E.keep K1)
  have f6 := (C.keep K1 (ninS (Ne.symm nra) nin0))
  have f7 := (VF.keep K1 (ninS (Ne.symm nra) nin0))
  have f8 := (VB.keep K1 (ninS (Ne.symm nrb) nin0))
  have f9 := (OLD.keep K1 (allS gr all0))
  refine g_virtual X2 hx hby hZ hown (rm_rdend_1_1 l Z a0 hw [] r a b kb [(.int (nar .byte ((nar .char c0).toInt8.toInt32)))] cz T1.heap n0 z3 O2 P5 f9 f5 f6 f7 f8 Er1 Tr1 Pr1) w35_ w36_ (notFace_of_selects (args := #[]) (mvT hZ w38_)) w38_ w37_ w28_ w39_ (by decide) eh2 Er1 (by rw [hml]; rfl) [] (lenOf own_pd7 rfl) rfl rfl (Nat.le_of_ble_eq_true rfl) (Nat.le_of_ble_eq_true rfl) (Nat.le_of_ble_eq_true rfl) (Nat.le_of_ble_eq_true rfl) d9_34 (fun v4 T4 L4 X4 hQ4 => ?_)
  obtain ⟨rfl, N4q, eh4⟩ := hQ4
  have N4 := Fr.app N2 N4q
  refine g_iload X4 hx hby d9_37 rfl ?_
  refine g_iloadN X4 hx hby d9_39 rfl ?_
  refine g_icN X4 hx hby d9_40 (teq (by decide : (1 : Int32) = (1 : Int32))).2 ?_
  refine g_iconst X4 hx hby (1 : Int32) d9_43 rfl ?_
  refine g_goto X4 hx hby 48 d9_44 (by decide) (by decide) ?_
  refine g_icN X4 hx hby d9_48 (teq (by decide : (1 : Int32) = (1 : Int32))).2 ?_
  refine g_iconst X4 hx hby (1 : Int32) d9_51 rfl ?_
  refine g_goto X4 hx hby 56 d9_52 (by decide) (by decide) ?_
  refine g_nret X4 hx hby (t := .boolean) (by simp) Bd.returns Bd.notSynchronized d9_56 eh4 (by decide) (by decide) ?_
  show (Q_step11 Z r a b kb cz al ka c0 c1 c2 fz h0 n0) (some (.int (1 : Int32))) _ _
  exact ⟨rfl, N4, ((Keep.refl h0 [r]).trans K1 (allS (Or.inl (List.mem_of_getElem? (i := 0) rfl)) all0)), Er1, Tr1, Pr1⟩

def Q_step12 (Z : State) (r : Addr) (a : Addr) (b : Addr) (kb : ClassId) (cz : Int32) (al : Addr) (ka : ClassId) (c0 : Int32) (c1 : Int32) (c2 : Int32) (fz : Value) (h0 : Heap) (n0 : Nat) (v : Option Value) (h : Heap) (L : List Loc) : Prop := v = some (.int (1 : Int32)) ∧ Fr n0 L ∧ Keep h0 h [r] ∧ Exa Z h r "com/example/pathloom/pathloom/web/MediaType$Reader" ∧ Fld Z h r "com/example/pathloom/pathloom/web/MediaType$Reader" "text" "Ljava/lang/String;" (.ref a) ∧ Fld Z h r "com/example/pathloom/pathloom/web/MediaType$Reader" "position" "I" (.int (1 : Int32))
set_option maxRecDepth 65536 in
set_option maxHeartbeats 40000000 in
theorem rm_step12 (l : Launch) (Z : State) (a0 : Array Value) (hw : ∀ d ∈ tables_1, d.before a0 Z = true) (ws : List Jvm.Cond) (r : Addr) (a : Addr) (b : Addr) (kb : ClassId) (cz : Int32) (al : Addr) (ka : ClassId) (c0 : Int32) (c1 : Int32) (c2 : Int32) (fz : Value) (h0 : Heap) (n0 : Nat) (Z0 : n0 ≤ h0.size) (O2 : Sta Z Z.heap "java/lang/String" "COMPACT_STRINGS" "Z" (.int cz)) (P5 : ¬ cz = (0 : Int32)) (OLD : Old Z n0 h0) (E : Exa Z h0 a "java/lang/String") (C : Fld Z h0 a "java/lang/String" "coder" "B" (.int (0 : Int32))) (VF : Fld Z h0 a "java/lang/String" "value" "[B" (.ref b)) (VB : Arv Z h0 b kb .byte (1 : Int32) [(.int (nar .byte ((nar .char c0).toInt8.toInt32)))] (.int (0 : Int32))) (rE : Exa Z h0 r "com/example/pathloom/pathloom/web/MediaType$Reader") (rT : Fld Z h0 r "com/example/pathloom/pathloom/web/MediaType$Reader" "text" "Ljava/lang/String;" (.ref a)) (rP : Fld Z h0 r "com/example/pathloom/pathloom/web/MediaType$Reader" "position" "I" (.int (1 : Int32))) (VA : Arv Z h0 al ka .char (3 : Int32) [(.int c0), (.int c1), (.int c2)] (.int (0 : Int32))) (hc0 : 0 ≤ c0.toInt ∧ c0.toInt ≤ 255) (hc1 : 0 ≤ c1.toInt ∧ c1.toInt ≤ 255) (hc2 : 0 ≤ c2.toInt ∧ c2.toInt ≤ 255) (rfz : Rf fz) (O4 : Sta Z Z.heap "jdk/internal/util/Preconditions" "SIOOBE_FORMATTER" "Ljava/util/function/BiFunction;" fz) (gr : n0 ≤ r) (nra : r ≠ a) (nrb : r ≠ b) :
    MetFree l (⟨"com/example/pathloom/pathloom/web/ReaderAtEndPinLaw", "step", "(Lcom/example/pathloom/pathloom/web/MediaType$Reader;II[C)Z"⟩ : MethodName) (head1 (Jvm.Cond.code (⟨"com/example/pathloom/pathloom/web/ReaderAtEndPinLaw", "step", "(Lcom/example/pathloom/pathloom/web/MediaType$Reader;II[C)Z"⟩ : MethodName) method_4_code 6 (some .boolean) :: ws) ({ frames := 5, cells := 0, slots := 0, locals := 65 } : Room)) (fun aa_ U => aa_ = #[(.ref r), (.int (2 : Int32)), (.int (1 : Int32)), (.ref al)] ∧ Z.Warmed39 U.vm ∧ U.heap = h0) (fun _ _ _ _ _ => True) (fun _ U o_ U' => RetG U (Q_step12 Z r a b kb cz al ka c0 c1 c2 fz h0 n0) 0 0 U' o_) := by
  refine MetFree.of_bodySF (plainFor_of_name own_pn1) hisR ?_
  intro p e s m args below meth c_ s₁ Bd hml0 hP hK
  obtain ⟨rfl, hZ, hh⟩ := hP
  have hx := Bd.exec
  have hby := Bd.bytes
  have hml : c_.maxLocals = 6 := hml0
  have hown : s.vm.findClass "com/example/pathloom/pathloom/web/ReaderAtEndPinLaw" = some m.cls := findClass_of_methodNamed Bd.named
  have hnm := (name_of_methodNamed Bd.named Bd.method).1
  have X0 : Stand p l e ({ frames := 5, cells := 0, slots := 0, locals := 65 } : Room) s m #[(.ref r), (.int (2 : Int32)), (.int (1 : Int32)), (.ref al)] below meth c_ s₁ [] 0 0 := Stand.of_body Bd
  have e0 : s₁.heap = h0 := by rw [← hh, Bd.state]; rfl
  have N0 := Fr.nil n0
  have w28_ := hw _ (List.mem_of_getElem? (i := 28) rfl)
  have w35_ := hw _ (List.mem_of_getElem? (i := 35) rfl)
  have w36_ := hw _ (List.mem_of_getElem? (i := 36) rfl)
  have w37_ := hw _ (List.mem_of_getElem? (i := 37) rfl)
  have w38_ := hw _ (List.mem_of_getElem? (i := 38) rfl)
  have w39_ := hw _ (List.mem_of_getElem? (i := 39) rfl)
  have w56_ := hw _ (List.mem_of_getElem? (i := 56) rfl)
  have w57_ := hw _ (List.mem_of_getElem? (i := 57) rfl)
  have w58_ := hw _ (List.mem_of_getElem? (i := 58) rfl)
  have w59_ := hw _ (List.mem_of_getElem? (i := 59) rfl)
  have w60_ := hw _ (List.mem_of_getElem? (i := 60) rfl)
  have w67_ := hw _ (List.mem_of_getElem? (i := 67) rfl)
  have w68_ := hw _ (List.mem_of_getElem? (i := 68) rfl)
  have w69_ := hw _ (List.mem_of_getElem? (i := 69) rfl)
  have w70_ := hw _ (List.mem_of_getElem? (i := 70) rfl)
  show Go p e below (RetG s (Q_step12 Z r a b kb cz al ka c0 c1 c2 fz h0 n0) 0 0) (s₁.setTop (entryFrame m #[(.ref r), (.int (2 : Int32)), (.int (1 : Int32)), (.ref al)] 6))
  rw [show entryFrame m #[(.ref r), (.int (2 : Int32)), (.int (1 : Int32)), (.ref al)] 6 = mkF m 0 #[.val (.ref r), .val (.int (2 : Int32)), .val (.int (1 : Int32)), .val (.ref al), .unset, .unset] [] from by first | (simp [entryFrame, mkF, argsToLocals, Value.category]; done) | rfl]
  refine g_aloadN X0 hx hby d9_0 rfl rfl ?_
  refine g_aloadN X0 hx hby d9_1 rfl rfl ?_
  refine g_iloadN X0 hx hby d9_2 rfl ?_
  refine g_caload X0 hx hby hZ e0 VA (.int c2) ⟨by decide, by decide⟩ rfl d9_3 ?_
  refine g_virtual X0 hx hby hZ hown (rm_rdtake_1_1 l Z a0 hw [] r a b kb [(.int (nar .byte ((nar .char c0).toInt8.toInt32)))] cz c2 h0 n0 Z0 O2 P5 OLD E C VF VB rE rT rP gr nra nrb) w56_ w57_ (notFace_of_selects (args := #[]) (mvT hZ w59_)) w59_ w58_ w28_ w60_ (by decide) e0 rE (by rw [hml]; rfl) [(.int c2)] (lenOf own_pd8 rfl) rfl rfl (Nat.le_of_ble_eq_true rfl) (Nat.le_of_ble_eq_true rfl) (Nat.le_of_ble_eq_true rfl) (Nat.le_of_ble_eq_true rfl) d9_4 (fun v1 T1 L1 X1 hQ1 => ?_)
  obtain ⟨rfl, N1q, K1, Er1, Tr1, Pr1⟩ := hQ1
  have N1 := Fr.app N0 N1q
  refine g_istore X1 hx hby d9_7 (l' := #[.val (.ref r), .val (.int (2 : Int32)), .val (.int (1 : Int32)), .val (.ref al), .val (.int (0 : Int32)), .unset]) rfl ?_
  refine g_iloadN X1 hx hby d9_9 rfl ?_
  refine g_iconst X1 hx hby (1 : Int32) d9_10 rfl ?_
  refine g_iadd X1 hx hby d9_11 ?_
  refine g_topI (3 : Int32) (by decide) ?_
  refine g_iloadN X1 hx hby d9_12 rfl ?_
  have z3 := (Nat.le_trans Z0 K1.1)
  refine g_static X1 hx hby hZ hown (rm_mmin l Z a0 hw [] (3 : Int32) (1 : Int32) T1.heap n0 z3 ) w67_ w68_ w69_ w70_ (by decide) rfl (by rw [hml]; rfl) [(.int (3 : Int32)), (.int (1 : Int32))] (lenOf own_pd9 rfl) rfl rfl (Nat.le_of_ble_eq_true rfl) (Nat.le_of_ble_eq_true rfl) (Nat.le_of_ble_eq_true rfl) (Nat.le_of_ble_eq_true rfl) d9_13 (fun v2 T2 L2 X2 hQ2 => ?_)
  obtain ⟨rfl, N2q, eh2⟩ := hQ2
  have N2 := Fr.app N1 N2q
  refine g_topI (T := T2) (1 : Int32) (by decide) ?_
  refine g_istore X2 hx hby d9_16 (l' := #[.val (.ref r), .val (.int (2 : Int32)), .val (.int (1 : Int32)), .val (.ref al), .val (.int (0 : Int32)), .val (.int (1 : Int32))]) rfl ?_
  refine g_iload X2 hx hby d9_18 rfl ?_
  refine g_iloadN X2 hx hby d9_20 rfl ?_
  refine g_iloadN X2 hx hby d9_21 rfl ?_
  refine g_at 22 rfl rfl rfl ?_
  refine g_icY X2 hx hby 29 d9_22 (flt (by decide : ¬ ((2 : Int32) < (1 : Int32)))).2.1 (by decide) (by decide) ?_
  refine g_iconst X2 hx hby (0 : Int32) d9_29 rfl ?_
  refine g_icN X2 hx hby d9_30 (teq (by decide : (0 : Int32) = (0 : Int32))).2 ?_
  refine g_aloadN X2 hx hby d9_33 rfl rfl ?_
  have f5 := (E.keep K1)
  have f6 := (C.keep K1 (ninS (Ne.symm nra) nin0))
  have f7 := (VF.keep K1 (ninS (Ne.symm nra) nin0))
  have f8 := (VB.keep K1 (ninS (Ne.symm nrb) nin0))
  have f9 := (OLD.keep K1 (allS gr all0))
  refine g_virtual X2 hx hby hZ hown (rm_rdend_1_1 l Z a0 hw [] r a b kb [(.int (nar .byte ((nar .char c0).toInt8.toInt32)))] cz T1.heap n0 z3 O2 P5 f9 f5 f6 f7 f8 Er1 Tr1 Pr1) w35_ w36_ (notFace_of_selects (args := #[]) (mvT hZ w38_)) w38_ w37_ w28_ w39_ (by decide) eh2 Er1 (by rw [hml]; rfl) [] (lenOf own_pd7 rfl) rfl rfl (Nat.le_of_ble_eq_true rfl) (Nat.le_of_ble_eq_true rfl) (Nat.le_of_ble_eq_true rfl) (Nat.le_of_ble_eq_true rfl) d9_34 (fun v4 T4 L4 X4 hQ4 => ?_)
  obtain ⟨rfl, N4q, eh4⟩ := hQ4
  have N4 := Fr.app N2 N4q
  refine g_iload X4 hx hby d9_37 rfl ?_
  refine g_iloadN X4 hx hby d9_39 rfl ?_
  refine g_icN X4 hx hby d9_40 (teq (by decide : (1 : Int32) = (1 : Int32))).2 ?_
  refine g_iconst X4 hx hby (1 : Int32) d9_43 rfl ?_
  refine g_goto X4 hx hby 48 d9_44 (by decide) (by decide) ?_
  refine g_icN X4 hx hby d9_48 (teq (by decide : (1 : Int32) = (1 : Int32))).2 ?_
  refine g_iconst X4 hx hby (1 : Int32) d9_51 rfl ?_
  refine g_goto X4 hx hby 56 d9_52 (by decide) (by decide) ?_
  refine g_nret X4 hx hby (t := .boolean) (by simp) Bd.returns Bd.notSynchronized d9_56 eh4 (by decide) (by decide) ?_
  show (Q_step12 Z r a b kb cz al ka c0 c1 c2 fz h0 n0) (some (.int (1 : Int32))) _ _
  exact ⟨rfl, N4, ((Keep.refl h0 [r]).trans K1 (allS (Or.inl (List.mem_of_getElem? (i := 0) rfl)) all0)), Er1, Tr1, Pr1⟩

def Q_slen_2 (Z : State) (a : Addr) (b : Addr) (kb : ClassId) (bs : List Value) (cz : Int32) (h0 : Heap) (n0 : Nat) (v : Option Value) (h : Heap) (L : List Loc) : Prop := v = some (.int (2 : Int32)) ∧ Fr n0 L ∧ h = h0
set_option maxRecDepth 65536 in
set_option maxHeartbeats 40000000 in
theorem rm_slen_2 (l : Launch) (Z : State) (a0 : Array Value) (hw : ∀ d ∈ tables_1, d.before a0 Z = true) (ws : List Jvm.Cond) (a : Addr) (b : Addr) (kb : ClassId) (bs : List Value) (cz : Int32) (h0 : Heap) (n0 : Nat) (Z0 : n0 ≤ h0.size) (O2 : Sta Z Z.heap "java/lang/String" "COMPACT_STRINGS" "Z" (.int cz)) (P5 : ¬ cz = (0 : Int32)) (OLD : Old Z n0 h0) (E : Exa Z h0 a "java/lang/String") (C : Fld Z h0 a "java/lang/String" "coder" "B" (.int (0 : Int32))) (VF : Fld Z h0 a "java/lang/String" "value" "[B" (.ref b)) (VB : Arv Z h0 b kb .byte (2 : Int32) bs (.int (0 : Int32))) :
    MetFree l (⟨"java/lang/String", "length", "()I"⟩ : MethodName) (head1 (Jvm.Cond.code (⟨"java/lang/String", "length", "()I"⟩ : MethodName) jdk_42_method_54_code 1 (some .int) :: ws) ({ frames := 1, cells := 0, slots := 0, locals := 13 } : Room)) (fun aa_ U => aa_ = #[(.ref a)] ∧ Z.Warmed39 U.vm ∧ U.heap = h0) (fun _ _ _ _ _ => True) (fun _ U o_ U' => RetG U (Q_slen_2 Z a b kb bs cz h0 n0) 0 0 U' o_) := by
  refine MetFree.of_bodySF (plainFor_of_name own_pn0) hisR ?_
  intro p e s m args below meth c_ s₁ Bd hml0 hP hK
  obtain ⟨rfl, hZ, hh⟩ := hP
  have hx := Bd.exec
  have hby := Bd.bytes
  have hml : c_.maxLocals = 1 := hml0
  have hown : s.vm.findClass "java/lang/String" = some m.cls := findClass_of_methodNamed Bd.named
  have hnm := (name_of_methodNamed Bd.named Bd.method).1
  have X0 : Stand p l e ({ frames := 1, cells := 0, slots := 0, locals := 13 } : Room) s m #[(.ref a)] below meth c_ s₁ [] 0 0 := Stand.of_body Bd
  have e0 : s₁.heap = h0 := by rw [← hh, Bd.state]; rfl
  have N0 := Fr.nil n0
  have w7_ := hw _ (List.mem_of_getElem? (i := 7) rfl)
  have w24_ := hw _ (List.mem_of_getElem? (i := 24) rfl)
  have w47_ := hw _ (List.mem_of_getElem? (i := 47) rfl)
  have w48_ := hw _ (List.mem_of_getElem? (i := 48) rfl)
  have w49_ := hw _ (List.mem_of_getElem? (i := 49) rfl)
  have w50_ := hw _ (List.mem_of_getElem? (i := 50) rfl)
  have w51_ := hw _ (List.mem_of_getElem? (i := 51) rfl)
  show Go p e below (RetG s (Q_slen_2 Z a b kb bs cz h0 n0) 0 0) (s₁.setTop (entryFrame m #[(.ref a)] 1))
  rw [show entryFrame m #[(.ref a)] 1 = mkF m 0 #[.val (.ref a)] [] from by first | (simp [entryFrame, mkF, argsToLocals, Value.category]; done) | rfl]
  refine g_aloadN X0 hx hby d7_0 rfl rfl ?_
  refine g_getF X0 hx hby hZ hown (host := "") (Or.inl w24_) Via.refl e0 VF d7_1 (fun T1 X1 e1 => ?_)
  refine g_arraylength X1 hx hby hZ e1 VB d7_4 ?_
  refine g_aloadN X1 hx hby d7_5 rfl rfl ?_
  refine g_virtual X1 hx hby hZ hown (rm_coder l Z a0 hw [] a (0 : Int32) cz h0 n0 Z0 O2 P5 OLD C) w47_ w48_ (notFace_of_selects (args := #[]) (mvT hZ w50_)) w50_ w49_ w7_ w51_ (by decide) e1 E (by rw [hml]; rfl) [] (lenOf own_pd5 rfl) rfl rfl (Nat.le_of_ble_eq_true rfl) (Nat.le_of_ble_eq_true rfl) (Nat.le_of_ble_eq_true rfl) (Nat.le_of_ble_eq_true rfl) d7_6 (fun v2 T2 L2 X2 hQ2 => ?_)
  obtain ⟨rfl, N2q, eh2⟩ := hQ2
  have N2 := Fr.app N0 N2q
  refine g_topI (T := T2) (0 : Int32) (by decide) ?_
  refine g_ishr X2 hx hby d7_9 ?_
  refine g_topI (2 : Int32) (by decide) ?_
  refine g_iret X2 hx hby Bd.returns Bd.notSynchronized d7_10 eh2 (by decide) (by decide) ?_
  show (Q_slen_2 Z a b kb bs cz h0 n0) (some (.int (2 : Int32))) _ _
  exact ⟨rfl, N2, rfl⟩

def Q_rdend_2_0 (Z : State) (r : Addr) (a : Addr) (b : Addr) (kb : ClassId) (bs : List Value) (cz : Int32) (h0 : Heap) (n0 : Nat) (v : Option Value) (h : Heap) (L : List Loc) : Prop := v = some (.int (0 : Int32)) ∧ Fr n0 L ∧ h = h0
set_option maxRecDepth 65536 in
set_option maxHeartbeats 40000000 in
theorem rm_rdend_2_0 (l : Launch) (Z : State) (a0 : Array Value) (hw : ∀ d ∈ tables_1, d.before a0 Z = true) (ws : List Jvm.Cond) (r : Addr) (a : Addr) (b : Addr) (kb : ClassId) (bs : List Value) (cz : Int32) (h0 : Heap) (n0 : Nat) (Z0 : n0 ≤ h0.size) (O2 : Sta Z Z.heap "java/lang/String" "COMPACT_STRINGS" "Z" (.int cz)) (P5 : ¬ cz = (0 : Int32)) (OLD : Old Z n0 h0) (E : Exa Z h0 a "java/lang/String") (C : Fld Z h0 a "java/lang/String" "coder" "B" (.int (0 : Int32))) (VF : Fld Z h0 a "java/lang/String" "value" "[B" (.ref b)) (VB : Arv Z h0 b kb .byte (2 : Int32) bs (.int (0 : Int32))) (rE : Exa Z h0 r "com/example/pathloom/pathloom/web/MediaType$Reader") (rT : Fld Z h0 r "com/example/pathloom/pathloom/web/MediaType$Reader" "text" "Ljava/lang/String;" (.ref a)) (rP : Fld Z h0 r "com/example/pathloom/pathloom/web/MediaType$Reader" "position" "I" (.int (0 : Int32))) :
    MetFree l (⟨"com/example/pathloom/pathloom/web/MediaType$Reader", "atEnd", "()Z"⟩ : MethodName) (head1 (Jvm.Cond.code (⟨"com/example/pathloom/pathloom/web/MediaType$Reader", "atEnd", "()Z"⟩ : MethodName) prog_35_method_2_code 1 (some .boolean) :: ws) ({ frames := 2, cells := 0, slots := 0, locals := 26 } : Room)) (fun aa_ U => aa_ = #[(.ref r)] ∧ Z.Warmed39 U.vm ∧ U.heap = h0) (fun _ _ _ _ _ => True) (fun _ U o_ U' => RetG U (Q_rdend_2_0 Z r a b kb bs cz h0 n0) 0 0 U' o_) := by
  refine MetFree.of_bodySF (plainFor_of_name own_pn3) hisR ?_
  intro p e s m args below meth c_ s₁ Bd hml0 hP hK
  obtain ⟨rfl, hZ, hh⟩ := hP
  have hx := Bd.exec
  have hby := Bd.bytes
  have hml : c_.maxLocals = 1 := hml0
  have hown : s.vm.findClass "com/example/pathloom/pathloom/web/MediaType$Reader" = some m.cls := findClass_of_methodNamed Bd.named
  have hnm := (name_of_methodNamed Bd.named Bd.method).1
  have X0 : Stand p l e ({ frames := 2, cells := 0, slots := 0, locals := 26 } : Room) s m #[(.ref r)] below meth c_ s₁ [] 0 0 := Stand.of_body Bd
  have e0 : s₁.heap = h0 := by rw [← hh, Bd.state]; rfl
  have N0 := Fr.nil n0
  have w7_ := hw _ (List.mem_of_getElem? (i := 7) rfl)
  have w33_ := hw _ (List.mem_of_getElem? (i := 33) rfl)
  have w40_ := hw _ (List.mem_of_getElem? (i := 40) rfl)
  have w42_ := hw _ (List.mem_of_getElem? (i := 42) rfl)
  have w43_ := hw _ (List.mem_of_getElem? (i := 43) rfl)
  have w44_ := hw _ (List.mem_of_getElem? (i := 44) rfl)
  have w45_ := hw _ (List.mem_of_getElem? (i := 45) rfl)
  have w46_ := hw _ (List.mem_of_getElem? (i := 46) rfl)
  show Go p e below (RetG s (Q_rdend_2_0 Z r a b kb bs cz h0 n0) 0 0) (s₁.setTop (entryFrame m #[(.ref r)] 1))
  rw [show entryFrame m #[(.ref r)] 1 = mkF m 0 #[.val (.ref r)] [] from by first | (simp [entryFrame, mkF, argsToLocals, Value.category]; done) | rfl]
  refine g_aloadN X0 hx hby d6_0 rfl rfl ?_
  refine g_getF X0 hx hby hZ hown (host := "") (Or.inl w40_) Via.refl e0 rP d6_1 (fun T1 X1 e1 => ?_)
  refine g_aloadN X1 hx hby d6_4 rfl rfl ?_
  refine g_getF X1 hx hby hZ hown (host := "") (Or.inl w33_) Via.refl e1 rT d6_5 (fun T2 X2 e2 => ?_)
  refine g_virtual X2 hx hby hZ hown (rm_slen_2 l Z a0 hw [] a b kb bs cz h0 n0 Z0 O2 P5 OLD E C VF VB) w42_ w43_ (notFace_of_selects (args := #[]) (mvT hZ w45_)) w45_ w44_ w7_ w46_ (by decide) e2 E (by rw [hml]; rfl) [] (lenOf own_pd6 rfl) rfl rfl (Nat.le_of_ble_eq_true rfl) (Nat.le_of_ble_eq_true rfl) (Nat.le_of_ble_eq_true rfl) (Nat.le_of_ble_eq_true rfl) d6_8 (fun v3 T3 L3 X3 hQ3 => ?_)
  obtain ⟨rfl, N3q, eh3⟩ := hQ3
  have N3 := Fr.app N0 N3q
  refine g_icY X3 hx hby 18 d6_11 (feq (by decide : ¬ ((0 : Int32) = (2 : Int32)))).2 (by decide) (by decide) ?_
  refine g_iconst X3 hx hby (0 : Int32) d6_18 rfl ?_
  refine g_nret X3 hx hby (t := .boolean) (by simp) Bd.returns Bd.notSynchronized d6_19 eh3 (by decide) (by decide) ?_
  show (Q_rdend_2_0 Z r a b kb bs cz h0 n0) (some (.int (0 : Int32))) _ _
  exact ⟨rfl, N3, rfl⟩

def Q_lchar_2 (Z : State) (b : Addr) (kb : ClassId) (bs : List Value) (j : Int32) (bv : Int32) (fz : Value) (h0 : Heap) (n0 : Nat) (v : Option Value) (h : Heap) (L : List Loc) : Prop := v = some (.int (nar .char ((bv &&& (255 : Int32)).toUInt32.toUInt16.toUInt32.toInt32))) ∧ Fr n0 L ∧ h = h0
set_option maxRecDepth 65536 in
set_option maxHeartbeats 40000000 in
theorem rm_lchar_2 (l : Launch) (Z : State) (a0 : Array Value) (hw : ∀ d ∈ tables_1, d.before a0 Z = true) (ws : List Jvm.Cond) (b : Addr) (kb : ClassId) (bs : List Value) (j : Int32) (bv : Int32) (fz : Value) (h0 : Heap) (n0 : Nat) (Z0 : n0 ≤ h0.size) (VB : Arv Z h0 b kb .byte (2 : Int32) bs (.int (0 : Int32))) (hj : ¬ j < 0 ∧ j < (2 : Int32)) (hv : bs.getD j.toNatClampNeg (.int (0 : Int32)) = .int bv) (rfz : Rf fz) (O4 : Sta Z Z.heap "jdk/internal/util/Preconditions" "SIOOBE_FORMATTER" "Ljava/util/function/BiFunction;" fz) (OLD : Old Z n0 h0) :
    MetFree l (⟨"java/lang/StringLatin1", "charAt", "([BI)C"⟩ : MethodName) (head1 (Jvm.Cond.code (⟨"java/lang/StringLatin1", "charAt", "([BI)C"⟩ : MethodName) jdk_43_method_2_code 2 (some .char) :: ws) ({ frames := 2, cells := 0, slots := 0, locals := 27 } : Room)) (fun aa_ U => aa_ = #[(.ref b), (.int j)] ∧ Z.Warmed39 U.vm ∧ U.heap = h0) (fun _ _ _ _ _ => True) (fun _ U o_ U' => RetG U (Q_lchar_2 Z b kb bs j bv fz h0 n0) 0 0 U' o_) := by
  refine MetFree.of_bodySF (plainFor_of_name own_pn5) hisR ?_
  intro p e s m args below meth c_ s₁ Bd hml0 hP hK
  obtain ⟨rfl, hZ, hh⟩ := hP
  have hx := Bd.exec
  have hby := Bd.bytes
  have hml : c_.maxLocals = 2 := hml0
  have hown : s.vm.findClass "java/lang/StringLatin1" = some m.cls := findClass_of_methodNamed Bd.named
  have hnm := (name_of_methodNamed Bd.named Bd.method).1
  have X0 : Stand p l e ({ frames := 2, cells := 0, slots := 0, locals := 27 } : Room) s m #[(.ref b), (.int j)] below meth c_ s₁ [] 0 0 := Stand.of_body Bd
  have e0 : s₁.heap = h0 := by rw [← hh, Bd.state]; rfl
  have N0 := Fr.nil n0
  have w7_ := hw _ (List.mem_of_getElem? (i := 7) rfl)
  have w95_ := hw _ (List.mem_of_getElem? (i := 95) rfl)
  have w96_ := hw _ (List.mem_of_getElem? (i := 96) rfl)
  have w97_ := hw _ (List.mem_of_getElem? (i := 97) rfl)
  show Go p e below (RetG s (Q_lchar_2 Z b kb bs j bv fz h0 n0) 0 0) (s₁.setTop (entryFrame m #[(.ref b), (.int j)] 2))
  rw [show entryFrame m #[(.ref b), (.int j)] 2 = mkF m 0 #[.val (.ref b), .val (.int j)] [] from by first | (simp [entryFrame, mkF, argsToLocals, Value.category]; done) | rfl]
  refine g_iloadN X0 hx hby d18_0 rfl ?_
  refine g_aloadN X0 hx hby d18_1 rfl rfl ?_
  refine g_arraylength X0 hx hby hZ e0 VB d18_2 ?_
  refine g_static X0 hx hby hZ hown (rm_schk l Z a0 hw [] j (2 : Int32) fz h0 n0 Z0 hj rfz O4 OLD) w95_ w96_ w7_ w97_ (by decide) e0 (by rw [hml]; rfl) [(.int j), (.int (2 : Int32))] (lenOf own_pd11 rfl) rfl rfl (Nat.le_of_ble_eq_true rfl) (Nat.le_of_ble_eq_true rfl) (Nat.le_of_ble_eq_true rfl) (Nat.le_of_ble_eq_true rfl) d18_3 (fun v1 T1 L1 X1 hQ1 => ?_)
  obtain ⟨rfl, N1q, eh1⟩ := hQ1
  have N1 := Fr.app N0 N1q
  refine g_aloadN X1 hx hby d18_6 rfl rfl ?_
  refine g_iloadN X1 hx hby d18_7 rfl ?_
  refine g_baload X1 hx hby hZ eh1 VB (.int bv) hj hv d18_8 ?_
  refine g_sipush X1 hx hby (255 : Int32) d18_9 rfl ?_
  refine g_iand X1 hx hby d18_12 ?_
  refine g_i2c X1 hx hby d18_13 ?_
  refine g_nret X1 hx hby (t := .char) (by simp) Bd.returns Bd.notSynchronized d18_14 eh1 (by decide) (by decide) ?_
  show (Q_lchar_2 Z b kb bs j bv fz h0 n0) (some (.int (nar .char ((bv &&& (255 : Int32)).toUInt32.toUInt16.toUInt32.toInt32)))) _ _
  exact ⟨rfl, N1, rfl⟩

def Q_schar_2 (Z : State) (a : Addr) (b : Addr) (kb : ClassId) (bs : List Value) (j : Int32) (bv : Int32) (fz : Value) (cz : Int32) (h0 : Heap) (n0 : Nat) (v : Option Value) (h : Heap) (L : List Loc) : Prop := v = some (.int (nar .char (nar .char ((bv &&& (255 : Int32)).toUInt32.toUInt16.toUInt32.toInt32)))) ∧ Fr n0 L ∧ h = h0
set_option maxRecDepth 65536 in
set_option maxHeartbeats 40000000 in
theorem rm_schar_2 (l : Launch) (Z : State) (a0 : Array Value) (hw : ∀ d ∈ tables_1, d.before a0 Z = true) (ws : List Jvm.Cond) (a : Addr) (b : Addr) (kb : ClassId) (bs : List Value) (j : Int32) (bv : Int32) (fz : Value) (cz : Int32) (h0 : Heap) (n0 : Nat) (Z0 : n0 ≤ h0.size) (O2 : Sta Z Z.heap "java/lang/String" "COMPACT_STRINGS" "Z" (.int cz)) (P5 : ¬ cz = (0 : Int32)) (OLD : Old Z n0 h0) (E : Exa Z h0 a "java/lang/String") (C : Fld Z h0 a "java/lang/String" "coder" "B" (.int (0 : Int32))) (VF : Fld Z h0 a "java/lang/String" "value" "[B" (.ref b)) (VB : Arv Z h0 b kb .byte (2 : Int32) bs (.int (0 : Int32))) (hj : ¬ j < 0 ∧ j < (2 : Int32)) (hv : bs.getD j.toNatClampNeg (.int (0 : Int32)) = .int bv) (rfz : Rf fz) (O4 : Sta Z Z.heap "jdk/internal/util/Preconditions" "SIOOBE_FORMATTER" "Ljava/util/function/BiFunction;" fz) :
    MetFree l (⟨"java/lang/String", "charAt", "(I)C"⟩ : MethodName) (head1 (Jvm.Cond.code (⟨"java/lang/String", "charAt", "(I)C"⟩ : MethodName) jdk_42_method_56_code 2 (some .char) :: ws) ({ frames := 3, cells := 0, slots := 0, locals := 40 } : Room)) (fun aa_ U => aa_ = #[(.ref a), (.int j)] ∧ Z.Warmed39 U.vm ∧ U.heap = h0) (fun _ _ _ _ _ => True) (fun _ U o_ U' => RetG U (Q_schar_2 Z a b kb bs j bv fz cz h0 n0) 0 0 U' o_) := by
  refine MetFree.of_bodySF (plainFor_of_name own_pn0) hisR ?_
  intro p e s m args below meth c_ s₁ Bd hml0 hP hK
  obtain ⟨rfl, hZ, hh⟩ := hP
  have hx := Bd.exec
  have hby := Bd.bytes
  have hml : c_.maxLocals = 2 := hml0
  have hown : s.vm.findClass "java/lang/String" = some m.cls := findClass_of_methodNamed Bd.named
  have hnm := (name_of_methodNamed Bd.named Bd.method).1
  have X0 : Stand p l e ({ frames := 3, cells := 0, slots := 0, locals := 40 } : Room) s m #[(.ref a), (.int j)] below meth c_ s₁ [] 0 0 := Stand.of_body Bd
  have e0 : s₁.heap = h0 := by rw [← hh, Bd.state]; rfl
  have N0 := Fr.nil n0
  have w7_ := hw _ (List.mem_of_getElem? (i := 7) rfl)
  have w24_ := hw _ (List.mem_of_getElem? (i := 24) rfl)
  have w86_ := hw _ (List.mem_of_getElem? (i := 86) rfl)
  have w87_ := hw _ (List.mem_of_getElem? (i := 87) rfl)
  have w88_ := hw _ (List.mem_of_getElem? (i := 88) rfl)
  have w89_ := hw _ (List.mem_of_getElem? (i := 89) rfl)
  have w90_ := hw _ (List.mem_of_getElem? (i := 90) rfl)
  have w91_ := hw _ (List.mem_of_getElem? (i := 91) rfl)
  have w92_ := hw _ (List.mem_of_getElem? (i := 92) rfl)
  have w93_ := hw _ (List.mem_of_getElem? (i := 93) rfl)
  have w94_ := hw _ (List.mem_of_getElem? (i := 94) rfl)
  show Go p e below (RetG s (Q_schar_2 Z a b kb bs j bv fz cz h0 n0) 0 0) (s₁.setTop (entryFrame m #[(.ref a), (.int j)] 2))
  rw [show entryFrame m #[(.ref a), (.int j)] 2 = mkF m 0 #[.val (.ref a), .val (.int j)] [] from by first | (simp [entryFrame, mkF, argsToLocals, Value.category]; done) | rfl]
  refine g_aloadN X0 hx hby d16_0 rfl rfl ?_
  refine g_virtual X0 hx hby hZ hown (rm_islat l Z a0 hw [] a cz h0 n0 Z0 O2 P5 OLD C) w86_ w87_ (notFace_of_selects (args := #[]) (mvT hZ w89_)) w89_ w88_ w7_ w90_ (by decide) e0 E (by rw [hml]; rfl) [] (lenOf own_pd7 rfl) rfl rfl (Nat.le_of_ble_eq_true rfl) (Nat.le_of_ble_eq_true rfl) (Nat.le_of_ble_eq_true rfl) (Nat.le_of_ble_eq_true rfl) d16_1 (fun v1 T1 L1 X1 hQ1 => ?_)
  obtain ⟨rfl, N1q, eh1⟩ := hQ1
  have N1 := Fr.app N0 N1q
  refine g_ifN X1 hx hby d16_4 (feq (by decide : ¬ ((1 : Int32) = (0 : Int32)))).1 ?_
  refine g_aloadN X1 hx hby d16_7 rfl rfl ?_
  refine g_getF X1 hx hby hZ hown (host := "") (Or.inl w24_) Via.refl eh1 VF d16_8 (fun T2 X2 e2 => ?_)
  refine g_iloadN X2 hx hby d16_11 rfl ?_
  refine g_static X2 hx hby hZ hown (rm_lchar_2 l Z a0 hw [] b kb bs j bv fz h0 n0 Z0 VB hj hv rfz O4 OLD) w91_ w92_ w93_ w94_ (by decide) e2 (by rw [hml]; rfl) [(.ref b), (.int j)] (lenOf own_pd12 rfl) rfl rfl (Nat.le_of_ble_eq_true rfl) (Nat.le_of_ble_eq_true rfl) (Nat.le_of_ble_eq_true rfl) (Nat.le_of_ble_eq_true rfl) d16_12 (fun v3 T3 L3 X3 hQ3 => ?_)
  obtain ⟨rfl, N3q, eh3⟩ := hQ3
  have N3 := Fr.app N1 N3q
  refine g_nret X3 hx hby (t := .char) (by simp) Bd.returns Bd.notSynchronized d16_15 eh3 (by decide) (by decide) ?_
  show (Q_schar_2 Z a b kb bs j bv fz cz h0 n0) (some (.int (nar .char (nar .char ((bv &&& (255 : Int32)).toUInt32.toUInt16.toUInt32.toInt32))))) _ _
  exact ⟨rfl, N3, rfl⟩

def Q_rdat_2_0 (Z : State) (r : Addr) (a : Addr) (b : Addr) (kb : ClassId) (bs : List Value) (cz : Int32) (c : Int32) (bv : Int32) (fz : Value) (h0 : Heap) (n0 : Nat) (v : Option Value) (h : Heap) (L : List Loc) : Prop := v = some (.int (1 : Int32)) ∧ Fr n0 L ∧ h = h0
set_option maxRecDepth 65536 in
set_option maxHeartbeats 40000000 in
theorem rm_rdat_2_0 (l : Launch) (Z : State) (a0 : Array Value) (hw : ∀ d ∈ tables_1, d.before a0 Z = true) (ws : List Jvm.Cond) (r : Addr) (a : Addr) (b : Addr) (kb : ClassId) (bs : List Value) (cz : Int32) (c : Int32) (bv : Int32) (fz : Value) (h0 : Heap) (n0 : Nat) (Z0 : n0 ≤ h0.size) (O2 : Sta Z Z.heap "java/lang/String" "COMPACT_STRINGS" "Z" (.int cz)) (P5 : ¬ cz = (0 : Int32)) (OLD : Old Z n0 h0) (E : Exa Z h0 a "java/lang/String") (C : Fld Z h0 a "java/lang/String" "coder" "B" (.int (0 : Int32))) (VF : Fld Z h0 a "java/lang/String" "value" "[B" (.ref b)) (VB : Arv Z h0 b kb .byte (2 : Int32) bs (.int (0 : Int32))) (rE : Exa Z h0 r "com/example/pathloom/pathloom/web/MediaType$Reader") (rT : Fld Z h0 r "com/example/pathloom/pathloom/web/MediaType$Reader" "text" "Ljava/lang/String;" (.ref a)) (rP : Fld Z h0 r "com/example/pathloom/pathloom/web/MediaType$Reader" "position" "I" (.int (0 : Int32))) (hv : bs.getD 0 (.int (0 : Int32)) = .int bv) (hcb : nar .char (nar .char ((bv &&& (255 : Int32)).toUInt32.toUInt16.toUInt32.toInt32)) = c) (rfz : Rf fz) (O4 : Sta Z Z.heap "jdk/internal/util/Preconditions" "SIOOBE_FORMATTER" "Ljava/util/function/BiFunction;" fz) :
    MetFree l (⟨"com/example/pathloom/pathloom/web/MediaType$Reader", "at", "(C)Z"⟩ : MethodName) (head1 (Jvm.Cond.code (⟨"com/example/pathloom/pathloom/web/MediaType$Reader", "at", "(C)Z"⟩ : MethodName) prog_35_method_4_code 2 (some .boolean) :: ws) ({ frames := 4, cells := 0, slots := 0, locals := 53 } : Room)) (fun aa_ U => aa_ = #[(.ref r), (.int c)] ∧ Z.Warmed39 U.vm ∧ U.heap = h0) (fun _ _ _ _ _ => True) (fun _ U o_ U' => RetG U (Q_rdat_2_0 Z r a b kb bs cz c bv fz h0 n0) 0 0 U' o_) := by
  refine MetFree.of_bodySF (plainFor_of_name own_pn3) hisR ?_
  intro p e s m args below meth c_ s₁ Bd hml0 hP hK
  obtain ⟨rfl, hZ, hh⟩ := hP
  have hx := Bd.exec
  have hby := Bd.bytes
  have hml : c_.maxLocals = 2 := hml0
  have hown : s.vm.findClass "com/example/pathloom/pathloom/web/MediaType$Reader" = some m.cls := findClass_of_methodNamed Bd.named
  have hnm := (name_of_methodNamed Bd.named Bd.method).1
  have X0 : Stand p l e ({ frames := 4, cells := 0, slots := 0, locals := 53 } : Room) s m #[(.ref r), (.int c)] below meth c_ s₁ [] 0 0 := Stand.of_body Bd
  have e0 : s₁.heap = h0 := by rw [← hh, Bd.state]; rfl
  have N0 := Fr.nil n0
  have w7_ := hw _ (List.mem_of_getElem? (i := 7) rfl)
  have w28_ := hw _ (List.mem_of_getElem? (i := 28) rfl)
  have w33_ := hw _ (List.mem_of_getElem? (i := 33) rfl)
  have w36_ := hw _ (List.mem_of_getElem? (i := 36) rfl)
  have w37_ := hw _ (List.mem_of_getElem? (i := 37) rfl)
  have w38_ := hw _ (List.mem_of_getElem? (i := 38) rfl)
  have w39_ := hw _ (List.mem_of_getElem? (i := 39) rfl)
  have w40_ := hw _ (List.mem_of_getElem? (i := 40) rfl)
  have w66_ := hw _ (List.mem_of_getElem? (i := 66) rfl)
  have w81_ := hw _ (List.mem_of_getElem? (i := 81) rfl)
  have w82_ := hw _ (List.mem_of_getElem? (i := 82) rfl)
  have w83_ := hw _ (List.mem_of_getElem? (i := 83) rfl)
  have w84_ := hw _ (List.mem_of_getElem? (i := 84) rfl)
  have w85_ := hw _ (List.mem_of_getElem? (i := 85) rfl)
  show Go p e below (RetG s (Q_rdat_2_0 Z r a b kb bs cz c bv fz h0 n0) 0 0) (s₁.setTop (entryFrame m #[(.ref r), (.int c)] 2))
  rw [show entryFrame m #[(.ref r), (.int c)] 2 = mkF m 0 #[.val (.ref r), .val (.int c)] [] from by first | (simp [entryFrame, mkF, argsToLocals, Value.category]; done) | rfl]
  refine g_aloadN X0 hx hby d11_0 rfl rfl ?_
  refine g_virtual X0 hx hby hZ hown (rm_rdend_2_0 l Z a0 hw [] r a b kb bs cz h0 n0 Z0 O2 P5 OLD E C VF VB rE rT rP) w66_ w36_ (notFace_of_selects (args := #[]) (mvT hZ w38_)) w38_ w37_ w28_ w39_ (by decide) e0 rE (by rw [hml]; rfl) [] (lenOf own_pd7 rfl) rfl rfl (Nat.le_of_ble_eq_true rfl) (Nat.le_of_ble_eq_true rfl) (Nat.le_of_ble_eq_true rfl) (Nat.le_of_ble_eq_true rfl) d11_1 (fun v1 T1 L1 X1 hQ1 => ?_)
  obtain ⟨rfl, N1q, eh1⟩ := hQ1
  have N1 := Fr.app N0 N1q
  refine g_ifN X1 hx hby d11_4 (teq (by decide : (0 : Int32) = (0 : Int32))).2 ?_
  refine g_aloadN X1 hx hby d11_7 rfl rfl ?_
  refine g_getF X1 hx hby hZ hown (host := "") (Or.inl w33_) Via.refl eh1 rT d11_8 (fun T2 X2 e2 => ?_)
  refine g_aloadN X2 hx hby d11_11 rfl rfl ?_
  refine g_getF X2 hx hby hZ hown (host := "") (Or.inl w40_) Via.refl e2 rP d11_12 (fun T3 X3 e3 => ?_)
  refine g_virtual X3 hx hby hZ hown (rm_schar_2 l Z a0 hw [] a b kb bs (0 : Int32) bv fz cz h0 n0 Z0 O2 P5 OLD E C VF VB ⟨by decide, by decide⟩ hv rfz O4) w81_ w82_ (notFace_of_selects (args := #[]) (mvT hZ w84_)) w84_ w83_ w7_ w85_ (by decide) e3 E (by rw [hml]; rfl) [(.int (0 : Int32))] (lenOf own_pd13 rfl) rfl rfl (Nat.le_of_ble_eq_true rfl) (Nat.le_of_ble_eq_true rfl) (Nat.le_of_ble_eq_true rfl) (Nat.le_of_ble_eq_true rfl) d11_15 (fun v4 T4 L4 X4 hQ4 => ?_)
  obtain ⟨rfl, N4q, eh4⟩ := hQ4
  have N4 := Fr.app N1 N4q
  refine g_topI (T := T4) c hcb ?_
  refine g_iloadN X4 hx hby d11_18 rfl ?_
  refine g_icN X4 hx hby d11_19 (teq (rfl : c = c)).2 ?_
  refine g_iconst X4 hx hby (1 : Int32) d11_22 rfl ?_
  refine g_goto X4 hx hby 27 d11_23 (by decide) (by decide) ?_
  refine g_nret X4 hx hby (t := .boolean) (by simp) Bd.returns Bd.notSynchronized d11_27 eh4 (by decide) (by decide) ?_
  show (Q_rdat_2_0 Z r a b kb bs cz c bv fz h0 n0) (some (.int (1 : Int32))) _ _
  exact ⟨rfl, N4, rfl⟩

def Q_rdtake_2_0 (Z : State) (r : Addr) (a : Addr) (b : Addr) (kb : ClassId) (bs : List Value) (cz : Int32) (c : Int32) (bv : Int32) (fz : Value) (h0 : Heap) (n0 : Nat) (v : Option Value) (h : Heap) (L : List Loc) : Prop := v = some (.int (1 : Int32)) ∧ Fr n0 L ∧ Keep h0 h [r] ∧ Exa Z h r "com/example/pathloom/pathloom/web/MediaType$Reader" ∧ Fld Z h r "com/example/pathloom/pathloom/web/MediaType$Reader" "text" "Ljava/lang/String;" (.ref a) ∧ Fld Z h r "com/example/pathloom/pathloom/web/MediaType$Reader" "position" "I" (.int (1 : Int32))
set_option maxRecDepth 65536 in
set_option maxHeartbeats 40000000 in
theorem rm_rdtake_2_0 (l : Launch) (Z : State) (a0 : Array Value) (hw : ∀ d ∈ tables_1, d.before a0 Z = true) (ws : List Jvm.Cond) (r : Addr) (a : Addr) (b : Addr) (kb : ClassId) (bs : List Value) (cz : Int32) (c : Int32) (bv : Int32) (fz : Value) (h0 : Heap) (n0 : Nat) (Z0 : n0 ≤ h0.size) (O2 : Sta Z Z.heap "java/lang/String" "COMPACT_STRINGS" "Z" (.int cz)) (P5 : ¬ cz = (0 : Int32)) (OLD : Old Z n0 h0) (E : Exa Z h0 a "java/lang/String") (C : Fld Z h0 a "java/lang/String" "coder" "B" (.int (0 : Int32))) (VF : Fld Z h0 a "java/lang/String" "value" "[B" (.ref b)) (VB : Arv Z h0 b kb .byte (2 : Int32) bs (.int (0 : Int32))) (rE : Exa Z h0 r "com/example/pathloom/pathloom/web/MediaType$Reader") (rT : Fld Z h0 r "com/example/pathloom/pathloom/web/MediaType$Reader" "text" "Ljava/lang/String;" (.ref a)) (rP : Fld Z h0 r "com/example/pathloom/pathloom/web/MediaType$Reader" "position" "I" (.int (0 : Int32))) (hv : bs.getD 0 (.int (0 : Int32)) = .int bv) (hcb : nar .char (nar .char ((bv &&& (255 : Int32)).toUInt32.toUInt16.toUInt32.toInt32)) = c) (rfz : Rf fz) (O4 : Sta Z Z.heap "jdk/internal/util/Preconditions" "SIOOBE_FORMATTER" "Ljava/util/function/BiFunction;" fz) (gr : n0 ≤ r) (nra : r ≠ a) (nrb : r ≠ b) :
    MetFree l (⟨"com/example/pathloom/pathloom/web/MediaType$Reader", "take", "(C)Z"⟩ : MethodName) (head1 (Jvm.Cond.code (⟨"com/example/pathloom/pathloom/web/MediaType$Reader", "take", "(C)Z"⟩ : MethodName) prog_35_method_5_code 3 (some .boolean) :: ws) ({ frames := 5, cells := 0, slots := 0, locals := 66 } : Room)) (fun aa_ U => aa_ = #[(.ref r), (.int c)] ∧ Z.Warmed39 U.vm ∧ U.heap = h0) (fun _ _ _ _ _ => True) (fun _ U o_ U' => RetG U (Q_rdtake_2_0 Z r a b kb bs cz c bv fz h0 n0) 0 0 U' o_) := by
  refine MetFree.of_bodySF (plainFor_of_name own_pn3) hisR ?_
  intro p e s m args below meth c_ s₁ Bd hml0 hP hK
  obtain ⟨rfl, hZ, hh⟩ := hP
  have hx := Bd.exec
  have hby := Bd.bytes
  have hml : c_.maxLocals = 3 := hml0
  have hown : s.vm.findClass "com/example/pathloom/pathloom/web/MediaType$Reader" = some m.cls := findClass_of_methodNamed Bd.named
  have hnm := (name_of_methodNamed Bd.named Bd.method).1
  have X0 : Stand p l e ({ frames := 5, cells := 0, slots := 0, locals := 66 } : Room) s m #[(.ref r), (.int c)] below meth c_ s₁ [] 0 0 := Stand.of_body Bd
  have e0 : s₁.heap = h0 := by rw [← hh, Bd.state]; rfl
  have N0 := Fr.nil n0
  have w27_ := hw _ (List.mem_of_getElem? (i := 27) rfl)
  have w28_ := hw _ (List.mem_of_getElem? (i := 28) rfl)
  have w34_ := hw _ (List.mem_of_getElem? (i := 34) rfl)
  have w40_ := hw _ (List.mem_of_getElem? (i := 40) rfl)
  have w41_ := hw _ (List.mem_of_getElem? (i := 41) rfl)
  have w61_ := hw _ (List.mem_of_getElem? (i := 61) rfl)
  have w62_ := hw _ (List.mem_of_getElem? (i := 62) rfl)
  have w63_ := hw _ (List.mem_of_getElem? (i := 63) rfl)
  have w64_ := hw _ (List.mem_of_getElem? (i := 64) rfl)
  have w65_ := hw _ (List.mem_of_getElem? (i := 65) rfl)
  show Go p e below (RetG s (Q_rdtake_2_0 Z r a b kb bs cz c bv fz h0 n0) 0 0) (s₁.setTop (entryFrame m #[(.ref r), (.int c)] 3))
  rw [show entryFrame m #[(.ref r), (.int c)] 3 = mkF m 0 #[.val (.ref r), .val (.int c), .unset] [] from by first | (simp [entryFrame, mkF, argsToLocals, Value.category]; done) | rfl]
  refine g_aloadN X0 hx hby d10_0 rfl rfl ?_
  refine g_iloadN X0 hx hby d10_1 rfl ?_
  refine g_virtual X0 hx hby hZ hown (rm_rdat_2_0 l Z a0 hw [] r a b kb bs cz c bv fz h0 n0 Z0 O2 P5 OLD E C VF VB rE rT rP hv hcb rfz O4) w61_ w62_ (notFace_of_selects (args := #[]) (mvT hZ w64_)) w64_ w63_ w28_ w65_ (by decide) e0 rE (by rw [hml]; rfl) [(.int c)] (lenOf own_pd8 rfl) rfl rfl (Nat.le_of_ble_eq_true rfl) (Nat.le_of_ble_eq_true rfl) (Nat.le_of_ble_eq_true rfl) (Nat.le_of_ble_eq_true rfl) d10_2 (fun v1 T1 L1 X1 hQ1 => ?_)
  obtain ⟨rfl, N1q, eh1⟩ := hQ1
  have N1 := Fr.app N0 N1q
  refine g_istoreN X1 hx hby d10_5 (l' := #[.val (.ref r), .val (.int c), .val (.int (1 : Int32))]) rfl ?_
  refine g_iloadN X1 hx hby d10_6 rfl ?_
  refine g_ifN X1 hx hby d10_7 (feq (by decide : ¬ ((1 : Int32) = (0 : Int32)))).1 ?_
  refine g_aloadN X1 hx hby d10_10 rfl rfl ?_
  refine g_dup X1 hx hby d10_11 rfl ?_
  refine g_getF X1 hx hby hZ hown (host := "") (Or.inl w40_) Via.refl eh1 rP d10_12 (fun T2 X2 e2 => ?_)
  refine g_iconst X2 hx hby (1 : Int32) d10_15 rfl ?_
  refine g_iadd X2 hx hby d10_16 ?_
  refine g_topI (1 : Int32) (by decide) ?_
  refine g_putF X2 hx hby hZ hown (host := "") (Or.inl w40_) Via.refl e2 rP rE (Or.inl w41_) w27_ .int (by decide) rfl rfl N1 gr d10_17 (fun T3 h3 X3 e3 W3 F3 N3 => ?_)
  refine g_iloadN X3 hx hby d10_20 rfl ?_
  have f4 := (rE.wr W3)
  have f5 := (rT.other W3 (Or.inr (slot_ne (Or.inr w34_) (Or.inl w41_) (by decide) (t := (.object "java/lang/String")) (t' := .int) (by decide) (by decide))))
  refine g_nret X3 hx hby (t := .boolean) (by simp) Bd.returns Bd.notSynchronized d10_21 e3 (by decide) (by decide) ?_
  show (Q_rdtake_2_0 Z r a b kb bs cz c bv fz h0 n0) (some (.int (1 : Int32))) _ _
  exact ⟨rfl, N3, ((Keep.refl h0 [r]).wr W3 (Or.inl (List.mem_of_getElem? (i := 0) rfl))), f4, f5, F3⟩

def Q_rdend_2_1 (Z : State) (r : Addr) (a : Addr) (b : Addr) (kb : ClassId) (bs : List Value) (cz : Int32) (h0 : Heap) (n0 : Nat) (v : Option Value) (h : Heap) (L : List Loc) : Prop := v = some (.int (0 : Int32)) ∧ Fr n0 L ∧ h = h0
set_option maxRecDepth 65536 in
set_option maxHeartbeats 40000000 in
theorem rm_rdend_2_1 (l : Launch) (Z : State) (a0 : Array Value) (hw : ∀ d ∈ tables_1, d.before a0 Z = true) (ws : List Jvm.Cond) (r : Addr) (a : Addr) (b : Addr) (kb : ClassId) (bs : List Value) (cz : Int32) (h0 : Heap) (n0 : Nat) (Z0 : n0 ≤ h0.size) (O2 : Sta Z Z.heap "java/lang/String" "COMPACT_STRINGS" "Z" (.int cz)) (P5 : ¬ cz = (0 : Int32)) (OLD : Old Z n0 h0) (E : Exa Z h0 a "java/lang/String") (C : Fld Z h0 a "java/lang/String" "coder" "B" (.int (0 : Int32))) (VF : Fld Z h0 a "java/lang/String" "value" "[B" (.ref b)) (VB : Arv Z h0 b kb .byte (2 : Int32) bs (.int (0 : Int32))) (rE : Exa Z h0 r "com/example/pathloom/pathloom/web/MediaType$Reader") (rT : Fld Z h0 r "com/example/pathloom/pathloom/web/MediaType$Reader" "text" "Ljava/lang/String;" (.ref a)) (rP : Fld Z h0 r "com/example/pathloom/pathloom/web/MediaType$Reader" "position" "I" (.int (1 : Int32))) :
    MetFree l (⟨"com/example/pathloom/pathloom/web/MediaType$Reader", "atEnd", "()Z"⟩ : MethodName) (head1 (Jvm.Cond.code (⟨"com/example/pathloom/pathloom/web/MediaType$Reader", "atEnd", "()Z"⟩ : MethodName) prog_35_method_2_code 1 (some .boolean) :: ws) ({ frames := 2, cells := 0, slots := 0, locals := 26 } : Room)) (fun aa_ U => aa_ = #[(.ref r)] ∧ Z.Warmed39 U.vm ∧ U.heap = h0) (fun _ _ _ _ _ => True) (fun _ U o_ U' => RetG U (Q_rdend_2_1 Z r a b kb bs cz h0 n0) 0 0 U' o_) := by
  refine MetFree.of_bodySF (plainFor_of_name own_pn3) hisR ?_
  intro p e s m args below meth c_ s₁ Bd hml0 hP hK
  obtain ⟨rfl, hZ, hh⟩ := hP
  have hx := Bd.exec
  have hby := Bd.bytes
  have hml : c_.maxLocals = 1 := hml0
  have hown : s.vm.findClass "com/example/pathloom/pathloom/web/MediaType$Reader" = some m.cls := findClass_of_methodNamed Bd.named
  have hnm := (name_of_methodNamed Bd.named Bd.method).1
  have X0 : Stand p l e ({ frames := 2, cells := 0, slots := 0, locals := 26 } : Room) s m #[(.ref r)] below meth c_ s₁ [] 0 0 := Stand.of_body Bd
  have e0 : s₁.heap = h0 := by rw [← hh, Bd.state]; rfl
  have N0 := Fr.nil n0
  have w7_ := hw _ (List.mem_of_getElem? (i := 7) rfl)
  have w33_ := hw _ (List.mem_of_getElem? (i := 33) rfl)
  have w40_ := hw _ (List.mem_of_getElem? (i := 40) rfl)
  have w42_ := hw _ (List.mem_of_getElem? (i := 42) rfl)
  have w43_ := hw _ (List.mem_of_getElem? (i := 43) rfl)
  have w44_ := hw _ (List.mem_of_getElem? (i := 44) rfl)
  have w45_ := hw _ (List.mem_of_getElem? (i := 45) rfl)
  have w46_ := hw _ (List.mem_of_getElem? (i := 46) rfl)
  show Go p e below (RetG s (Q_rdend_2_1 Z r a b kb bs cz h0 n0) 0 0) (s₁.setTop (entryFrame m #[(.ref r)] 1))
  rw [show entryFrame m #[(.ref r)] 1 = mkF m 0 #[.val (.ref r)] [] from by first | (simp [entryFrame, mkF, argsToLocals, Value.category]; done) | rfl]
  refine g_aloadN X0 hx hby d6_0 rfl rfl ?_
  refine g_getF X0 hx hby hZ hown (host := "") (Or.inl w40_) Via.refl e0 rP d6_1 (fun T1 X1 e1 => ?_)
  refine g_aloadN X1 hx hby d6_4 rfl rfl ?_
  refine g_getF X1 hx hby hZ hown (host := "") (Or.inl w33_) Via.refl e1 rT d6_5 (fun T2 X2 e2 => ?_)
  refine g_virtual X2 hx hby hZ hown (rm_slen_2 l Z a0 hw [] a b kb bs cz h0 n0 Z0 O2 P5 OLD E C VF VB) w42_ w43_ (notFace_of_selects (args := #[]) (mvT hZ w45_)) w45_ w44_ w7_ w46_ (by decide) e2 E (by rw [hml]; rfl) [] (lenOf own_pd6 rfl) rfl rfl (Nat.le_of_ble_eq_true rfl) (Nat.le_of_ble_eq_true rfl) (Nat.le_of_ble_eq_true rfl) (Nat.le_of_ble_eq_true rfl) d6_8 (fun v3 T3 L3 X3 hQ3 => ?_)
  obtain ⟨rfl, N3q, eh3⟩ := hQ3
  have N3 := Fr.app N0 N3q
  refine g_icY X3 hx hby 18 d6_11 (feq (by decide : ¬ ((1 : Int32) = (2 : Int32)))).2 (by decide) (by decide) ?_
  refine g_iconst X3 hx hby (0 : Int32) d6_18 rfl ?_
  refine g_nret X3 hx hby (t := .boolean) (by simp) Bd.returns Bd.notSynchronized d6_19 eh3 (by decide) (by decide) ?_
  show (Q_rdend_2_1 Z r a b kb bs cz h0 n0) (some (.int (0 : Int32))) _ _
  exact ⟨rfl, N3, rfl⟩

theorem d9_47 : decode method_4_code 47 = .ok (.iconst 0, 1) := by decide +kernel
def Q_step20 (Z : State) (r : Addr) (a : Addr) (b : Addr) (kb : ClassId) (cz : Int32) (al : Addr) (ka : ClassId) (c0 : Int32) (c1 : Int32) (c2 : Int32) (fz : Value) (h0 : Heap) (n0 : Nat) (v : Option Value) (h : Heap) (L : List Loc) : Prop := v = some (.int (1 : Int32)) ∧ Fr n0 L ∧ Keep h0 h [r] ∧ Exa Z h r "com/example/pathloom/pathloom/web/MediaType$Reader" ∧ Fld Z h r "com/example/pathloom/pathloom/web/MediaType$Reader" "text" "Ljava/lang/String;" (.ref a) ∧ Fld Z h r "com/example/pathloom/pathloom/web/MediaType$Reader" "position" "I" (.int (1 : Int32))
set_option maxRecDepth 65536 in
set_option maxHeartbeats 40000000 in
theorem rm_step20 (l : Launch) (Z : State) (a0 : Array Value) (hw : ∀ d ∈ tables_1, d.before a0 Z = true) (ws : List Jvm.Cond) (r : Addr) (a : Addr) (b : Addr) (kb : ClassId) (cz : Int32) (al : Addr) (ka : ClassId) (c0 : Int32) (c1 : Int32) (c2 : Int32) (fz : Value) (h0 : Heap) (n0 : Nat) (Z0 : n0 ≤ h0.size) (O2 : Sta Z Z.heap "java/lang/String" "COMPACT_STRINGS" "Z" (.int cz)) (P5 : ¬ cz = (0 : Int32)) (OLD : Old Z n0 h0) (E : Exa Z h0 a "java/lang/String") (C : Fld Z h0 a "java/lang/String" "coder" "B" (.int (0 : Int32))) (VF : Fld Z h0 a "java/lang/String" "value" "[B" (.ref b)) (VB : Arv Z h0 b kb .byte (2 : Int32) [(.int (nar .byte ((nar .char c0).toInt8.toInt32))), (.int (nar .byte ((nar .char c1).toInt8.toInt32)))] (.int (0 : Int32))) (rE : Exa Z h0 r "com/example/pathloom/pathloom/web/MediaType$Reader") (rT : Fld Z h0 r "com/example/pathloom/pathloom/web/MediaType$Reader" "text" "Ljava/lang/String;" (.ref a)) (rP : Fld Z h0 r "com/example/pathloom/pathloom/web/MediaType$Reader" "position" "I" (.int (0 : Int32))) (VA : Arv Z h0 al ka .char (3 : Int32) [(.int c0), (.int c1), (.int c2)] (.int (0 : Int32))) (hc0 : 0 ≤ c0.toInt ∧ c0.toInt ≤ 255) (hc1 : 0 ≤ c1.toInt ∧ c1.toInt ≤ 255) (hc2 : 0 ≤ c2.toInt ∧ c2.toInt ≤ 255) (rfz : Rf fz) (O4 : Sta Z Z.heap "jdk/internal/util/Preconditions" "SIOOBE_FORMATTER" "Ljava/util/function/BiFunction;" fz) (gr : n0 ≤ r) (nra : r ≠ a) (nrb : r ≠ b) :
    MetFree l (⟨"com/example/pathloom/pathloom/web/ReaderAtEndPinLaw", "step", "(Lcom/example/pathloom/pathloom/web/MediaType$Reader;II[C)Z"⟩ : MethodName) (head1 (Jvm.Cond.code (⟨"com/example/pathloom/pathloom/web/ReaderAtEndPinLaw", "step", "(Lcom/example/pathloom/pathloom/web/MediaType$Reader;II[C)Z"⟩ : MethodName) method_4_code 6 (some .boolean) :: ws) ({ frames := 6, cells := 0, slots := 0, locals := 80 } : Room)) (fun aa_ U => aa_ = #[(.ref r), (.int (0 : Int32)), (.int (2 : Int32)), (.ref al)] ∧ Z.Warmed39 U.vm ∧ U.heap = h0) (fun _ _ _ _ _ => True) (fun _ U o_ U' => RetG U (Q_step20 Z r a b kb cz al ka c0 c1 c2 fz h0 n0) 0 0 U' o_) := by
  refine MetFree.of_bodySF (plainFor_of_name own_pn1) hisR ?_
  intro p e s m args below meth c_ s₁ Bd hml0 hP hK
  obtain ⟨rfl, hZ, hh⟩ := hP
  have hx := Bd.exec
  have hby := Bd.bytes
  have hml : c_.maxLocals = 6 := hml0
  have hown : s.vm.findClass "com/example/pathloom/pathloom/web/ReaderAtEndPinLaw" = some m.cls := findClass_of_methodNamed Bd.named
  have hnm := (name_of_methodNamed Bd.named Bd.method).1
  have X0 : Stand p l e ({ frames := 6, cells := 0, slots := 0, locals := 80 } : Room) s m #[(.ref r), (.int (0 : Int32)), (.int (2 : Int32)), (.ref al)] below meth c_ s₁ [] 0 0 := Stand.of_body Bd
  have e0 : s₁.heap = h0 := by rw [← hh, Bd.state]; rfl
  have N0 := Fr.nil n0
  have w28_ := hw _ (List.mem_of_getElem? (i := 28) rfl)
  have w35_ := hw _ (List.mem_of_getElem? (i := 35) rfl)
  have w36_ := hw _ (List.mem_of_getElem? (i := 36) rfl)
  have w37_ := hw _ (List.mem_of_getElem? (i := 37) rfl)
  have w38_ := hw _ (List.mem_of_getElem? (i := 38) rfl)
  have w39_ := hw _ (List.mem_of_getElem? (i := 39) rfl)
  have w56_ := hw _ (List.mem_of_getElem? (i := 56) rfl)
  have w57_ := hw _ (List.mem_of_getElem? (i := 57) rfl)
  have w58_ := hw _ (List.mem_of_getElem? (i := 58) rfl)
  have w59_ := hw _ (List.mem_of_getElem? (i := 59) rfl)
  have w60_ := hw _ (List.mem_of_getElem? (i := 60) rfl)
  have w67_ := hw _ (List.mem_of_getElem? (i := 67) rfl)
  have w68_ := hw _ (List.mem_of_getElem? (i := 68) rfl)
  have w69_ := hw _ (List.mem_of_getElem? (i := 69) rfl)
  have w70_ := hw _ (List.mem_of_getElem? (i := 70) rfl)
  show Go p e below (RetG s (Q_step20 Z r a b kb cz al ka c0 c1 c2 fz h0 n0) 0 0) (s₁.setTop (entryFrame m #[(.ref r), (.int (0 : Int32)), (.int (2 : Int32)), (.ref al)] 6))
  rw [show entryFrame m #[(.ref r), (.int (0 : Int32)), (.int (2 : Int32)), (.ref al)] 6 = mkF m 0 #[.val (.ref r), .val (.int (0 : Int32)), .val (.int (2 : Int32)), .val (.ref al), .unset, .unset] [] from by first | (simp [entryFrame, mkF, argsToLocals, Value.category]; done) | rfl]
  refine g_aloadN X0 hx hby d9_0 rfl rfl ?_
  refine g_aloadN X0 hx hby d9_1 rfl rfl ?_
  refine g_iloadN X0 hx hby d9_2 rfl ?_
  refine g_caload X0 hx hby hZ e0 VA (.int c0) ⟨by decide, by decide⟩ rfl d9_3 ?_
  refine g_virtual X0 hx hby hZ hown (rm_rdtake_2_0 l Z a0 hw [] r a b kb [(.int (nar .byte ((nar .char c0).toInt8.toInt32))), (.int (nar .byte ((nar .char c1).toInt8.toInt32)))] cz c0 (nar .byte ((nar .char c0).toInt8.toInt32)) fz h0 n0 Z0 O2 P5 OLD E C VF VB rE rT rP rfl (own_byte hc0) rfz O4 gr nra nrb) w56_ w57_ (notFace_of_selects (args := #[]) (mvT hZ w59_)) w59_ w58_ w28_ w60_ (by decide) e0 rE (by rw [hml]; rfl) [(.int c0)] (lenOf own_pd8 rfl) rfl rfl (Nat.le_of_ble_eq_true rfl) (Nat.le_of_ble_eq_true rfl) (Nat.le_of_ble_eq_true rfl) (Nat.le_of_ble_eq_true rfl) d9_4 (fun v1 T1 L1 X1 hQ1 => ?_)
  obtain ⟨rfl, N1q, K1, Er1, Tr1, Pr1⟩ := hQ1
  have N1 := Fr.app N0 N1q
  refine g_istore X1 hx hby d9_7 (l' := #[.val (.ref r), .val (.int (0 : Int32)), .val (.int (2 : Int32)), .val (.ref al), .val (.int (1 : Int32)), .unset]) rfl ?_
  refine g_iloadN X1 hx hby d9_9 rfl ?_
  refine g_iconst X1 hx hby (1 : Int32) d9_10 rfl ?_
  refine g_iadd X1 hx hby d9_11 ?_
  refine g_topI (1 : Int32) (by decide) ?_
  refine g_iloadN X1 hx hby d9_12 rfl ?_
  have z3 := (Nat.le_trans Z0 K1.1)
  refine g_static X1 hx hby hZ hown (rm_mmin l Z a0 hw [] (1 : Int32) (2 : Int32) T1.heap n0 z3 ) w67_ w68_ w69_ w70_ (by decide) rfl (by rw [hml]; rfl) [(.int (1 : Int32)), (.int (2 : Int32))] (lenOf own_pd9 rfl) rfl rfl (Nat.le_of_ble_eq_true rfl) (Nat.le_of_ble_eq_true rfl) (Nat.le_of_ble_eq_true rfl) (Nat.le_of_ble_eq_true rfl) d9_13 (fun v2 T2 L2 X2 hQ2 => ?_)
  obtain ⟨rfl, N2q, eh2⟩ := hQ2
  have N2 := Fr.app N1 N2q
  refine g_topI (T := T2) (1 : Int32) (by decide) ?_
  refine g_istore X2 hx hby d9_16 (l' := #[.val (.ref r), .val (.int (0 : Int32)), .val (.int (2 : Int32)), .val (.ref al), .val (.int (1 : Int32)), .val (.int (1 : Int32))]) rfl ?_
  refine g_iload X2 hx hby d9_18 rfl ?_
  refine g_iloadN X2 hx hby d9_20 rfl ?_
  refine g_iloadN X2 hx hby d9_21 rfl ?_
  refine g_at 22 rfl rfl rfl ?_
  refine g_icN X2 hx hby d9_22 (tlt (by decide : (0 : Int32) < (2 : Int32))).2.1 ?_
  refine g_iconst X2 hx hby (1 : Int32) d9_25 rfl ?_
  refine g_goto X2 hx hby 30 d9_26 (by decide) (by decide) ?_
  refine g_icN X2 hx hby d9_30 (teq (by decide : (1 : Int32) = (1 : Int32))).2 ?_
  refine g_aloadN X2 hx hby d9_33 rfl rfl ?_
  have f5 := (E.keep K1)
  have f6 := (C.keep K1 (ninS (Ne.symm nra) nin0))
  have f7 := (VF.keep K1 (ninS (Ne.symm nra) nin0))
  have f8 := (VB.keep K1 (ninS (Ne.symm nrb) nin0))
  have f9 := (OLD.keep K1 (allS gr all0))
  refine g_virtual X2 hx hby hZ hown (rm_rdend_2_1 l Z a0 hw [] r a b kb [(.int (nar .byte ((nar .char c0).toInt8.toInt32))), (.int (nar .byte ((nar .char c1).toInt8.toInt32)))] cz T1.heap n0 z3 O2 P5 f9 f5 f6 f7 f8 Er1 Tr1 Pr1) w35_ w36_ (notFace_of_selects (args := #[]) (mvT hZ w38_)) w38_ w37_ w28_ w39_ (by decide) eh2 Er1 (by rw [hml]; rfl) [] (lenOf own_pd7 rfl) rfl rfl (Nat.le_of_ble_eq_true rfl) (Nat.le_of_ble_eq_true rfl) (Nat.le_of_ble_eq_true rfl) (Nat.le_of_ble_eq_true rfl) d9_34 (fun v4 T4 L4 X4 hQ4 => ?_)
  obtain ⟨rfl, N4q, eh4⟩ := hQ4
  have N4 := Fr.app N2 N4q
  refine g_iload X4 hx hby d9_37 rfl ?_
  refine g_iloadN X4 hx hby d9_39 rfl ?_
  refine g_icY X4 hx hby 47 d9_40 (feq (by decide : ¬ ((1 : Int32) = (2 : Int32)))).2 (by decide) (by decide) ?_
  refine g_iconst X4 hx hby (0 : Int32) d9_47 rfl ?_
  refine g_icN X4 hx hby d9_48 (teq (by decide : (0 : Int32) = (0 : Int32))).2 ?_
  refine g_iconst X4 hx hby (1 : Int32) d9_51 rfl ?_
  refine g_goto X4 hx hby 56 d9_52 (by decide) (by decide) ?_
  refine g_nret X4 hx hby (t := .boolean) (by simp) Bd.returns Bd.notSynchronized d9_56 eh4 (by decide) (by decide) ?_
  show (Q_step20 Z r a b kb cz al ka c0 c1 c2 fz h0 n0) (some (.int (1 : Int32))) _ _
  exact ⟨rfl, N4, ((Keep.refl h0 [r]).trans K1 (allS (Or.inl (List.mem_of_getElem? (i := 0) rfl)) all0)), Er1, Tr1, Pr1⟩

def Q_rdat_2_1 (Z : State) (r : Addr) (a : Addr) (b : Addr) (kb : ClassId) (bs : List Value) (cz : Int32) (c : Int32) (bv : Int32) (fz : Value) (h0 : Heap) (n0 : Nat) (v : Option Value) (h : Heap) (L : List Loc) : Prop := v = some (.int (1 : Int32)) ∧ Fr n0 L ∧ h = h0
set_option maxRecDepth 65536 in
set_option maxHeartbeats 40000000 in
theorem rm_rdat_2_1 (l : Launch) (Z : State) (a0 : Array Value) (hw : ∀ d ∈ tables_1, d.before a0 Z = true) (ws : List Jvm.Cond) (r : Addr) (a : Addr) (b : Addr) (kb : ClassId) (bs : List Value) (cz : Int32) (c : Int32) (bv : Int32) (fz : Value) (h0 : Heap) (n0 : Nat) (Z0 : n0 ≤ h0.size) (O2 : Sta Z Z.heap "java/lang/String" "COMPACT_STRINGS" "Z" (.int cz)) (P5 : ¬ cz = (0 : Int32)) (OLD : Old Z n0 h0) (E : Exa Z h0 a "java/lang/String") (C : Fld Z h0 a "java/lang/String" "coder" "B" (.int (0 : Int32))) (VF : Fld Z h0 a "java/lang/String" "value" "[B" (.ref b)) (VB : Arv Z h0 b kb .byte (2 : Int32) bs (.int (0 : Int32))) (rE : Exa Z h0 r "com/example/pathloom/pathloom/web/MediaType$Reader") (rT : Fld Z h0 r "com/example/pathloom/pathloom/web/MediaType$Reader" "text" "Ljava/lang/String;" (.ref a)) (rP : Fld Z h0 r "com/example/pathloom/pathloom/web/MediaType$Reader" "position" "I" (.int (1 : Int32))) (hv : bs.getD 1 (.int (0 : Int32)) = .int bv) (hcb : nar .char (nar .char ((bv &&& (255 : Int32)).toUInt32.toUInt16.toUInt32.toInt32)) = c) (rfz : Rf fz) (O4 : Sta Z Z.heap "jdk/internal/util/Preconditions" "SIOOBE_FORMATTER" "Ljava/util/function/BiFunction;" fz) :
    MetFree l (⟨"com/example/pathloom/pathloom/web/MediaType$Reader", "at", "(C)Z"⟩ : MethodName) (head1 (Jvm.Cond.code (⟨"com/example/pathloom/pathloom/web/MediaType$Reader", "at", "(C)Z"⟩ : MethodName) prog_35_method_4_code 2 (some .boolean) :: ws) ({ frames := 4, cells := 0, slots := 0, locals := 53 } : Room)) (fun aa_ U => aa_ = #[(.ref r), (.int c)] ∧ Z.Warmed39 U.vm ∧ U.heap = h0) (fun _ _ _ _ _ => True) (fun _ U o_ U' => RetG U (Q_rdat_2_1 Z r a b kb bs cz c bv fz h0 n0) 0 0 U' o_) := by
  refine MetFree.of_bodySF (plainFor_of_name own_pn3) hisR ?_
  intro p e s m args below meth c_ s₁ Bd hml0 hP hK
  obtain ⟨rfl, hZ, hh⟩ := hP
  have hx := Bd.exec
  have hby := Bd.bytes
  have hml : c_.maxLocals = 2 := hml0
  have hown : s.vm.findClass "com/example/pathloom/pathloom/web/MediaType$Reader" = some m.cls := findClass_of_methodNamed Bd.named
  have hnm := (name_of_methodNamed Bd.named Bd.method).1
  have X0 : Stand p l e ({ frames := 4, cells := 0, slots := 0, locals := 53 } : Room) s m #[(.ref r), (.int c)] below meth c_ s₁ [] 0 0 := Stand.of_body Bd
  have e0 : s₁.heap = h0 := by rw [← hh, Bd.state]; rfl
  have N0 := Fr.nil n0
  have w7_ := hw _ (List.mem_of_getElem? (i := 7) rfl)
  have w28_ := hw _ (List.mem_of_getElem? (i := 28) rfl)
  have w33_ := hw _ (List.mem_of_getElem? (i := 33) rfl)
  have w36_ := hw _ (List.mem_of_getElem? (i := 36) rfl)
  have w37_ := hw _ (List.mem_of_getElem? (i := 37) rfl)
  have w38_ := hw _ (List.mem_of_getElem? (i := 38) rfl)
  have w39_ := hw _ (List.mem_of_getElem? (i := 39) rfl)
  have w40_ := hw _ (List.mem_of_getElem? (i := 40) rfl)
  have w66_ := hw _ (List.mem_of_getElem? (i := 66) rfl)
  have w81_ := hw _ (List.mem_of_getElem? (i := 81) rfl)
  have w82_ := hw _ (List.mem_of_getElem? (i := 82) rfl)
  have w83_ := hw _ (List.mem_of_getElem? (i := 83) rfl)
  have w84_ := hw _ (List.mem_of_getElem? (i := 84) rfl)
  have w85_ := hw _ (List.mem_of_getElem? (i := 85) rfl)
  show Go p e below (RetG s (Q_rdat_2_1 Z r a b kb bs cz c bv fz h0 n0) 0 0) (s₁.setTop (entryFrame m #[(.ref r), (.int c)] 2))
  rw [show entryFrame m #[(.ref r), (.int c)] 2 = mkF m 0 #[.val (.ref r), .val (.int c)] [] from by first | (simp [entryFrame, mkF, argsToLocals, Value.category]; done) | rfl]
  refine g_aloadN X0 hx hby d11_0 rfl rfl ?_
  refine g_virtual X0 hx hby hZ hown (rm_rdend_2_1 l Z a0 hw [] r a b kb bs cz h0 n0 Z0 O2 P5 OLD E C VF VB rE rT rP) w66_ w36_ (notFace_of_selects (args := #[]) (mvT hZ w38_)) w38_ w37_ w28_ w39_ (by decide) e0 rE (by rw [hml]; rfl) [] (lenOf own_pd7 rfl) rfl rfl (Nat.le_of_ble_eq_true rfl) (Nat.le_of_ble_eq_true rfl) (Nat.le_of_ble_eq_true rfl) (Nat.le_of_ble_eq_true rfl) d11_1 (fun v1 T1 L1 X1 hQ1 => ?_)
  obtain ⟨rfl, N1q, eh1⟩ := hQ1
  have N1 := Fr.app N0 N1q
  refine g_ifN X1 hx hby d11_4 (teq (by decide : (0 : Int32) = (0 : Int32))).2 ?_
  refine g_aloadN X1 hx hby d11_7 rfl rfl ?_
  refine g_getF X1 hx hby hZ hown (host := "") (Or.inl w33_) Via.refl eh1 rT d11_8 (fun T2 X2 e2 => ?_)
  refine g_aloadN X2 hx hby d11_11 rfl rfl ?_
  refine g_getF X2 hx hby hZ hown (host := "") (Or.inl w40_) Via.refl e2 rP d11_12 (fun T3 X3 e3 => ?_)
  refine g_virtual X3 hx hby hZ hown (rm_schar_2 l Z a0 hw [] a b kb bs (1 : Int32) bv fz cz h0 n0 Z0 O2 P5 OLD E C VF VB ⟨by decide, by decide⟩ hv rfz O4) w81_ w82_ (notFace_of_selects (args := #[]) (mvT hZ w84_)) w84_ w83_ w7_ w85_ (by decide) e3 E (by rw [hml]; rfl) [(.int (1 : Int32))] (lenOf own_pd13 rfl) rfl rfl (Nat.le_of_ble_eq_true rfl) (Nat.le_of_ble_eq_true rfl) (Nat.le_of_ble_eq_true rfl) (Nat.le_of_ble_eq_true rfl) d11_15 (fun v4 T4 L4 X4 hQ4 => ?_)
  obtain ⟨rfl, N4q, eh4⟩ := hQ4
  have N4 := Fr.app N1 N4q
  refine g_topI (T := T4) c hcb ?_
  refine g_iloadN X4 hx hby d11_18 rfl ?_
  refine g_icN X4 hx hby d11_19 (teq (rfl : c = c)).2 ?_
  refine g_iconst X4 hx hby (1 : Int32) d11_22 rfl ?_
  refine g_goto X4 hx hby 27 d11_23 (by decide) (by decide) ?_
  refine g_nret X4 hx hby (t := .boolean) (by simp) Bd.returns Bd.notSynchronized d11_27 eh4 (by decide) (by decide) ?_
  show (Q_rdat_2_1 Z r a b kb bs cz c bv fz h0 n0) (some (.int (1 : Int32))) _ _
  exact ⟨rfl, N4, rfl⟩

def Q_rdtake_2_1 (Z : State) (r : Addr) (a : Addr) (b : Addr) (kb : ClassId) (bs : List Value) (cz : Int32) (c : Int32) (bv : Int32) (fz : Value) (h0 : Heap) (n0 : Nat) (v : Option Value) (h : Heap) (L : List Loc) : Prop := v = some (.int (1 : Int32)) ∧ Fr n0 L ∧ Keep h0 h [r] ∧ Exa Z h r "com/example/pathloom/pathloom/web/MediaType$Reader" ∧ Fld Z h r "com/example/pathloom/pathloom/web/MediaType$Reader" "text" "Ljava/lang/String;" (.ref a) ∧ Fld Z h r "com/example/pathloom/pathloom/web/MediaType$Reader" "position" "I" (.int (2 : Int32))
set_option maxRecDepth 65536 in
set_option maxHeartbeats 40000000 in
theorem rm_rdtake_2_1 (l : Launch) (Z : State) (a0 : Array Value) (hw : ∀ d ∈ tables_1, d.before a0 Z = true) (ws : List Jvm.Cond) (r : Addr) (a : Addr) (b : Addr) (kb : ClassId) (bs : List Value) (cz : Int32) (c : Int32) (bv : Int32) (fz : Value) (h0 : Heap) (n0 : Nat) (Z0 : n0 ≤ h0.size) (O2 : Sta Z Z.heap "java/lang/String" "COMPACT_STRINGS" "Z" (.int cz)) (P5 : ¬ cz = (0 : Int32)) (OLD : Old Z n0 h0) (E : Exa Z h0 a "java/lang/String") (C : Fld Z h0 a "java/lang/String" "coder" "B" (.int (0 : Int32))) (VF : Fld Z h0 a "java/lang/String" "value" "[B" (.ref b)) (VB : Arv Z h0 b kb .byte (2 : Int32) bs (.int (0 : Int32))) (rE : Exa Z h0 r "com/example/pathloom/pathloom/web/MediaType$Reader") (rT : Fld Z h0 r "com/example/pathloom/pathloom/web/MediaType$Reader" "text" "Ljava/lang/String;" (.ref a)) (rP : Fld Z h0 r "com/example/pathloom/pathloom/web/MediaType$Reader" "position" "I" (.int (1 : Int32))) (hv : bs.getD 1 (.int (0 : Int32)) = .int bv) (hcb : nar .char (nar .char ((bv &&& (255 : Int32)).toUInt32.toUInt16.toUInt32.toInt32)) = c) (rfz : Rf fz) (O4 : Sta Z Z.heap "jdk/internal/util/Preconditions" "SIOOBE_FORMATTER" "Ljava/util/function/BiFunction;" fz) (gr : n0 ≤ r) (nra : r ≠ a) (nrb : r ≠ b) :
    MetFree l (⟨"com/example/pathloom/pathloom/web/MediaType$Reader", "take", "(C)Z"⟩ : MethodName) (head1 (Jvm.Cond.code (⟨"com/example/pathloom/pathloom/web/MediaType$Reader", "take", "(C)Z"⟩ : MethodName) prog_35_method_5_code 3 (some .boolean) :: ws) ({ frames := 5, cells := 0, slots := 0, locals := 66 } : Room)) (fun aa_ U => aa_ = #[(.ref r), (.int c)] ∧ Z.Warmed39 U.vm ∧ U.heap = h0) (fun _ _ _ _ _ => True) (fun _ U o_ U' => RetG U (Q_rdtake_2_1 Z r a b kb bs cz c bv fz h0 n0) 0 0 U' o_) := by
  refine MetFree.of_bodySF (plainFor_of_name own_pn3) hisR ?_
  intro p e s m args below meth c_ s₁ Bd hml0 hP hK
  obtain ⟨rfl, hZ, hh⟩ := hP
  have hx := Bd.exec
  have hby := Bd.bytes
  have hml : c_.maxLocals = 3 := hml0
  have hown : s.vm.findClass "com/example/pathloom/pathloom/web/MediaType$Reader" = some m.cls := findClass_of_methodNamed Bd.named
  have hnm := (name_of_methodNamed Bd.named Bd.method).1
  have X0 : Stand p l e ({ frames := 5, cells := 0, slots := 0, locals := 66 } : Room) s m #[(.ref r), (.int c)] below meth c_ s₁ [] 0 0 := Stand.of_body Bd
  have e0 : s₁.heap = h0 := by rw [← hh, Bd.state]; rfl
  have N0 := Fr.nil n0
  have w27_ := hw _ (List.mem_of_getElem? (i := 27) rfl)
  have w28_ := hw _ (List.mem_of_getElem? (i := 28) rfl)
  have w34_ := hw _ (List.mem_of_getElem? (i := 34) rfl)
  have w40_ := hw _ (List.mem_of_getElem? (i := 40) rfl)
  have w41_ := hw _ (List.mem_of_getElem? (i := 41) rfl)
  have w61_ := hw _ (List.mem_of_getElem? (i := 61) rfl)
  have w62_ := hw _ (List.mem_of_getElem? (i := 62) rfl)
  have w63_ := hw _ (List.mem_of_getElem? (i := 63) rfl)
  have w64_ := hw _ (List.mem_of_getElem? (i := 64) rfl)
  have w65_ := hw _ (List.mem_of_getElem? (i := 65) rfl)
  show Go p e below (RetG s (Q_rdtake_2_1 Z r a b kb bs cz c bv fz h0 n0) 0 0) (s₁.setTop (entryFrame m #[(.ref r), (.int c)] 3))
  rw [show entryFrame m #[(.ref r), (.int c)] 3 = mkF m 0 #[.val (.ref r), .val (.int c), .unset] [] from by first | (simp [entryFrame, mkF, argsToLocals, Value.category]; done) | rfl]
  refine g_aloadN X0 hx hby d10_0 rfl rfl ?_
  refine g_iloadN X0 hx hby d10_1 rfl ?_
  refine g_virtual X0 hx hby hZ hown (rm_rdat_2_1 l Z a0 hw [] r a b kb bs cz c bv fz h0 n0 Z0 O2 P5 OLD E C VF VB rE rT rP hv hcb rfz O4) w61_ w62_ (notFace_of_selects (args := #[]) (mvT hZ w64_)) w64_ w63_ w28_ w65_ (by decide) e0 rE (by rw [hml]; rfl) [(.int c)] (lenOf own_pd8 rfl) rfl rfl (Nat.le_of_ble_eq_true rfl) (Nat.le_of_ble_eq_true rfl) (Nat.le_of_ble_eq_true rfl) (Nat.le_of_ble_eq_true rfl) d10_2 (fun v1 T1 L1 X1 hQ1 => ?_)
  obtain ⟨rfl, N1q, eh1⟩ := hQ1
  have N1 := Fr.app N0 N1q
  refine g_istoreN X1 hx hby d10_5 (l' := #[.val (.ref r), .val (.int c), .val (.int (1 : Int32))]) rfl ?_
  refine g_iloadN X1 hx hby d10_6 rfl ?_
  refine g_ifN X1 hx hby d10_7 (feq (by decide : ¬ ((1 : Int32) = (0 : Int32)))).1 ?_
  refine g_aloadN X1 hx hby d10_10 rfl rfl ?_
  refine g_dup X1 hx hby d10_11 rfl ?_
  refine g_getF X1 hx hby hZ hown (host := "") (Or.inl w40_) Via.refl eh1 rP d10_12 (fun T2 X2 e2 => ?_)
  refine g_iconst X2 hx hby (1 : Int32) d10_15 rfl ?_
  refine g_iadd X2 hx hby d10_16 ?_
  refine g_topI (2 : Int32) (by decide) ?_
  refine g_putF X2 hx hby hZ hown (host := "") (Or.inl w40_) Via.refl e2 rP rE (Or.inl w41_) w27_ .int (by decide) rfl rfl N1 gr d10_17 (fun T3 h3 X3 e3 W3 F3 N3 => ?_)
  refine g_iloadN X3 hx hby d10_20 rfl ?_
  have f4 := (rE.wr W3)
  have f5 := (rT.other W3 (Or.inr (slot_ne (Or.inr w34_) (Or.inl w41_) (by decide) (t := (.object "java/lang/String")) (t' := .int) (by decide) (by decide))))
  refine g_nret X3 hx hby (t := .boolean) (by simp) Bd.returns Bd.notSynchronized d10_21 e3 (by decide) (by decide) ?_
  show (Q_rdtake_2_1 Z r a b kb bs cz c bv fz h0 n0) (some (.int (1 : Int32))) _ _
  exact ⟨rfl, N3, ((Keep.refl h0 [r]).wr W3 (Or.inl (List.mem_of_getElem? (i := 0) rfl))), f4, f5, F3⟩

def Q_rdend_2_2 (Z : State) (r : Addr) (a : Addr) (b : Addr) (kb : ClassId) (bs : List Value) (cz : Int32) (h0 : Heap) (n0 : Nat) (v : Option Value) (h : Heap) (L : List Loc) : Prop := v = some (.int (1 : Int32)) ∧ Fr n0 L ∧ h = h0
set_option maxRecDepth 65536 in
set_option maxHeartbeats 40000000 in
theorem rm_rdend_2_2 (l : Launch) (Z : State) (a0 : Array Value) (hw : ∀ d ∈ tables_1, d.before a0 Z = true) (ws : List Jvm.Cond) (r : Addr) (a : Addr) (b : Addr) (kb : ClassId) (bs : List Value) (cz : Int32) (h0 : Heap) (n0 : Nat) (Z0 : n0 ≤ h0.size) (O2 : Sta Z Z.heap "java/lang/String" "COMPACT_STRINGS" "Z" (.int cz)) (P5 : ¬ cz = (0 : Int32)) (OLD : Old Z n0 h0) (E : Exa Z h0 a "java/lang/String") (C : Fld Z h0 a "java/lang/String" "coder" "B" (.int (0 : Int32))) (VF : Fld Z h0 a "java/lang/String" "value" "[B" (.ref b)) (VB : Arv Z h0 b kb .byte (2 : Int32) bs (.int (0 : Int32))) (rE : Exa Z h0 r "com/example/pathloom/pathloom/web/MediaType$Reader") (rT : Fld Z h0 r "com/example/pathloom/pathloom/web/MediaType$Reader" "text" "Ljava/lang/String;" (.ref a)) (rP : Fld Z h0 r "com/example/pathloom/pathloom/web/MediaType$Reader" "position" "I" (.int (2 : Int32))) :
    MetFree l (⟨"com/example/pathloom/pathloom/web/MediaType$Reader", "atEnd", "()Z"⟩ : MethodName) (head1 (Jvm.Cond.code (⟨"com/example/pathloom/pathloom/web/MediaType$Reader", "atEnd", "()Z"⟩ : MethodName) prog_35_method_2_code 1 (some .boolean) :: ws) ({ frames := 2, cells := 0, slots := 0, locals := 26 } : Room)) (fun aa_ U => aa_ = #[(.ref r)] ∧ Z.Warmed39 U.vm ∧ U.heap = h0) (fun _ _ _ _ _ => True) (fun _ U o_ U' => RetG U (Q_rdend_2_2 Z r a b kb bs cz h0 n0) 0 0 U' o_) := by
  refine MetFree.of_bodySF (plainFor_of_name own_pn3) hisR ?_
  intro p e s m args below meth c_ s₁ Bd hml0 hP hK
  obtain ⟨rfl, hZ, hh⟩ := hP
  have hx := Bd.exec
  have hby := Bd.bytes
  have hml : c_.maxLocals = 1 := hml0
  have hown : s.vm.findClass "com/example/pathloom/pathloom/web/MediaType$Reader" = some m.cls := findClass_of_methodNamed Bd.named
  have hnm := (name_of_methodNamed Bd.named Bd.method).1
  have X0 : Stand p l e ({ frames := 2, cells := 0, slots := 0, locals := 26 } : Room) s m #[(.ref r)] below meth c_ s₁ [] 0 0 := Stand.of_body Bd
  have e0 : s₁.heap = h0 := by rw [← hh, Bd.state]; rfl
  have N0 := Fr.nil n0
  have w7_ := hw _ (List.mem_of_getElem? (i := 7) rfl)
  have w33_ := hw _ (List.mem_of_getElem? (i := 33) rfl)
  have w40_ := hw _ (List.mem_of_getElem? (i := 40) rfl)
  have w42_ := hw _ (List.mem_of_getElem? (i := 42) rfl)
  have w43_ := hw _ (List.mem_of_getElem? (i := 43) rfl)
  have w44_ := hw _ (List.mem_of_getElem? (i := 44) rfl)
  have w45_ := hw _ (List.mem_of_getElem? (i := 45) rfl)
  have w46_ := hw _ (List.mem_of_getElem? (i := 46) rfl)
  show Go p e below (RetG s (Q_rdend_2_2 Z r a b kb bs cz h0 n0) 0 0) (s₁.setTop (entryFrame m #[(.ref r)] 1))
  rw [show entryFrame m #[(.ref r)] 1 = mkF m 0 #[.val (.ref r)] [] from by first | (simp [entryFrame, mkF, argsToLocals, Value.category]; done) | rfl]
  refine g_aloadN X0 hx hby d6_0 rfl rfl ?_
  refine g_getF X0 hx hby hZ hown (host := "") (Or.inl w40_) Via.refl e0 rP d6_1 (fun T1 X1 e1 => ?_)
  refine g_aloadN X1 hx hby d6_4 rfl rfl ?_
  refine g_getF X1 hx hby hZ hown (host := "") (Or.inl w33_) Via.refl e1 rT d6_5 (fun T2 X2 e2 => ?_)
  refine g_virtual X2 hx hby hZ hown (rm_slen_2 l Z a0 hw [] a b kb bs cz h0 n0 Z0 O2 P5 OLD E C VF VB) w42_ w43_ (notFace_of_selects (args := #[]) (mvT hZ w45_)) w45_ w44_ w7_ w46_ (by decide) e2 E (by rw [hml]; rfl) [] (lenOf own_pd6 rfl) rfl rfl (Nat.le_of_ble_eq_true rfl) (Nat.le_of_ble_eq_true rfl) (Nat.le_of_ble_eq_true rfl) (Nat.le_of_ble_eq_true rfl) d6_8 (fun v3 T3 L3 X3 hQ3 => ?_)
  obtain ⟨rfl, N3q, eh3⟩ := hQ3
  have N3 := Fr.app N0 N3q
  refine g_icN X3 hx hby d6_11 (teq (by decide : (2 : Int32) = (2 : Int32))).2 ?_
  refine g_iconst X3 hx hby (1 : Int32) d6_14 rfl ?_
  refine g_goto X3 hx hby 19 d6_15 (by decide) (by decide) ?_
  refine g_nret X3 hx hby (t := .boolean) (by simp) Bd.returns Bd.notSynchronized d6_19 eh3 (by decide) (by decide) ?_
  show (Q_rdend_2_2 Z r a b kb bs cz h0 n0) (some (.int (1 : Int32))) _ _
  exact ⟨rfl, N3, rfl⟩

def Q_step21 (Z : State) (r : Addr) (a : Addr) (b : Addr) (kb : ClassId) (cz : Int32) (al : Addr) (ka : ClassId) (c0 : Int32) (c1 : Int32) (c2 : Int32) (fz : Value) (h0 : Heap) (n0 : Nat) (v : Option Value) (h : Heap) (L : List Loc) : Prop := v = some (.int (1 : Int32)) ∧ Fr n0 L ∧ Keep h0 h [r] ∧ Exa Z h r "com/example/pathloom/pathloom/web/MediaType$Reader" ∧ Fld Z h r "com/example/pathloom/pathloom/web/MediaType$Reader" "text" "Ljava/lang/String;" (.ref a) ∧ Fld Z h r "com/example/pathloom/pathloom/web/MediaType$Reader" "position" "I" (.int (2 : Int32))
set_option maxRecDepth 65536 in
set_option maxHeartbeats 40000000 in
theorem rm_step21 (l : Launch) (Z : State) (a0 : Array Value) (hw : ∀ d ∈ tables_1, d.before a0 Z = true) (ws : List Jvm.Cond) (r : Addr) (a : Addr) (b : Addr) (kb : ClassId) (cz : Int32) (al : Addr) (ka : ClassId) (c0 : Int32) (c1 : Int32) (c2 : Int32) (fz : Value) (h0 : Heap) (n0 : Nat) (Z0 : n0 ≤ h0.size) (O2 : Sta Z Z.heap "java/lang/String" "COMPACT_STRINGS" "Z" (.int cz)) (P5 : ¬ cz = (0 : Int32)) (OLD : Old Z n0 h0) (E : Exa Z h0 a "java/lang/String") (C : Fld Z h0 a "java/lang/String" "coder" "B" (.int (0 : Int32))) (VF : Fld Z h0 a "java/lang/String" "value" "[B" (.ref b)) (VB : Arv Z h0 b kb .byte (2 : Int32) [(.int (nar .byte ((nar .char c0).toInt8.toInt32))), (.int (nar .byte ((nar .char c1).toInt8.toInt32)))] (.int (0 : Int32))) (rE : Exa Z h0 r "com/example/pathloom/pathloom/web/MediaType$Reader") (rT : Fld Z h0 r "com/example/pathloom/pathloom/web/MediaType$Reader" "text" "Ljava/lang/String;" (.ref a)) (rP : Fld Z h0 r "com/example/pathloom/pathloom/web/MediaType$Reader" "position" "I" (.int (1 : Int32))) (VA : Arv Z h0 al ka .char (3 : Int32) [(.int c0), (.int c1), (.int c2)] (.int (0 : Int32))) (hc0 : 0 ≤ c0.toInt ∧ c0.toInt ≤ 255) (hc1 : 0 ≤ c1.toInt ∧ c1.toInt ≤ 255) (hc2 : 0 ≤ c2.toInt ∧ c2.toInt ≤ 255) (rfz : Rf fz) (O4 : Sta Z Z.heap "jdk/internal/util/Preconditions" "SIOOBE_FORMATTER" "Ljava/util/function/BiFunction;" fz) (gr : n0 ≤ r) (nra : r ≠ a) (nrb : r ≠ b) :
    MetFree l (⟨"com/example/pathloom/pathloom/web/ReaderAtEndPinLaw", "step", "(Lcom/example/pathloom/pathloom/web/MediaType$Reader;II[C)Z"⟩ : MethodName) (head1 (Jvm.Cond.code (⟨"com/example/pathloom/pathloom/web/ReaderAtEndPinLaw", "step", "(Lcom/example/pathloom/pathloom/web/MediaType$Reader;II[C)Z"⟩ : MethodName) method_4_code 6 (some .boolean) :: ws) ({ frames := 6, cells := 0, slots := 0, locals := 80 } : Room)) (fun aa_ U => aa_ = #[(.ref r), (.int (1 : Int32)), (.int (2 : Int32)), (.ref al)] ∧ Z.Warmed39 U.vm ∧ U.heap = h0) (fun _ _ _ _ _ => True) (fun _ U o_ U' => RetG U (Q_step21 Z r a b kb cz al ka c0 c1 c2 fz h0 n0) 0 0 U' o_) := by
  refine MetFree.of_bodySF (plainFor_of_name own_pn1) hisR ?_
  intro p e s m args below meth c_ s₁ Bd hml0 hP hK
  obtain ⟨rfl, hZ, hh⟩ := hP
  have hx := Bd.exec
  have hby := Bd.bytes
  have hml : c_.maxLocals = 6 := hml0
  have hown : s.vm.findClass "com/example/pathloom/pathloom/web/ReaderAtEndPinLaw" = some m.cls := findClass_of_methodNamed Bd.named
  have hnm := (name_of_methodNamed Bd.named Bd.method).1
  have X0 : Stand p l e ({ frames := 6, cells := 0, slots := 0, locals := 80 } : Room) s m #[(.ref r), (.int (1 : Int32)), (.int (2 : Int32)), (.ref al)] below meth c_ s₁ [] 0 0 := Stand.of_body Bd
  have e0 : s₁.heap = h0 := by rw [← hh, Bd.state]; rfl
  have N0 := Fr.nil n0
  have w28_ := hw _ (List.mem_of_getElem? (i := 28) rfl)
  have w35_ := hw _ (List.mem_of_getElem? (i := 35) rfl)
  have w36_ := hw _ (List.mem_of_getElem? (i := 36) rfl)
  have w37_ := hw _ (List.mem_of_getElem? (i := 37) rfl)
  have w38_ := hw _ (List.mem_of_getElem? (i := 38) rfl)
  have w39_ := hw _ (List.mem_of_getElem? (i := 39) rfl)
  have w56_ := hw _ (List.mem_of_getElem? (i := 56) rfl)
  have w57_ := hw _ (List.mem_of_getElem? (i := 57) rfl)
  have w58_ := hw _ (List.mem_of_getElem? (i := 58) rfl)
  have w59_ := hw _ (List.mem_of_getElem? (i := 59) rfl)
  have w60_ := hw _ (List.mem_of_getElem? (i := 60) rfl)
  have w67_ := hw _ (List.mem_of_getElem? (i := 67) rfl)
  have w68_ := hw _ (List.mem_of_getElem? (i := 68) rfl)
  have w69_ := hw _ (List.mem_of_getElem? (i := 69) rfl)
  have w70_ := hw _ (List.mem_of_getElem? (i := 70) rfl)
  show Go p e below (RetG s (Q_step21 Z r a b kb cz al ka c0 c1 c2 fz h0 n0) 0 0) (s₁.setTop (entryFrame m #[(.ref r), (.int (1 : Int32)), (.int (2 : Int32)), (.ref al)] 6))
  rw [show entryFrame m #[(.ref r), (.int (1 : Int32)), (.int (2 : Int32)), (.ref al)] 6 = mkF m 0 #[.val (.ref r), .val (.int (1 : Int32)), .val (.int (2 : Int32)), .val (.ref al), .unset, .unset] [] from by first | (simp [entryFrame, mkF, argsToLocals, Value.category]; done) | rfl]
  refine g_aloadN X0 hx hby d9_0 rfl rfl ?_
  refine g_aloadN X0 hx hby d9_1 rfl rfl ?_
  refine g_iloadN X0 hx hby d9_2 rfl ?_
  refine g_caload X0 hx hby hZ e0 VA (.int c1) ⟨by decide, by decide⟩ rfl d9_3 ?_
  refine g_virtual X0 hx hby hZ hown (rm_rdtake_2_1 l Z a0 hw [] r a b kb [(.int (nar .byte ((nar .char c0).toInt8.toInt32))), (.int (nar .byte ((nar .char c1).toInt8.toInt32)))] cz c1 (nar .byte ((nar .char c1).toInt8.toInt32)) fz h0 n0 Z0 O2 P5 OLD E C VF VB rE rT rP rfl (own_byte hc1) rfz O4 gr nra nrb) w56_ w57_ (notFace_of_selects (args := #[]) (mvT hZ w59_)) w59_ w58_ w28_ w60_ (by decide) e0 rE (by rw [hml]; rfl) [(.int c1)] (lenOf own_pd8 rfl) rfl rfl (Nat.le_of_ble_eq_true rfl) (Nat.le_of_ble_eq_true rfl) (Nat.le_of_ble_eq_true rfl) (Nat.le_of_ble_eq_true rfl) d9_4 (fun v1 T1 L1 X1 hQ1 => ?_)
  obtain ⟨rfl, N1q, K1, Er1, Tr1, Pr1⟩ := hQ1
  have N1 := Fr.app N0 N1q
  refine g_istore X1 hx hby d9_7 (l' := #[.val (.ref r), .val (.int (1 : Int32)), .val (.int (2 : Int32)), .val (.ref al), .val (.int (1 : Int32)), .unset]) rfl ?_
  refine g_iloadN X1 hx hby d9_9 rfl ?_
  refine g_iconst X1 hx hby (1 : Int32) d9_10 rfl ?_
  refine g_iadd X1 hx hby d9_11 ?_
  refine g_topI (2 : Int32) (by decide) ?_
  refine g_iloadN X1 hx hby d9_12 rfl ?_
  have z3 := (Nat.le_trans Z0 K1.1)
  refine g_static X1 hx hby hZ hown (rm_mmin l Z a0 hw [] (2 : Int32) (2 : Int32) T1.heap n0 z3 ) w67_ w68_ w69_ w70_ (by decide) rfl (by rw [hml]; rfl) [(.int (2 : Int32)), (.int (2 : Int32))] (lenOf own_pd9 rfl) rfl rfl (Nat.le_of_ble_eq_true rfl) (Nat.le_of_ble_eq_true rfl) (Nat.le_of_ble_eq_true rfl) (Nat.le_of_ble_eq_true rfl) d9_13 (fun v2 T2 L2 X2 hQ2 => ?_)
  obtain ⟨rfl, N2q, eh2⟩ := hQ2
  have N2 := Fr.app N1 N2q
  refine g_topI (T := T2) (2 : Int32) (by decide) ?_
  refine g_istore X2 hx hby d9_16 (l' := #[.val (.ref r), .val (.int (1 : Int32)), .val (.int (2 : Int32)), .val (.ref al), .val (.int (1 : Int32)), .val (.int (2 : Int32))]) rfl ?_
  refine g_iload X2 hx hby d9_18 rfl ?_
  refine g_iloadN X2 hx hby d9_20 rfl ?_
  refine g_iloadN X2 hx hby d9_21 rfl ?_
  refine g_at 22 rfl rfl rfl ?_
  refine g_icN X2 hx hby d9_22 (tlt (by decide : (1 : Int32) < (2 : Int32))).2.1 ?_
  refine g_iconst X2 hx hby (1 : Int32) d9_25 rfl ?_
  refine g_goto X2 hx hby 30 d9_26 (by decide) (by decide) ?_
  refine g_icN X2 hx hby d9_30 (teq (by decide : (1 : Int32) = (1 : Int32))).2 ?_
  refine g_aloadN X2 hx hby d9_33 rfl rfl ?_
  have f5 := (E.keep K1)
  have f6 := (C.keep K1 (ninS (Ne.symm nra) nin0))
  have f7 := (VF.keep K1 (ninS (Ne.symm nra) nin0))
  have f8 := (VB.keep K1 (ninS (Ne.symm nrb) nin0))
  have f9 := (OLD.keep K1 (allS gr all0))
  refine g_virtual X2 hx hby hZ hown (rm_rdend_2_2 l Z a0 hw [] r a b kb [(.int (nar .byte ((nar .char c0).toInt8.toInt32))), (.int (nar .byte ((nar .char c1).toInt8.toInt32)))] cz T1.heap n0 z3 O2 P5 f9 f5 f6 f7 f8 Er1 Tr1 Pr1) w35_ w36_ (notFace_of_selects (args := #[]) (mvT hZ w38_)) w38_ w37_ w28_ w39_ (by decide) eh2 Er1 (by rw [hml]; rfl) [] (lenOf own_pd7 rfl) rfl rfl (Nat.le_of_ble_eq_true rfl) (Nat.le_of_ble_eq_true rfl) (Nat.le_of_ble_eq_true rfl) (Nat.le_of_ble_eq_true rfl) d9_34 (fun v4 T4 L4 X4 hQ4 => ?_)
  obtain ⟨rfl, N4q, eh4⟩ := hQ4
  have N4 := Fr.app N2 N4q
  refine g_iload X4 hx hby d9_37 rfl ?_
  refine g_iloadN X4 hx hby d9_39 rfl ?_
  refine g_icN X4 hx hby d9_40 (teq (by decide : (2 : Int32) = (2 : Int32))).2 ?_
  refine g_iconst X4 hx hby (1 : Int32) d9_43 rfl ?_
  refine g_goto X4 hx hby 48 d9_44 (by decide) (by decide) ?_
  refine g_icN X4 hx hby d9_48 (teq (by decide : (1 : Int32) = (1 : Int32))).2 ?_
  refine g_iconst X4 hx hby (1 : Int32) d9_51 rfl ?_
  refine g_goto X4 hx hby 56 d9_52 (by decide) (by decide) ?_
  refine g_nret X4 hx hby (t := .boolean) (by simp) Bd.returns Bd.notSynchronized d9_56 eh4 (by decide) (by decide) ?_
  show (Q_step21 Z r a b kb cz al ka c0 c1 c2 fz h0 n0) (some (.int (1 : Int32))) _ _
  exact ⟨rfl, N4, ((Keep.refl h0 [r]).trans K1 (allS (Or.inl (List.mem_of_getElem? (i := 0) rfl)) all0)), Er1, Tr1, Pr1⟩

def Q_rdat_2_2 (Z : State) (r : Addr) (a : Addr) (b : Addr) (kb : ClassId) (bs : List Value) (cz : Int32) (c : Int32) (h0 : Heap) (n0 : Nat) (v : Option Value) (h : Heap) (L : List Loc) : Prop := v = some (.int (0 : Int32)) ∧ Fr n0 L ∧ h = h0
set_option maxRecDepth 65536 in
set_option maxHeartbeats 40000000 in
theorem rm_rdat_2_2 (l : Launch) (Z : State) (a0 : Array Value) (hw : ∀ d ∈ tables_1, d.before a0 Z = true) (ws : List Jvm.Cond) (r : Addr) (a : Addr) (b : Addr) (kb : ClassId) (bs : List Value) (cz : Int32) (c : Int32) (h0 : Heap) (n0 : Nat) (Z0 : n0 ≤ h0.size) (O2 : Sta Z Z.heap "java/lang/String" "COMPACT_STRINGS" "Z" (.int cz)) (P5 : ¬ cz = (0 : Int32)) (OLD : Old Z n0 h0) (E : Exa Z h0 a "java/lang/String") (C : Fld Z h0 a "java/lang/String" "coder" "B" (.int (0 : Int32))) (VF : Fld Z h0 a "java/lang/String" "value" "[B" (.ref b)) (VB : Arv Z h0 b kb .byte (2 : Int32) bs (.int (0 : Int32))) (rE : Exa Z h0 r "com/example/pathloom/pathloom/web/MediaType$Reader") (rT : Fld Z h0 r "com/example/pathloom/pathloom/web/MediaType$Reader" "text" "Ljava/lang/String;" (.ref a)) (rP : Fld Z h0 r "com/example/pathloom/pathloom/web/MediaType$Reader" "position" "I" (.int (2 : Int32))) :
    MetFree l (⟨"com/example/pathloom/pathloom/web/MediaType$Reader", "at", "(C)Z"⟩ : MethodName) (head1 (Jvm.Cond.code (⟨"com/example/pathloom/pathloom/web/MediaType$Reader", "at", "(C)Z"⟩ : MethodName) prog_35_method_4_code 2 (some .boolean) :: ws) ({ frames := 3, cells := 0, slots := 0, locals := 38 } : Room)) (fun aa_ U => aa_ = #[(.ref r), (.int c)] ∧ Z.Warmed39 U.vm ∧ U.heap = h0) (fun _ _ _ _ _ => True) (fun _ U o_ U' => RetG U (Q_rdat_2_2 Z r a b kb bs cz c h0 n0) 0 0 U' o_) := by
  refine MetFree.of_bodySF (plainFor_of_name own_pn3) hisR ?_
  intro p e s m args below meth c_ s₁ Bd hml0 hP hK
  obtain ⟨rfl, hZ, hh⟩ := hP
  have hx := Bd.exec
  have hby := Bd.bytes
  have hml : c_.maxLocals = 2 := hml0
  have hown : s.vm.findClass "com/example/pathloom/pathloom/web/MediaType$Reader" = some m.cls := findClass_of_methodNamed Bd.named
  have hnm := (name_of_methodNamed Bd.named Bd.method).1
  have X0 : Stand p l e ({ frames := 3, cells := 0, slots := 0, locals := 38 } : Room) s m #[(.ref r), (.int c)] below meth c_ s₁ [] 0 0 := Stand.of_body Bd
  have e0 : s₁.heap = h0 := by rw [← hh, Bd.state]; rfl
  have N0 := Fr.nil n0
  have w28_ := hw _ (List.mem_of_getElem? (i := 28) rfl)
  have w36_ := hw _ (List.mem_of_getElem? (i := 36) rfl)
  have w37_ := hw _ (List.mem_of_getElem? (i := 37) rfl)
  have w38_ := hw _ (List.mem_of_getElem? (i := 38) rfl)
  have w39_ := hw _ (List.mem_of_getElem? (i := 39) rfl)
  have w66_ := hw _ (List.mem_of_getElem? (i := 66) rfl)
  show Go p e below (RetG s (Q_rdat_2_2 Z r a b kb bs cz c h0 n0) 0 0) (s₁.setTop (entryFrame m #[(.ref r), (.int c)] 2))
  rw [show entryFrame m #[(.ref r), (.int c)] 2 = mkF m 0 #[.val (.ref r), .val (.int c)] [] from by first | (simp [entryFrame, mkF, argsToLocals, Value.category]; done) | rfl]
  refine g_aloadN X0 hx hby d11_0 rfl rfl ?_
  refine g_virtual X0 hx hby hZ hown (rm_rdend_2_2 l Z a0 hw [] r a b kb bs cz h0 n0 Z0 O2 P5 OLD E C VF VB rE rT rP) w66_ w36_ (notFace_of_selects (args := #[]) (mvT hZ w38_)) w38_ w37_ w28_ w39_ (by decide) e0 rE (by rw [hml]; rfl) [] (lenOf own_pd7 rfl) rfl rfl (Nat.le_of_ble_eq_true rfl) (Nat.le_of_ble_eq_true rfl) (Nat.le_of_ble_eq_true rfl) (Nat.le_of_ble_eq_true rfl) d11_1 (fun v1 T1 L1 X1 hQ1 => ?_)
  obtain ⟨rfl, N1q, eh1⟩ := hQ1
  have N1 := Fr.app N0 N1q
  refine g_ifY X1 hx hby 26 d11_4 (feq (by decide : ¬ ((1 : Int32) = (0 : Int32)))).2 (by decide) (by decide) ?_
  refine g_iconst X1 hx hby (0 : Int32) d11_26 rfl ?_
  refine g_nret X1 hx hby (t := .boolean) (by simp) Bd.returns Bd.notSynchronized d11_27 eh1 (by decide) (by decide) ?_
  show (Q_rdat_2_2 Z r a b kb bs cz c h0 n0) (some (.int (0 : Int32))) _ _
  exact ⟨rfl, N1, rfl⟩

def Q_rdtake_2_2 (Z : State) (r : Addr) (a : Addr) (b : Addr) (kb : ClassId) (bs : List Value) (cz : Int32) (c : Int32) (h0 : Heap) (n0 : Nat) (v : Option Value) (h : Heap) (L : List Loc) : Prop := v = some (.int (0 : Int32)) ∧ Fr n0 L ∧ Keep h0 h [r] ∧ Exa Z h r "com/example/pathloom/pathloom/web/MediaType$Reader" ∧ Fld Z h r "com/example/pathloom/pathloom/web/MediaType$Reader" "text" "Ljava/lang/String;" (.ref a) ∧ Fld Z h r "com/example/pathloom/pathloom/web/MediaType$Reader" "position" "I" (.int (2 : Int32))
set_option maxRecDepth 65536 in
set_option maxHeartbeats 40000000 in
theorem rm_rdtake_2_2 (l : Launch) (Z : State) (a0 : Array Value) (hw : ∀ d ∈ tables_1, d.before a0 Z = true) (ws : List Jvm.Cond) (r : Addr) (a : Addr) (b : Addr) (kb : ClassId) (bs : List Value) (cz : Int32) (c : Int32) (h0 : Heap) (n0 : Nat) (Z0 : n0 ≤ h0.size) (O2 : Sta Z Z.heap "java/lang/String" "COMPACT_STRINGS" "Z" (.int cz)) (P5 : ¬ cz = (0 : Int32)) (OLD : Old Z n0 h0) (E : Exa Z h0 a "java/lang/String") (C : Fld Z h0 a "java/lang/String" "coder" "B" (.int (0 : Int32))) (VF : Fld Z h0 a "java/lang/String" "value" "[B" (.ref b)) (VB : Arv Z h0 b kb .byte (2 : Int32) bs (.int (0 : Int32))) (rE : Exa Z h0 r "com/example/pathloom/pathloom/web/MediaType$Reader") (rT : Fld Z h0 r "com/example/pathloom/pathloom/web/MediaType$Reader" "text" "Ljava/lang/String;" (.ref a)) (rP : Fld Z h0 r "com/example/pathloom/pathloom/web/MediaType$Reader" "position" "I" (.int (2 : Int32))) (gr : n0 ≤ r) (nra : r ≠ a) (nrb : r ≠ b) :
    MetFree l (⟨"com/example/pathloom/pathloom/web/MediaType$Reader", "take", "(C)Z"⟩ : MethodName) (head1 (Jvm.Cond.code (⟨"com/example/pathloom/pathloom/web/MediaType$Reader", "take", "(C)Z"⟩ : MethodName) prog_35_method_5_code 3 (some .boolean) :: ws) ({ frames := 4, cells := 0, slots := 0, locals := 51 } : Room)) (fun aa_ U => aa_ = #[(.ref r), (.int c)] ∧ Z.Warmed39 U.vm ∧ U.heap = h0) (fun _ _ _ _ _ => True) (fun _ U o_ U' => RetG U (Q_rdtake_2_2 Z r a b kb bs cz c h0 n0) 0 0 U' o_) := by
  refine MetFree.of_bodySF (plainFor_of_name own_pn3) hisR ?_
  intro p e s m args below meth c_ s₁ Bd hml0 hP hK
  obtain ⟨rfl, hZ, hh⟩ := hP
  have hx := Bd.exec
  have hby := Bd.bytes
  have hml : c_.maxLocals = 3 := hml0
  have hown : s.vm.findClass "com/example/pathloom/pathloom/web/MediaType$Reader" = some m.cls := findClass_of_methodNamed Bd.named
  have hnm := (name_of_methodNamed Bd.named Bd.method).1
  have X0 : Stand p l e ({ frames := 4, cells := 0, slots := 0, locals := 51 } : Room) s m #[(.ref r), (.int c)] below meth c_ s₁ [] 0 0 := Stand.of_body Bd
  have e0 : s₁.heap = h0 := by rw [← hh, Bd.state]; rfl
  have N0 := Fr.nil n0
  have w28_ := hw _ (List.mem_of_getElem? (i := 28) rfl)
  have w61_ := hw _ (List.mem_of_getElem? (i := 61) rfl)
  have w62_ := hw _ (List.mem_of_getElem? (i := 62) rfl)
  have w63_ := hw _ (List.mem_of_getElem? (i := 63) rfl)
  have w64_ := hw _ (List.mem_of_getElem? (i := 64) rfl)
  have w65_ := hw _ (List.mem_of_getElem? (i := 65) rfl)
  show Go p e below (RetG s (Q_rdtake_2_2 Z r a b kb bs cz c h0 n0) 0 0) (s₁.setTop (entryFrame m #[(.ref r), (.int c)] 3))
  rw [show entryFrame m #[(.ref r), (.int c)] 3 = mkF m 0 #[.val (.ref r), .val (.int c), .unset] [] from by first | (simp [entryFrame, mkF, argsToLocals, Value.category]; done) | rfl]
  refine g_aloadN X0 hx hby d10_0 rfl rfl ?_
  refine g_iloadN X0 hx hby d10_1 rfl ?_
  refine g_virtual X0 hx hby hZ hown (rm_rdat_2_2 l Z a0 hw [] r a b kb bs cz c h0 n0 Z0 O2 P5 OLD E C VF VB rE rT rP) w61_ w62_ (notFace_of_selects (args := #[]) (mvT hZ w64_)) w64_ w63_ w28_ w65_ (by decide) e0 rE (by rw [hml]; rfl) [(.int c)] (lenOf own_pd8 rfl) rfl rfl (Nat.le_of_ble_eq_true rfl) (Nat.le_of_ble_eq_true rfl) (Nat.le_of_ble_eq_true rfl) (Nat.le_of_ble_eq_true rfl) d10_2 (fun v1 T1 L1 X1 hQ1 => ?_)
  obtain ⟨rfl, N1q, eh1⟩ := hQ1
  have N1 := Fr.app N0 N1q
  refine g_istoreN X1 hx hby d10_5 (l' := #[.val (.ref r), .val (.int c), .val (.int (0 : Int32))]) rfl ?_
  refine g_iloadN X1 hx hby d10_6 rfl ?_
  refine g_ifY X1 hx hby 20 d10_7 (teq (by decide : (0 : Int32) = (0 : Int32))).1 (by decide) (by decide) ?_
  refine g_iloadN X1 hx hby d10_20 rfl ?_
  refine g_nret X1 hx hby (t := .boolean) (by simp) Bd.returns Bd.notSynchronized d10_21 eh1 (by decide) (by decide) ?_
  show (Q_rdtake_2_2 Z r a b kb bs cz c h0 n0) (some (.int (0 : Int32))) _ _
  exact ⟨rfl, N1, (Keep.refl h0 [r]), rE, rT, rP⟩

def Q_step22 (Z : State) (r : Addr) (a : Addr) (b : Addr) (kb : ClassId) (cz : Int32) (al : Addr) (ka : ClassId) (c0 : Int32) (c1 : Int32) (c2 : Int32) (fz : Value) (h0 : Heap) (n0 : Nat) (v : Option Value) (h : Heap) (L : List Loc) : Prop := v = some (.int (1 : Int32)) ∧ Fr n0 L ∧ Keep h0 h [r] ∧ Exa Z h r "com/example/pathloom/pathloom/web/MediaType$Reader" ∧ Fld Z h r "com/example/pathloom/pathloom/web/MediaType$Reader" "text" "Ljava/lang/String;" (.ref a) ∧ Fld Z h r "com/example/pathloom/pathloom/web/MediaType$Reader" "position" "I" (.int (2 : Int32))
set_option maxRecDepth 65536 in
set_option maxHeartbeats 40000000 in
theorem rm_step22 (l : Launch) (Z : State) (a0 : Array Value) (hw : ∀ d ∈ tables_1, d.before a0 Z = true) (ws : List Jvm.Cond) (r : Addr) (a : Addr) (b : Addr) (kb : ClassId) (cz : Int32) (al : Addr) (ka : ClassId) (c0 : Int32) (c1 : Int32) (c2 : Int32) (fz : Value) (h0 : Heap) (n0 : Nat) (Z0 : n0 ≤ h0.size) (O2 : Sta Z Z.heap "java/lang/String" "COMPACT_STRINGS" "Z" (.int cz)) (P5 : ¬ cz = (0 : Int32)) (OLD : Old Z n0 h0) (E : Exa Z h0 a "java/lang/String") (C : Fld Z h0 a "java/lang/String" "coder" "B" (.int (0 : Int32))) (VF : Fld Z h0 a "java/lang/String" "value" "[B" (.ref b)) (VB : Arv Z h0 b kb .byte (2 : Int32) [(.int (nar .byte ((nar .char c0).toInt8.toInt32))), (.int (nar .byte ((nar .char c1).toInt8.toInt32)))] (.int (0 : Int32))) (rE : Exa Z h0 r "com/example/pathloom/pathloom/web/MediaType$Reader") (rT : Fld Z h0 r "com/example/pathloom/pathloom/web/MediaType$Reader" "text" "Ljava/lang/String;" (.ref a)) (rP : Fld Z h0 r "com/example/pathloom/pathloom/web/MediaType$Reader" "position" "I" (.int (2 : Int32))) (VA : Arv Z h0 al ka .char (3 : Int32) [(.int c0), (.int c1), (.int c2)] (.int (0 : Int32))) (hc0 : 0 ≤ c0.toInt ∧ c0.toInt ≤ 255) (hc1 : 0 ≤ c1.toInt ∧ c1.toInt ≤ 255) (hc2 : 0 ≤ c2.toInt ∧ c2.toInt ≤ 255) (rfz : Rf fz) (O4 : Sta Z Z.heap "jdk/internal/util/Preconditions" "SIOOBE_FORMATTER" "Ljava/util/function/BiFunction;" fz) (gr : n0 ≤ r) (nra : r ≠ a) (nrb : r ≠ b) :
    MetFree l (⟨"com/example/pathloom/pathloom/web/ReaderAtEndPinLaw", "step", "(Lcom/example/pathloom/pathloom/web/MediaType$Reader;II[C)Z"⟩ : MethodName) (head1 (Jvm.Cond.code (⟨"com/example/pathloom/pathloom/web/ReaderAtEndPinLaw", "step", "(Lcom/example/pathloom/pathloom/web/MediaType$Reader;II[C)Z"⟩ : MethodName) method_4_code 6 (some .boolean) :: ws) ({ frames := 5, cells := 0, slots := 0, locals := 65 } : Room)) (fun aa_ U => aa_ = #[(.ref r), (.int (2 : Int32)), (.int (2 : Int32)), (.ref al)] ∧ Z.Warmed39 U.vm ∧ U.heap = h0) (fun _ _ _ _ _ => True) (fun _ U o_ U' => RetG U (Q_step22 Z r a b kb cz al ka c0 c1 c2 fz h0 n0) 0 0 U' o_) := by
  refine MetFree.of_bodySF (plainFor_of_name own_pn1) hisR ?_
  intro p e s m args below meth c_ s₁ Bd hml0 hP hK
  obtain ⟨rfl, hZ, hh⟩ := hP
  have hx := Bd.exec
  have hby := Bd.bytes
  have hml : c_.maxLocals = 6 := hml0
  have hown : s.vm.findClass "com/example/pathloom/pathloom/web/ReaderAtEndPinLaw" = some m.cls := findClass_of_methodNamed Bd.named
  have hnm := (name_of_methodNamed Bd.named Bd.method).1
  have X0 : Stand p l e ({ frames := 5, cells := 0, slots := 0, locals := 65 } : Room) s m #[(.ref r), (.int (2 : Int32)), (.int (2 : Int32)), (.ref al)] below meth c_ s₁ [] 0 0 := Stand.of_body Bd
  have e0 : s₁.heap = h0 := by rw [← hh, Bd.state]; rfl
  have N0 := Fr.nil n0
  have w28_ := hw _ (List.mem_of_getElem? (i := 28) rfl)
  have w35_ := hw _ (List.mem_of_getElem? (i := 35) rfl)
  have w36_ := hw _ (List.mem_of_getElem? (i := 36) rfl)
  have w37_ := hw _ (List.mem_of_getElem? (i := 37) rfl)
  have w38_ := hw _ (List.mem_of_getElem? (i := 38) rfl)
  have w39_ := hw _ (List.mem_of_getElem? (i := 39) rfl)
  have w56_ := hw _ (List.mem_of_getElem? (i := 56) rfl)
  have w57_ := hw _ (List.mem_of_getElem? (i := 57) rfl)
  have w58_ := hw _ (List.mem_of_getElem? (i := 58) rfl)
  have w59_ := hw _ (List.mem_of_getElem? (i := 59) rfl)
  have w60_ := hw _ (List.mem_of_getElem? (i := 60) rfl)
  have w67_ := hw _ (List.mem_of_getElem? (i := 67) rfl)
  have w68_ := hw _ (List.mem_of_getElem? (i := 68) rfl)
  have w69_ := hw _ (List.mem_of_getElem? (i := 69) rfl)
  have w70_ := hw _ (List.mem_of_getElem? (i := 70) rfl)
  show Go p e below (RetG s (Q_step22 Z r a b kb cz al ka c0 c1 c2 fz h0 n0) 0 0) (s₁.setTop (entryFrame m #[(.ref r), (.int (2 : Int32)), (.int (2 : Int32)), (.ref al)] 6))
  rw [show entryFrame m #[(.ref r), (.int (2 : Int32)), (.int (2 : Int32)), (.ref al)] 6 = mkF m 0 #[.val (.ref r), .val (.int (2 : Int32)), .val (.int (2 : Int32)), .val (.ref al), .unset, .unset] [] from by first | (simp [entryFrame, mkF, argsToLocals, Value.category]; done) | rfl]
  refine g_aloadN X0 hx hby d9_0 rfl rfl ?_
  refine g_aloadN X0 hx hby d9_1 rfl rfl ?_
  refine g_iloadN X0 hx hby d9_2 rfl ?_
  refine g_caload X0 hx hby hZ e0 VA (.int c2) ⟨by decide, by decide⟩ rfl d9_3 ?_
  refine g_virtual X0 hx hby hZ hown (rm_rdtake_2_2 l Z a0 hw [] r a b kb [(.int (nar .byte ((nar .char c0).toInt8.toInt32))), (.int (nar .byte ((nar .char c1).toInt8.toInt32)))] cz c2 h0 n0 Z0 O2 P5 OLD E C VF VB rE rT rP gr nra nrb) w56_ w57_ (notFace_of_selects (args := #[]) (mvT hZ w59_)) w59_ w58_ w28_ w60_ (by decide) e0 rE (by rw [hml]; rfl) [(.int c2)] (lenOf own_pd8 rfl) rfl rfl (Nat.le_of_ble_eq_true rfl) (Nat.le_of_ble_eq_true rfl) (Nat.le_of_ble_eq_true rfl) (Nat.le_of_ble_eq_true rfl) d9_4 (fun v1 T1 L1 X1 hQ1 => ?_)
  obtain ⟨rfl, N1q, K1, Er1, Tr1, Pr1⟩ := hQ1
  have N1 := Fr.app N0 N1q
  refine g_istore X1 hx hby d9_7 (l' := #[.val (.ref r), .val (.int (2 : Int32)), .val (.int (2 : Int32)), .val (.ref al), .val (.int (0 : Int32)), .unset]) rfl ?_
  refine g_iloadN X1 hx hby d9_9 rfl ?_
  refine g_iconst X1 hx hby (1 : Int32) d9_10 rfl ?_
  refine g_iadd X1 hx hby d9_11 ?_
  refine g_topI (3 : Int32) (by decide) ?_
  refine g_iloadN X1 hx hby d9_12 rfl ?_
  have z3 := (Nat.le_trans Z0 K1.1)
  refine g_static X1 hx hby hZ hown (rm_mmin l Z a0 hw [] (3 : Int32) (2 : Int32) T1.heap n0 z3 ) w67_ w68_ w69_ w70_ (by decide) rfl (by rw [hml]; rfl) [(.int (3 : Int32)), (.int (2 : Int32))] (lenOf own_pd9 rfl) rfl rfl (Nat.le_of_ble_eq_true rfl) (Nat.le_of_ble_eq_true rfl) (Nat.le_of_ble_eq_true rfl) (Nat.le_of_ble_eq_true rfl) d9_13 (fun v2 T2 L2 X2 hQ2 => ?_)
  obtain ⟨rfl, N2q, eh2⟩ := hQ2
  have N2 := Fr.app N1 N2q
  refine g_topI (T := T2) (2 : Int32) (by decide) ?_
  refine g_istore X2 hx hby d9_16 (l' := #[.val (.ref r), .val (.int (2 : Int32)), .val (.int (2 : Int32)), .val (.ref al), .val (.int (0 : Int32)), .val (.int (2 : Int32))]) rfl ?_
  refine g_iload X2 hx hby d9_18 rfl ?_
  refine g_iloadN X2 hx hby d9_20 rfl ?_
  refine g_iloadN X2 hx hby d9_21 rfl ?_
  refine g_at 22 rfl rfl rfl ?_
  refine g_icY X2 hx hby 29 d9_22 (flt (by decide : ¬ ((2 : Int32) < (2 : Int32)))).2.1 (by decide) (by decide) ?_
  refine g_iconst X2 hx hby (0 : Int32) d9_29 rfl ?_
  refine g_icN X2 hx hby d9_30 (teq (by decide : (0 : Int32) = (0 : Int32))).2 ?_
  refine g_aloadN X2 hx hby d9_33 rfl rfl ?_
  have f5 := (E.keep K1)
  have f6 := (C.keep K1 (ninS (Ne.symm nra) nin0))
  have f7 := (VF.keep K1 (ninS (Ne.symm nra) nin0))
  have f8 := (VB.keep K1 (ninS (Ne.symm nrb) nin0))
  have f9 := (OLD.keep K1 (allS gr all0))
  refine g_virtual X2 hx hby hZ hown (rm_rdend_2_2 l Z a0 hw [] r a b kb [(.int (nar .byte ((nar .char c0).toInt8.toInt32))), (.int (nar .byte ((nar .char c1).toInt8.toInt32)))] cz T1.heap n0 z3 O2 P5 f9 f5 f6 f7 f8 Er1 Tr1 Pr1) w35_ w36_ (notFace_of_selects (args := #[]) (mvT hZ w38_)) w38_ w37_ w28_ w39_ (by decide) eh2 Er1 (by rw [hml]; rfl) [] (lenOf own_pd7 rfl) rfl rfl (Nat.le_of_ble_eq_true rfl) (Nat.le_of_ble_eq_true rfl) (Nat.le_of_ble_eq_true rfl) (Nat.le_of_ble_eq_true rfl) d9_34 (fun v4 T4 L4 X4 hQ4 => ?_)
  obtain ⟨rfl, N4q, eh4⟩ := hQ4
  have N4 := Fr.app N2 N4q
  refine g_iload X4 hx hby d9_37 rfl ?_
  refine g_iloadN X4 hx hby d9_39 rfl ?_
  refine g_icN X4 hx hby d9_40 (teq (by decide : (2 : Int32) = (2 : Int32))).2 ?_
  refine g_iconst X4 hx hby (1 : Int32) d9_43 rfl ?_
  refine g_goto X4 hx hby 48 d9_44 (by decide) (by decide) ?_
  refine g_icN X4 hx hby d9_48 (teq (by decide : (1 : Int32) = (1 : Int32))).2 ?_
  refine g_iconst X4 hx hby (1 : Int32) d9_51 rfl ?_
  refine g_goto X4 hx hby 56 d9_52 (by decide) (by decide) ?_
  refine g_nret X4 hx hby (t := .boolean) (by simp) Bd.returns Bd.notSynchronized d9_56 eh4 (by decide) (by decide) ?_
  show (Q_step22 Z r a b kb cz al ka c0 c1 c2 fz h0 n0) (some (.int (1 : Int32))) _ _
  exact ⟨rfl, N4, ((Keep.refl h0 [r]).trans K1 (allS (Or.inl (List.mem_of_getElem? (i := 0) rfl)) all0)), Er1, Tr1, Pr1⟩

def Q_slen_3 (Z : State) (a : Addr) (b : Addr) (kb : ClassId) (bs : List Value) (cz : Int32) (h0 : Heap) (n0 : Nat) (v : Option Value) (h : Heap) (L : List Loc) : Prop := v = some (.int (3 : Int32)) ∧ Fr n0 L ∧ h = h0
set_option maxRecDepth 65536 in
set_option maxHeartbeats 40000000 in
theorem rm_slen_3 (l : Launch) (Z : State) (a0 : Array Value) (hw : ∀ d ∈ tables_1, d.before a0 Z = true) (ws : List Jvm.Cond) (a : Addr) (b : Addr) (kb : ClassId) (bs : List Value) (cz : Int32) (h0 : Heap) (n0 : Nat) (Z0 : n0 ≤ h0.size) (O2 : Sta Z Z.heap "java/lang/String" "COMPACT_STRINGS" "Z" (.int cz)) (P5 : ¬ cz = (0 : Int32)) (OLD : Old Z n0 h0) (E : Exa Z h0 a "java/lang/String") (C : Fld Z h0 a "java/lang/String" "coder" "B" (.int (0 : Int32))) (VF : Fld Z h0 a "java/lang/String" "value" "[B" (.ref b)) (VB : Arv Z h0 b kb .byte (3 : Int32) bs (.int (0 : Int32))) :
    MetFree l (⟨"java/lang/String", "length", "()I"⟩ : MethodName) (head1 (Jvm.Cond.code (⟨"java/lang/String", "length", "()I"⟩ : MethodName) jdk_42_method_54_code 1 (some .int) :: ws) ({ frames := 1, cells := 0, slots := 0, locals := 13 } : Room)) (fun aa_ U => aa_ = #[(.ref a)] ∧ Z.Warmed39 U.vm ∧ U.heap = h0) (fun _ _ _ _ _ => True) (fun _ U o_ U' => RetG U (Q_slen_3 Z a b kb bs cz h0 n0) 0 0 U' o_) := by
  refine MetFree.of_bodySF (plainFor_of_name own_pn0) hisR ?_
  intro p e s m args below meth c_ s₁ Bd hml0 hP hK
  obtain ⟨rfl, hZ, hh⟩ := hP
  have hx := Bd.exec
  have hby := Bd.bytes
  have hml : c_.maxLocals = 1 := hml0
  have hown : s.vm.findClass "java/lang/String" = some m.cls := findClass_of_methodNamed Bd.named
  have hnm := (name_of_methodNamed Bd.named Bd.method).1
  have X0 : Stand p l e ({ frames := 1, cells := 0, slots := 0, locals := 13 } : Room) s m #[(.ref a)] below meth c_ s₁ [] 0 0 := Stand.of_body Bd
  have e0 : s₁.heap = h0 := by rw [← hh, Bd.state]; rfl
  have N0 := Fr.nil n0
  have w7_ := hw _ (List.mem_of_getElem? (i := 7) rfl)
  have w24_ := hw _ (List.mem_of_getElem? (i := 24) rfl)
  have w47_ := hw _ (List.mem_of_getElem? (i := 47) rfl)
  have w48_ := hw _ (List.mem_of_getElem? (i := 48) rfl)
  have w49_ := hw _ (List.mem_of_getElem? (i := 49) rfl)
  have w50_ := hw _ (List.mem_of_getElem? (i := 50) rfl)
  have w51_ := hw _ (List.mem_of_getElem? (i := 51) rfl)
  show Go p e below (RetG s (Q_slen_3 Z a b kb bs cz h0 n0) 0 0) (s₁.setTop (entryFrame m #[(.ref a)] 1))
  rw [show entryFrame m #[(.ref a)] 1 = mkF m 0 #[.val (.ref a)] [] from by first | (simp [entryFrame, mkF, argsToLocals, Value.category]; done) | rfl]
  refine g_aloadN X0 hx hby d7_0 rfl rfl ?_
  refine g_getF X0 hx hby hZ hown (host := "") (Or.inl w24_) Via.refl e0 VF d7_1 (fun T1 X1 e1 => ?_)
  refine g_arraylength X1 hx hby hZ e1 VB d7_4 ?_
  refine g_aloadN X1 hx hby d7_5 rfl rfl ?_
  refine g_virtual X1 hx hby hZ hown (rm_coder l Z a0 hw [] a (0 : Int32) cz h0 n0 Z0 O2 P5 OLD C) w47_ w48_ (notFace_of_selects (args := #[]) (mvT hZ w50_)) w50_ w49_ w7_ w51_ (by decide) e1 E (by rw [hml]; rfl) [] (lenOf own_pd5 rfl) rfl rfl (Nat.le_of_ble_eq_true rfl) (Nat.le_of_ble_eq_true rfl) (Nat.le_of_ble_eq_true rfl) (Nat.le_of_ble_eq_true rfl) d7_6 (fun v2 T2 L2 X2 hQ2 => ?_)
  obtain ⟨rfl, N2q, eh2⟩ := hQ2
  have N2 := Fr.app N0 N2q
  refine g_topI (T := T2) (0 : Int32) (by decide) ?_
  refine g_ishr X2 hx hby d7_9 ?_
  refine g_topI (3 : Int32) (by decide) ?_
  refine g_iret X2 hx hby Bd.returns Bd.notSynchronized d7_10 eh2 (by decide) (by decide) ?_
  show (Q_slen_3 Z a b kb bs cz h0 n0) (some (.int (3 : Int32))) _ _
  exact ⟨rfl, N2, rfl⟩

def Q_rdend_3_0 (Z : State) (r : Addr) (a : Addr) (b : Addr) (kb : ClassId) (bs : List Value) (cz : Int32) (h0 : Heap) (n0 : Nat) (v : Option Value) (h : Heap) (L : List Loc) : Prop := v = some (.int (0 : Int32)) ∧ Fr n0 L ∧ h = h0
set_option maxRecDepth 65536 in
set_option maxHeartbeats 40000000 in
theorem rm_rdend_3_0 (l : Launch) (Z : State) (a0 : Array Value) (hw : ∀ d ∈ tables_1, d.before a0 Z = true) (ws : List Jvm.Cond) (r : Addr) (a : Addr) (b : Addr) (kb : ClassId) (bs : List Value) (cz : Int32) (h0 : Heap) (n0 : Nat) (Z0 : n0 ≤ h0.size) (O2 : Sta Z Z.heap "java/lang/String" "COMPACT_STRINGS" "Z" (.int cz)) (P5 : ¬ cz = (0 : Int32)) (OLD : Old Z n0 h0) (E : Exa Z h0 a "java/lang/String") (C : Fld Z h0 a "java/lang/String" "coder" "B" (.int (0 : Int32))) (VF : Fld Z h0 a "java/lang/String" "value" "[B" (.ref b)) (VB : Arv Z h0 b kb .byte (3 : Int32) bs (.int (0 : Int32))) (rE : Exa Z h0 r "com/example/pathloom/pathloom/web/MediaType$Reader") (rT : Fld Z h0 r "com/example/pathloom/pathloom/web/MediaType$Reader" "text" "Ljava/lang/String;" (.ref a)) (rP : Fld Z h0 r "com/example/pathloom/pathloom/web/MediaType$Reader" "position" "I" (.int (0 : Int32))) :
    MetFree l (⟨"com/example/pathloom/pathloom/web/MediaType$Reader", "atEnd", "()Z"⟩ : MethodName) (head1 (Jvm.Cond.code (⟨"com/example/pathloom/pathloom/web/MediaType$Reader", "atEnd", "()Z"⟩ : MethodName) prog_35_method_2_code 1 (some .boolean) :: ws) ({ frames := 2, cells := 0, slots := 0, locals := 26 } : Room)) (fun aa_ U => aa_ = #[(.ref r)] ∧ Z.Warmed39 U.vm ∧ U.heap = h0) (fun _ _ _ _ _ => True) (fun _ U o_ U' => RetG U (Q_rdend_3_0 Z r a b kb bs cz h0 n0) 0 0 U' o_) := by
  refine MetFree.of_bodySF (plainFor_of_name own_pn3) hisR ?_
  intro p e s m args below meth c_ s₁ Bd hml0 hP hK
  obtain ⟨rfl, hZ, hh⟩ := hP
  have hx := Bd.exec
  have hby := Bd.bytes
  have hml : c_.maxLocals = 1 := hml0
  have hown : s.vm.findClass "com/example/pathloom/pathloom/web/MediaType$Reader" = some m.cls := findClass_of_methodNamed Bd.named
  have hnm := (name_of_methodNamed Bd.named Bd.method).1
  have X0 : Stand p l e ({ frames := 2, cells := 0, slots := 0, locals := 26 } : Room) s m #[(.ref r)] below meth c_ s₁ [] 0 0 := Stand.of_body Bd
  have e0 : s₁.heap = h0 := by rw [← hh, Bd.state]; rfl
  have N0 := Fr.nil n0
  have w7_ := hw _ (List.mem_of_getElem? (i := 7) rfl)
  have w33_ := hw _ (List.mem_of_getElem? (i := 33) rfl)
  have w40_ := hw _ (List.mem_of_getElem? (i := 40) rfl)
  have w42_ := hw _ (List.mem_of_getElem? (i := 42) rfl)
  have w43_ := hw _ (List.mem_of_getElem? (i := 43) rfl)
  have w44_ := hw _ (List.mem_of_getElem? (i := 44) rfl)
  have w45_ := hw _ (List.mem_of_getElem? (i := 45) rfl)
  have w46_ := hw _ (List.mem_of_getElem? (i := 46) rfl)
  show Go p e below (RetG s (Q_rdend_3_0 Z r a b kb bs cz h0 n0) 0 0) (s₁.setTop (entryFrame m #[(.ref r)] 1))
  rw [show entryFrame m #[(.ref r)] 1 = mkF m 0 #[.val (.ref r)] [] from by first | (simp [entryFrame, mkF, argsToLocals, Value.category]; done) | rfl]
  refine g_aloadN X0 hx hby d6_0 rfl rfl ?_
  refine g_getF X0 hx hby hZ hown (host := "") (Or.inl w40_) Via.refl e0 rP d6_1 (fun T1 X1 e1 => ?_)
  refine g_aloadN X1 hx hby d6_4 rfl rfl ?_
  refine g_getF X1 hx hby hZ hown (host := "") (Or.inl w33_) Via.refl e1 rT d6_5 (fun T2 X2 e2 => ?_)
  refine g_virtual X2 hx hby hZ hown (rm_slen_3 l Z a0 hw [] a b kb bs cz h0 n0 Z0 O2 P5 OLD E C VF VB) w42_ w43_ (notFace_of_selects (args := #[]) (mvT hZ w45_)) w45_ w44_ w7_ w46_ (by decide) e2 E (by rw [hml]; rfl) [] (lenOf own_pd6 rfl) rfl rfl (Nat.le_of_ble_eq_true rfl) (Nat.le_of_ble_eq_true rfl) (Nat.le_of_ble_eq_true rfl) (Nat.le_of_ble_eq_true rfl) d6_8 (fun v3 T3 L3 X3 hQ3 => ?_)
  obtain ⟨rfl, N3q, eh3⟩ := hQ3
  have N3 := Fr.app N0 N3q
  refine g_icY X3 hx hby 18 d6_11 (feq (by decide : ¬ ((0 : Int32) = (3 : Int32)))).2 (by decide) (by decide) ?_
  refine g_iconst X3 hx hby (0 : Int32) d6_18 rfl ?_
  refine g_nret X3 hx hby (t := .boolean) (by simp) Bd.returns Bd.notSynchronized d6_19 eh3 (by decide) (by decide) ?_
  show (Q_rdend_3_0 Z r a b kb bs cz h0 n0) (some (.int (0 : Int32))) _ _
  exact ⟨rfl, N3, rfl⟩

def Q_lchar_3 (Z : State) (b : Addr) (kb : ClassId) (bs : List Value) (j : Int32) (bv : Int32) (fz : Value) (h0 : Heap) (n0 : Nat) (v : Option Value) (h : Heap) (L : List Loc) : Prop := v = some (.int (nar .char ((bv &&& (255 : Int32)).toUInt32.toUInt16.toUInt32.toInt32))) ∧ Fr n0 L ∧ h = h0
set_option maxRecDepth 65536 in
set_option maxHeartbeats 40000000 in
theorem rm_lchar_3 (l : Launch) (Z : State) (a0 : Array Value) (hw : ∀ d ∈ tables_1, d.before a0 Z = true) (ws : List Jvm.Cond) (b : Addr) (kb : ClassId) (bs : List Value) (j : Int32) (bv : Int32) (fz : Value) (h0 : Heap) (n0 : Nat) (Z0 : n0 ≤ h0.size) (VB : Arv Z h0 b kb .byte (3 : Int32) bs (.int (0 : Int32))) (hj : ¬ j < 0 ∧ j < (3 : Int32)) (hv : bs.getD j.toNatClampNeg (.int (0 : Int32)) = .int bv) (rfz : Rf fz) (O4 : Sta Z Z.heap "jdk/internal/util/Preconditions" "SIOOBE_FORMATTER" "Ljava/util/function/BiFunction;" fz) (OLD : Old Z n0 h0) :
    MetFree l (⟨"java/lang/StringLatin1", "charAt", "([BI)C"⟩ : MethodName) (head1 (Jvm.Cond.code (⟨"java/lang/StringLatin1", "charAt", "([BI)C"⟩ : MethodName) jdk_43_method_2_code 2 (some .char) :: ws) ({ frames := 2, cells := 0, slots := 0, locals := 27 } : Room)) (fun aa_ U => aa_ = #[(.ref b), (.int j)] ∧ Z.Warmed39 U.vm ∧ U.heap = h0) (fun _ _ _ _ _ => True) (fun _ U o_ U' => RetG U (Q_lchar_3 Z b kb bs j bv fz h0 n0) 0 0 U' o_) := by
  refine MetFree.of_bodySF (plainFor_of_name own_pn5) hisR ?_
  intro p e s m args below meth c_ s₁ Bd hml0 hP hK
  obtain ⟨rfl, hZ, hh⟩ := hP
  have hx := Bd.exec
  have hby := Bd.bytes
  have hml : c_.maxLocals = 2 := hml0
  have hown : s.vm.findClass "java/lang/StringLatin1" = some m.cls := findClass_of_methodNamed Bd.named
  have hnm := (name_of_methodNamed Bd.named Bd.method).1
  have X0 : Stand p l e ({ frames := 2, cells := 0, slots := 0, locals := 27 } : Room) s m #[(.ref b), (.int j)] below meth c_ s₁ [] 0 0 := Stand.of_body Bd
  have e0 : s₁.heap = h0 := by rw [← hh, Bd.state]; rfl
  have N0 := Fr.nil n0
  have w7_ := hw _ (List.mem_of_getElem? (i := 7) rfl)
  have w95_ := hw _ (List.mem_of_getElem? (i := 95) rfl)
  have w96_ := hw _ (List.mem_of_getElem? (i := 96) rfl)
  have w97_ := hw _ (List.mem_of_getElem? (i := 97) rfl)
  show Go p e below (RetG s (Q_lchar_3 Z b kb bs j bv fz h0 n0) 0 0) (s₁.setTop (entryFrame m #[(.ref b), (.int j)] 2))
  rw [show entryFrame m #[(.ref b), (.int j)] 2 = mkF m 0 #[.val (.ref b), .val (.int j)] [] from by first | (simp [entryFrame, mkF, argsToLocals, Value.category]; done) | rfl]
  refine g_iloadN X0 hx hby d18_0 rfl ?_
  refine g_aloadN X0 hx hby d18_1 rfl rfl ?_
  refine g_arraylength X0 hx hby hZ e0 VB d18_2 ?_
  refine g_static X0 hx hby hZ hown (rm_schk l Z a0 hw [] j (3 : Int32) fz h0 n0 Z0 hj rfz O4 OLD) w95_ w96_ w7_ w97_ (by decide) e0 (by rw [hml]; rfl) [(.int j), (.int (3 : Int32))] (lenOf own_pd11 rfl) rfl rfl (Nat.le_of_ble_eq_true rfl) (Nat.le_of_ble_eq_true rfl) (Nat.le_of_ble_eq_true rfl) (Nat.le_of_ble_eq_true rfl) d18_3 (fun v1 T1 L1 X1 hQ1 => ?_)
  obtain ⟨rfl, N1q, eh1⟩ := hQ1
  have N1 := Fr.app N0 N1q
  refine g_aloadN X1 hx hby d18_6 rfl rfl ?_
  refine g_iloadN X1 hx hby d18_7 rfl ?_
  refine g_baload X1 hx hby hZ eh1 VB (.int bv) hj hv d18_8 ?_
  refine g_sipush X1 hx hby (255 : Int32) d18_9 rfl ?_
  refine g_iand X1 hx hby d18_12 ?_
  refine g_i2c X1 hx hby d18_13 ?_
  refine g_nret X1 hx hby (t := .char) (by simp) Bd.returns Bd.notSynchronized d18_14 eh1 (by decide) (by decide) ?_
  show (Q_lchar_3 Z b kb bs j bv fz h0 n0) (some (.int (nar .char ((bv &&& (255 : Int32)).toUInt32.toUInt16.toUInt32.toInt32)))) _ _
  exact ⟨rfl, N1, rfl⟩

def Q_schar_3 (Z : State) (a : Addr) (b : Addr) (kb : ClassId) (bs : List Value) (j : Int32) (bv : Int32) (fz : Value) (cz : Int32) (h0 : Heap) (n0 : Nat) (v : Option Value) (h : Heap) (L : List Loc) : Prop := v = some (.int (nar .char (nar .char ((bv &&& (255 : Int32)).toUInt32.toUInt16.toUInt32.toInt32)))) ∧ Fr n0 L ∧ h = h0
set_option maxRecDepth 65536 in
set_option maxHeartbeats 40000000 in
theorem rm_schar_3 (l : Launch) (Z : State) (a0 : Array Value) (hw : ∀ d ∈ tables_1, d.before a0 Z = true) (ws : List Jvm.Cond) (a : Addr) (b : Addr) (kb : ClassId) (bs : List Value) (j : Int32) (bv : Int32) (fz : Value) (cz : Int32) (h0 : Heap) (n0 : Nat) (Z0 : n0 ≤ h0.size) (O2 : Sta Z Z.heap "java/lang/String" "COMPACT_STRINGS" "Z" (.int cz)) (P5 : ¬ cz = (0 : Int32)) (OLD : Old Z n0 h0) (E : Exa Z h0 a "java/lang/String") (C : Fld Z h0 a "java/lang/String" "coder" "B" (.int (0 : Int32))) (VF : Fld Z h0 a "java/lang/String" "value" "[B" (.ref b)) (VB : Arv Z h0 b kb .byte (3 : Int32) bs (.int (0 : Int32))) (hj : ¬ j < 0 ∧ j < (3 : Int32)) (hv : bs.getD j.toNatClampNeg (.int (0 : Int32)) = .int bv) (rfz : Rf fz) (O4 : Sta Z Z.heap "jdk/internal/util/Preconditions" "SIOOBE_FORMATTER" "Ljava/util/function/BiFunction;" fz) :
    MetFree l (⟨"java/lang/String", "charAt", "(I)C"⟩ : MethodName) (head1 (Jvm.Cond.code (⟨"java/lang/String", "charAt", "(I)C"⟩ : MethodName) jdk_42_method_56_code 2 (some .char) :: ws) ({ frames := 3, cells := 0, slots := 0, locals := 40 } : Room)) (fun aa_ U => aa_ = #[(.ref a), (.int j)] ∧ Z.Warmed39 U.vm ∧ U.heap = h0) (fun _ _ _ _ _ => True) (fun _ U o_ U' => RetG U (Q_schar_3 Z a b kb bs j bv fz cz h0 n0) 0 0 U' o_) := by
  refine MetFree.of_bodySF (plainFor_of_name own_pn0) hisR ?_
  intro p e s m args below meth c_ s₁ Bd hml0 hP hK
  obtain ⟨rfl, hZ, hh⟩ := hP
  have hx := Bd.exec
  have hby := Bd.bytes
  have hml : c_.maxLocals = 2 := hml0
  have hown : s.vm.findClass "java/lang/String" = some m.cls := findClass_of_methodNamed Bd.named
  have hnm := (name_of_methodNamed Bd.named Bd.method).1
  have X0 : Stand p l e ({ frames := 3, cells := 0, slots := 0, locals := 40 } : Room) s m #[(.ref a), (.int j)] below meth c_ s₁ [] 0 0 := Stand.of_body Bd
  have e0 : s₁.heap = h0 := by rw [← hh, Bd.state]; rfl
  have N0 := Fr.nil n0
  have w7_ := hw _ (List.mem_of_getElem? (i := 7) rfl)
  have w24_ := hw _ (List.mem_of_getElem? (i := 24) rfl)
  have w86_ := hw _ (List.mem_of_getElem? (i := 86) rfl)
  have w87_ := hw _ (List.mem_of_getElem? (i := 87) rfl)
  have w88_ := hw _ (List.mem_of_getElem? (i := 88) rfl)
  have w89_ := hw _ (List.mem_of_getElem? (i := 89) rfl)
  have w90_ := hw _ (List.mem_of_getElem? (i := 90) rfl)
  have w91_ := hw _ (List.mem_of_getElem? (i := 91) rfl)
  have w92_ := hw _ (List.mem_of_getElem? (i := 92) rfl)
  have w93_ := hw _ (List.mem_of_getElem? (i := 93) rfl)
  have w94_ := hw _ (List.mem_of_getElem? (i := 94) rfl)
  show Go p e below (RetG s (Q_schar_3 Z a b kb bs j bv fz cz h0 n0) 0 0) (s₁.setTop (entryFrame m #[(.ref a), (.int j)] 2))
  rw [show entryFrame m #[(.ref a), (.int j)] 2 = mkF m 0 #[.val (.ref a), .val (.int j)] [] from by first | (simp [entryFrame, mkF, argsToLocals, Value.category]; done) | rfl]
  refine g_aloadN X0 hx hby d16_0 rfl rfl ?_
  refine g_virtual X0 hx hby hZ hown (rm_islat l Z a0 hw [] a cz h0 n0 Z0 O2 P5 OLD C) w86_ w87_ (notFace_of_selects (args := #[]) (mvT hZ w89_)) w89_ w88_ w7_ w90_ (by decide) e0 E (by rw [hml]; rfl) [] (lenOf own_pd7 rfl) rfl rfl (Nat.le_of_ble_eq_true rfl) (Nat.le_of_ble_eq_true rfl) (Nat.le_of_ble_eq_true rfl) (Nat.le_of_ble_eq_true rfl) d16_1 (fun v1 T1 L1 X1 hQ1 => ?_)
  obtain ⟨rfl, N1q, eh1⟩ := hQ1
  have N1 := Fr.app N0 N1q
  refine g_ifN X1 hx hby d16_4 (feq (by decide : ¬ ((1 : Int32) = (0 : Int32)))).1 ?_
  refine g_aloadN X1 hx hby d16_7 rfl rfl ?_
  refine g_getF X1 hx hby hZ hown (host := "") (Or.inl w24_) Via.refl eh1 VF d16_8 (fun T2 X2 e2 => ?_)
  refine g_iloadN X2 hx hby d16_11 rfl ?_
  refine g_static X2 hx hby hZ hown (rm_lchar_3 l Z a0 hw [] b kb bs j bv fz h0 n0 Z0 VB hj hv rfz O4 OLD) w91_ w92_ w93_ w94_ (by decide) e2 (by rw [hml]; rfl) [(.ref b), (.int j)] (lenOf own_pd12 rfl) rfl rfl (Nat.le_of_ble_eq_true rfl) (Nat.le_of_ble_eq_true rfl) (Nat.le_of_ble_eq_true rfl) (Nat.le_of_ble_eq_true rfl) d16_12 (fun v3 T3 L3 X3 hQ3 => ?_)
  obtain ⟨rfl, N3q, eh3⟩ := hQ3
  have N3 := Fr.app N1 N3q
  refine g_nret X3 hx hby (t := .char) (by simp) Bd.returns Bd.notSynchronized d16_15 eh3 (by decide) (by decide) ?_
  show (Q_schar_3 Z a b kb bs j bv fz cz h0 n0) (some (.int (nar .char (nar .char ((bv &&& (255 : Int32)).toUInt32.toUInt16.toUInt32.toInt32))))) _ _
  exact ⟨rfl, N3, rfl⟩

def Q_rdat_3_0 (Z : State) (r : Addr) (a : Addr) (b : Addr) (kb : ClassId) (bs : List Value) (cz : Int32) (c : Int32) (bv : Int32) (fz : Value) (h0 : Heap) (n0 : Nat) (v : Option Value) (h : Heap) (L : List Loc) : Prop := v = some (.int (1 : Int32)) ∧ Fr n0 L ∧ h = h0
set_option maxRecDepth 65536 in
set_option maxHeartbeats 40000000 in
theorem rm_rdat_3_0 (l : Launch) (Z : State) (a0 : Array Value) (hw : ∀ d ∈ tables_1, d.before a0 Z = true) (ws : List Jvm.Cond) (r : Addr) (a : Addr) (b : Addr) (kb : ClassId) (bs : List Value) (cz : Int32) (c : Int32) (bv : Int32) (fz : Value) (h0 : Heap) (n0 : Nat) (Z0 : n0 ≤ h0.size) (O2 : Sta Z Z.heap "java/lang/String" "COMPACT_STRINGS" "Z" (.int cz)) (P5 : ¬ cz = (0 : Int32)) (OLD : Old Z n0 h0) (E : Exa Z h0 a "java/lang/String") (C : Fld Z h0 a "java/lang/String" "coder" "B" (.int (0 : Int32))) (VF : Fld Z h0 a "java/lang/String" "value" "[B" (.ref b)) (VB : Arv Z h0 b kb .byte (3 : Int32) bs (.int (0 : Int32))) (rE : Exa Z h0 r "com/example/pathloom/pathloom/web/MediaType$Reader") (rT : Fld Z h0 r "com/example/pathloom/pathloom/web/MediaType$Reader" "text" "Ljava/lang/String;" (.ref a)) (rP : Fld Z h0 r "com/example/pathloom/pathloom/web/MediaType$Reader" "position" "I" (.int (0 : Int32))) (hv : bs.getD 0 (.int (0 : Int32)) = .int bv) (hcb : nar .char (nar .char ((bv &&& (255 : Int32)).toUInt32.toUInt16.toUInt32.toInt32)) = c) (rfz : Rf fz) (O4 : Sta Z Z.heap "jdk/internal/util/Preconditions" "SIOOBE_FORMATTER" "Ljava/util/function/BiFunction;" fz) :
    MetFree l (⟨"com/example/pathloom/pathloom/web/MediaType$Reader", "at", "(C)Z"⟩ : MethodName) (head1 (Jvm.Cond.code (⟨"com/example/pathloom/pathloom/web/MediaType$Reader", "at", "(C)Z"⟩ : MethodName) prog_35_method_4_code 2 (some .boolean) :: ws) ({ frames := 4, cells := 0, slots := 0, locals := 53 } : Room)) (fun aa_ U => aa_ = #[(.ref r), (.int c)] ∧ Z.Warmed39 U.vm ∧ U.heap = h0) (fun _ _ _ _ _ => True) (fun _ U o_ U' => RetG U (Q_rdat_3_0 Z r a b kb bs cz c bv fz h0 n0) 0 0 U' o_) := by
  refine MetFree.of_bodySF (plainFor_of_name own_pn3) hisR ?_
  intro p e s m args below meth c_ s₁ Bd hml0 hP hK
  obtain ⟨rfl, hZ, hh⟩ := hP
  have hx := Bd.exec
  have hby := Bd.bytes
  have hml : c_.maxLocals = 2 := hml0
  have hown : s.vm.findClass "com/example/pathloom/pathloom/web/MediaType$Reader" = some m.cls := findClass_of_methodNamed Bd.named
  have hnm := (name_of_methodNamed Bd.named Bd.method).1
  have X0 : Stand p l e ({ frames := 4, cells := 0, slots := 0, locals := 53 } : Room) s m #[(.ref r), (.int c)] below meth c_ s₁ [] 0 0 := Stand.of_body Bd
  have e0 : s₁.heap = h0 := by rw [← hh, Bd.state]; rfl
  have N0 := Fr.nil n0
  have w7_ := hw _ (List.mem_of_getElem? (i := 7) rfl)
  have w28_ := hw _ (List.mem_of_getElem? (i := 28) rfl)
  have w33_ := hw _ (List.mem_of_getElem? (i := 33) rfl)
  have w36_ := hw _ (List.mem_of_getElem? (i := 36) rfl)
  have w37_ := hw _ (List.mem_of_getElem? (i := 37) rfl)
  have w38_ := hw _ (List.mem_of_getElem? (i := 38) rfl)
  have w39_ := hw _ (List.mem_of_getElem? (i := 39) rfl)
  have w40_ := hw _ (List.mem_of_getElem? (i := 40) rfl)
  have w66_ := hw _ (List.mem_of_getElem? (i := 66) rfl)
  have w81_ := hw _ (List.mem_of_getElem? (i := 81) rfl)
  have w82_ := hw _ (List.mem_of_getElem? (i := 82) rfl)
  have w83_ := hw _ (List.mem_of_getElem? (i := 83) rfl)
  have w84_ := hw _ (List.mem_of_getElem? (i := 84) rfl)
  have w85_ := hw _ (List.mem_of_getElem? (i := 85) rfl)
  show Go p e below (RetG s (Q_rdat_3_0 Z r a b kb bs cz c bv fz h0 n0) 0 0) (s₁.setTop (entryFrame m #[(.ref r), (.int c)] 2))
  rw [show entryFrame m #[(.ref r), (.int c)] 2 = mkF m 0 #[.val (.ref r), .val (.int c)] [] from by first | (simp [entryFrame, mkF, argsToLocals, Value.category]; done) | rfl]
  refine g_aloadN X0 hx hby d11_0 rfl rfl ?_
  refine g_virtual X0 hx hby hZ hown (rm_rdend_3_0 l Z a0 hw [] r a b kb bs cz h0 n0 Z0 O2 P5 OLD E C VF VB rE rT rP) w66_ w36_ (notFace_of_selects (args := #[]) (mvT hZ w38_)) w38_ w37_ w28_ w39_ (by decide) e0 rE (by rw [hml]; rfl) [] (lenOf own_pd7 rfl) rfl rfl (Nat.le_of_ble_eq_true rfl) (Nat.le_of_ble_eq_true rfl) (Nat.le_of_ble_eq_true rfl) (Nat.le_of_ble_eq_true rfl) d11_1 (fun v1 T1 L1 X1 hQ1 => ?_)
  obtain ⟨rfl, N1q, eh1⟩ := hQ1
  have N1 := Fr.app N0 N1q
  refine g_ifN X1 hx hby d11_4 (teq (by decide : (0 : Int32) = (0 : Int32))).2 ?_
  refine g_aloadN X1 hx hby d11_7 rfl rfl ?_
  refine g_getF X1 hx hby hZ hown (host := "") (Or.inl w33_) Via.refl eh1 rT d11_8 (fun T2 X2 e2 => ?_)
  refine g_aloadN X2 hx hby d11_11 rfl rfl ?_
  refine g_getF X2 hx hby hZ hown (host := "") (Or.inl w40_) Via.refl e2 rP d11_12 (fun T3 X3 e3 => ?_)
  refine g_virtual X3 hx hby hZ hown (rm_schar_3 l Z a0 hw [] a b kb bs (0 : Int32) bv fz cz h0 n0 Z0 O2 P5 OLD E C VF VB ⟨by decide, by decide⟩ hv rfz O4) w81_ w82_ (notFace_of_selects (args := #[]) (mvT hZ w84_)) w84_ w83_ w7_ w85_ (by decide) e3 E (by rw [hml]; rfl) [(.int (0 : Int32))] (lenOf own_pd13 rfl) rfl rfl (Nat.le_of_ble_eq_true rfl) (Nat.le_of_ble_eq_true rfl) (Nat.le_of_ble_eq_true rfl) (Nat.le_of_ble_eq_true rfl) d11_15 (fun v4 T4 L4 X4 hQ4 => ?_)
  obtain ⟨rfl, N4q, eh4⟩ := hQ4
  have N4 := Fr.app N1 N4q
  refine g_topI (T := T4) c hcb ?_
  refine g_iloadN X4 hx hby d11_18 rfl ?_
  refine g_icN X4 hx hby d11_19 (teq (rfl : c = c)).2 ?_
  refine g_iconst X4 hx hby (1 : Int32) d11_22 rfl ?_
  refine g_goto X4 hx hby 27 d11_23 (by decide) (by decide) ?_
  refine g_nret X4 hx hby (t := .boolean) (by simp) Bd.returns Bd.notSynchronized d11_27 eh4 (by decide) (by decide) ?_
  show (Q_rdat_3_0 Z r a b kb bs cz c bv fz h0 n0) (some (.int (1 : Int32))) _ _
  exact ⟨rfl, N4, rfl⟩

def Q_rdtake_3_0 (Z : State) (r : Addr) (a : Addr) (b : Addr) (kb : ClassId) (bs : List Value) (cz : Int32) (c : Int32) (bv : Int32) (fz : Value) (h0 : Heap) (n0 : Nat) (v : Option Value) (h : Heap) (L : List Loc) : Prop := v = some (.int (1 : Int32)) ∧ Fr n0 L ∧ Keep h0 h [r] ∧ Exa Z h r "com/example/pathloom/pathloom/web/MediaType$Reader" ∧ Fld Z h r "com/example/pathloom/pathloom/web/MediaType$Reader" "text" "Ljava/lang/String;" (.ref a) ∧ Fld Z h r "com/example/pathloom/pathloom/web/MediaType$Reader" "position" "I" (.int (1 : Int32))
set_option maxRecDepth 65536 in
set_option maxHeartbeats 40000000 in
theorem rm_rdtake_3_0 (l : Launch) (Z : State) (a0 : Array Value) (hw : ∀ d ∈ tables_1, d.before a0 Z = true) (ws : List Jvm.Cond) (r : Addr) (a : Addr) (b : Addr) (kb : ClassId) (bs : List Value) (cz : Int32) (c : Int32) (bv : Int32) (fz : Value) (h0 : Heap) (n0 : Nat) (Z0 : n0 ≤ h0.size) (O2 : Sta Z Z.heap "java/lang/String" "COMPACT_STRINGS" "Z" (.int cz)) (P5 : ¬ cz = (0 : Int32)) (OLD : Old Z n0 h0) (E : Exa Z h0 a "java/lang/String") (C : Fld Z h0 a "java/lang/String" "coder" "B" (.int (0 : Int32))) (VF : Fld Z h0 a "java/lang/String" "value" "[B" (.ref b)) (VB : Arv Z h0 b kb .byte (3 : Int32) bs (.int (0 : Int32))) (rE : Exa Z h0 r "com/example/pathloom/pathloom/web/MediaType$Reader") (rT : Fld Z h0 r "com/example/pathloom/pathloom/web/MediaType$Reader" "text" "Ljava/lang/String;" (.ref a)) (rP : Fld Z h0 r "com/example/pathloom/pathloom/web/MediaType$Reader" "position" "I" (.int (0 : Int32))) (hv : bs.getD 0 (.int (0 : Int32)) = .int bv) (hcb : nar .char (nar .char ((bv &&& (255 : Int32)).toUInt32.toUInt16.toUInt32.toInt32)) = c) (rfz : Rf fz) (O4 : Sta Z Z.heap "jdk/internal/util/Preconditions" "SIOOBE_FORMATTER" "Ljava/util/function/BiFunction;" fz) (gr : n0 ≤ r) (nra : r ≠ a) (nrb : r ≠ b) :
    MetFree l (⟨"com/example/pathloom/pathloom/web/MediaType$Reader", "take", "(C)Z"⟩ : MethodName) (head1 (Jvm.Cond.code (⟨"com/example/pathloom/pathloom/web/MediaType$Reader", "take", "(C)Z"⟩ : MethodName) prog_35_method_5_code 3 (some .boolean) :: ws) ({ frames := 5, cells := 0, slots := 0, locals := 66 } : Room)) (fun aa_ U => aa_ = #[(.ref r), (.int c)] ∧ Z.Warmed39 U.vm ∧ U.heap = h0) (fun _ _ _ _ _ => True) (fun _ U o_ U' => RetG U (Q_rdtake_3_0 Z r a b kb bs cz c bv fz h0 n0) 0 0 U' o_) := by
  refine MetFree.of_bodySF (plainFor_of_name own_pn3) hisR ?_
  intro p e s m args below meth c_ s₁ Bd hml0 hP hK
  obtain ⟨rfl, hZ, hh⟩ := hP
  have hx := Bd.exec
  have hby := Bd.bytes
  have hml : c_.maxLocals = 3 := hml0
  have hown : s.vm.findClass "com/example/pathloom/pathloom/web/MediaType$Reader" = some m.cls := findClass_of_methodNamed Bd.named
  have hnm := (name_of_methodNamed Bd.named Bd.method).1
  have X0 : Stand p l e ({ frames := 5, cells := 0, slots := 0, locals := 66 } : Room) s m #[(.ref r), (.int c)] below meth c_ s₁ [] 0 0 := Stand.of_body Bd
  have e0 : s₁.heap = h0 := by rw [← hh, Bd.state]; rfl
  have N0 := Fr.nil n0
  have w27_ := hw _ (List.mem_of_getElem? (i := 27) rfl)
  have w28_ := hw _ (List.mem_of_getElem? (i := 28) rfl)
  have w34_ := hw _ (List.mem_of_getElem? (i := 34) rfl)
  have w40_ := hw _ (List.mem_of_getElem? (i := 40) rfl)
  have w41_ := hw _ (List.mem_of_getElem? (i := 41) rfl)
  have w61_ := hw _ (List.mem_of_getElem? (i := 61) rfl)
  have w62_ := hw _ (List.mem_of_getElem? (i := 62) rfl)
  have w63_ := hw _ (List.mem_of_getElem? (i := 63) rfl)
  have w64_ := hw _ (List.mem_of_getElem? (i := 64) rfl)
  have w65_ := hw _ (List.mem_of_getElem? (i := 65) rfl)
  show Go p e below (RetG s (Q_rdtake_3_0 Z r a b kb bs cz c bv fz h0 n0) 0 0) (s₁.setTop (entryFrame m #[(.ref r), (.int c)] 3))
  rw [show entryFrame m #[(.ref r), (.int c)] 3 = mkF m 0 #[.val (.ref r), .val (.int c), .unset] [] from by first | (simp [entryFrame, mkF, argsToLocals, Value.category]; done) | rfl]
  refine g_aloadN X0 hx hby d10_0 rfl rfl ?_
  refine g_iloadN X0 hx hby d10_1 rfl ?_
  refine g_virtual X0 hx hby hZ hown (rm_rdat_3_0 l Z a0 hw [] r a b kb bs cz c bv fz h0 n0 Z0 O2 P5 OLD E C VF VB rE rT rP hv hcb rfz O4) w61_ w62_ (notFace_of_selects (args := #[]) (mvT hZ w64_)) w64_ w63_ w28_ w65_ (by decide) e0 rE (by rw [hml]; rfl) [(.int c)] (lenOf own_pd8 rfl) rfl rfl (Nat.le_of_ble_eq_true rfl) (Nat.le_of_ble_eq_true rfl) (Nat.le_of_ble_eq_true rfl) (Nat.le_of_ble_eq_true rfl) d10_2 (fun v1 T1 L1 X1 hQ1 => ?_)
  obtain ⟨rfl, N1q, eh1⟩ := hQ1
  have N1 := Fr.app N0 N1q
  refine g_istoreN X1 hx hby d10_5 (l' := #[.val (.ref r), .val (.int c), .val (.int (1 : Int32))]) rfl ?_
  refine g_iloadN X1 hx hby d10_6 rfl ?_
  refine g_ifN X1 hx hby d10_7 (feq (by decide : ¬ ((1 : Int32) = (0 : Int32)))).1 ?_
  refine g_aloadN X1 hx hby d10_10 rfl rfl ?_
  refine g_dup X1 hx hby d10_11 rfl ?_
  refine g_getF X1 hx hby hZ hown (host := "") (Or.inl w40_) Via.refl eh1 rP d10_12 (fun T2 X2 e2 => ?_)
  refine g_iconst X2 hx hby (1 : Int32) d10_15 rfl ?_
  refine g_iadd X2 hx hby d10_16 ?_
  refine g_topI (1 : Int32) (by decide) ?_
  refine g_putF X2 hx hby hZ hown (host := "") (Or.inl w40_) Via.refl e2 rP rE (Or.inl w41_) w27_ .int (by decide) rfl rfl N1 gr d10_17 (fun T3 h3 X3 e3 W3 F3 N3 => ?_)
  refine g_iloadN X3 hx hby d10_20 rfl ?_
  have f4 := (rE.wr W3)
  have f5 := (rT.other W3 (Or.inr (slot_ne (Or.inr w34_) (Or.inl w41_) (by decide) (t := (.object "java/lang/String")) (t' := .int) (by decide) (by decide))))
  refine g_nret X3 hx hby (t := .boolean) (by simp) Bd.returns Bd.notSynchronized d10_21 e3 (by decide) (by decide) ?_
  show (Q_rdtake_3_0 Z r a b kb bs cz c bv fz h0 n0) (some (.int (1 : Int32))) _ _
  exact ⟨rfl, N3, ((Keep.refl h0 [r]).wr W3 (Or.inl (List.mem_of_getElem? (i := 0) rfl))), f4, f5, F3⟩

def Q_rdend_3_1 (Z : State) (r : Addr) (a : Addr) (b : Addr) (kb : ClassId) (bs : List Value) (cz : Int32) (h0 : Heap) (n0 : Nat) (v : Option Value) (h : Heap) (L : List Loc) : Prop := v = some (.int (0 : Int32)) ∧ Fr n0 L ∧ h = h0
set_option maxRecDepth 65536 in
set_option maxHeartbeats 40000000 in
theorem rm_rdend_3_1 (l : Launch) (Z : State) (a0 : Array Value) (hw : ∀ d ∈ tables_1, d.before a0 Z = true) (ws : List Jvm.Cond) (r : Addr) (a : Addr) (b : Addr) (kb : ClassId) (bs : List Value) (cz : Int32) (h0 : Heap) (n0 : Nat) (Z0 : n0 ≤ h0.size) (O2 : Sta Z Z.heap "java/lang/String" "COMPACT_STRINGS" "Z" (.int cz)) (P5 : ¬ cz = (0 : Int32)) (OLD : Old Z n0 h0) (E : Exa Z h0 a "java/lang/String") (C : Fld Z h0 a "java/lang/String" "coder" "B" (.int (0 : Int32))) (VF : Fld Z h0 a "java/lang/String" "value" "[B" (.ref b)) (VB : Arv Z h0 b kb .byte (3 : Int32) bs (.int (0 : Int32))) (rE : Exa Z h0 r "com/example/pathloom/pathloom/web/MediaType$Reader") (rT : Fld Z h0 r "com/example/pathloom/pathloom/web/MediaType$Reader" "text" "Ljava/lang/String;" (.ref a)) (rP : Fld Z h0 r "com/example/pathloom/pathloom/web/MediaType$Reader" "position" "I" (.int (1 : Int32))) :
    MetFree l (⟨"com/example/pathloom/pathloom/web/MediaType$Reader", "atEnd", "()Z"⟩ : MethodName) (head1 (Jvm.Cond.code (⟨"com/example/pathloom/pathloom/web/MediaType$Reader", "atEnd", "()Z"⟩ : MethodName) prog_35_method_2_code 1 (some .boolean) :: ws) ({ frames := 2, cells := 0, slots := 0, locals := 26 } : Room)) (fun aa_ U => aa_ = #[(.ref r)] ∧ Z.Warmed39 U.vm ∧ U.heap = h0) (fun _ _ _ _ _ => True) (fun _ U o_ U' => RetG U (Q_rdend_3_1 Z r a b kb bs cz h0 n0) 0 0 U' o_) := by
  refine MetFree.of_bodySF (plainFor_of_name own_pn3) hisR ?_
  intro p e s m args below meth c_ s₁ Bd hml0 hP hK
  obtain ⟨rfl, hZ, hh⟩ := hP
  have hx := Bd.exec
  have hby := Bd.bytes
  have hml : c_.maxLocals = 1 := hml0
  have hown : s.vm.findClass "com/example/pathloom/pathloom/web/MediaType$Reader" = some m.cls := findClass_of_methodNamed Bd.named
  have hnm := (name_of_methodNamed Bd.named Bd.method).1
  have X0 : Stand p l e ({ frames := 2, cells := 0, slots := 0, locals := 26 } : Room) s m #[(.ref r)] below meth c_ s₁ [] 0 0 := Stand.of_body Bd
  have e0 : s₁.heap = h0 := by rw [← hh, Bd.state]; rfl
  have N0 := Fr.nil n0
  have w7_ := hw _ (List.mem_of_getElem? (i := 7) rfl)
  have w33_ := hw _ (List.mem_of_getElem? (i := 33) rfl)
  have w40_ := hw _ (List.mem_of_getElem? (i := 40) rfl)
  have w42_ := hw _ (List.mem_of_getElem? (i := 42) rfl)
  have w43_ := hw _ (List.mem_of_getElem? (i := 43) rfl)
  have w44_ := hw _ (List.mem_of_getElem? (i := 44) rfl)
  have w45_ := hw _ (List.mem_of_getElem? (i := 45) rfl)
  have w46_ := hw _ (List.mem_of_getElem? (i := 46) rfl)
  show Go p e below (RetG s (Q_rdend_3_1 Z r a b kb bs cz h0 n0) 0 0) (s₁.setTop (entryFrame m #[(.ref r)] 1))
  rw [show entryFrame m #[(.ref r)] 1 = mkF m 0 #[.val (.ref r)] [] from by first | (simp [entryFrame, mkF, argsToLocals, Value.category]; done) | rfl]
  refine g_aloadN X0 hx hby d6_0 rfl rfl ?_
  refine g_getF X0 hx hby hZ hown (host := "") (Or.inl w40_) Via.refl e0 rP d6_1 (fun T1 X1 e1 => ?_)
  refine g_aloadN X1 hx hby d6_4 rfl rfl ?_
  refine g_getF X1 hx hby hZ hown (host := "") (Or.inl w33_) Via.refl e1 rT d6_5 (fun T2 X2 e2 => ?_)
  refine g_virtual X2 hx hby hZ hown (rm_slen_3 l Z a0 hw [] a b kb bs cz h0 n0 Z0 O2 P5 OLD E C VF VB) w42_ w43_ (notFace_of_selects (args := #[]) (mvT hZ w45_)) w45_ w44_ w7_ w46_ (by decide) e2 E (by rw [hml]; rfl) [] (lenOf own_pd6 rfl) rfl rfl (Nat.le_of_ble_eq_true rfl) (Nat.le_of_ble_eq_true rfl) (Nat.le_of_ble_eq_true rfl) (Nat.le_of_ble_eq_true rfl) d6_8 (fun v3 T3 L3 X3 hQ3 => ?_)
  obtain ⟨rfl, N3q, eh3⟩ := hQ3
  have N3 := Fr.app N0 N3q
  refine g_icY X3 hx hby 18 d6_11 (feq (by decide : ¬ ((1 : Int32) = (3 : Int32)))).2 (by decide) (by decide) ?_
  refine g_iconst X3 hx hby (0 : Int32) d6_18 rfl ?_
  refine g_nret X3 hx hby (t := .boolean) (by simp) Bd.returns Bd.notSynchronized d6_19 eh3 (by decide) (by decide) ?_
  show (Q_rdend_3_1 Z r a b kb bs cz h0 n0) (some (.int (0 : Int32))) _ _
  exact ⟨rfl, N3, rfl⟩

def Q_step30 (Z : State) (r : Addr) (a : Addr) (b : Addr) (kb : ClassId) (cz : Int32) (al : Addr) (ka : ClassId) (c0 : Int32) (c1 : Int32) (c2 : Int32) (fz : Value) (h0 : Heap) (n0 : Nat) (v : Option Value) (h : Heap) (L : List Loc) : Prop := v = some (.int (1 : Int32)) ∧ Fr n0 L ∧ Keep h0 h [r] ∧ Exa Z h r "com/example/pathloom/pathloom/web/MediaType$Reader" ∧ Fld Z h r "com/example/pathloom/pathloom/web/MediaType$Reader" "text" "Ljava/lang/String;" (.ref a) ∧ Fld Z h r "com/example/pathloom/pathloom/web/MediaType$Reader" "position" "I" (.int (1 : Int32))
set_option maxRecDepth 65536 in
set_option maxHeartbeats 40000000 in
theorem rm_step30 (l : Launch) (Z : State) (a0 : Array Value) (hw : ∀ d ∈ tables_1, d.before a0 Z = true) (ws : List Jvm.Cond) (r : Addr) (a : Addr) (b : Addr) (kb : ClassId) (cz : Int32) (al : Addr) (ka : ClassId) (c0 : Int32) (c1 : Int32) (c2 : Int32) (fz : Value) (h0 : Heap) (n0 : Nat) (Z0 : n0 ≤ h0.size) (O2 : Sta Z Z.heap "java/lang/String" "COMPACT_STRINGS" "Z" (.int cz)) (P5 : ¬ cz = (0 : Int32)) (OLD : Old Z n0 h0) (E : Exa Z h0 a "java/lang/String") (C : Fld Z h0 a "java/lang/String" "coder" "B" (.int (0 : Int32))) (VF : Fld Z h0 a "java/lang/String" "value" "[B" (.ref b)) (VB : Arv Z h0 b kb .byte (3 : Int32) [(.int (nar .byte ((nar .char c0).toInt8.toInt32))), (.int (nar .byte ((nar .char c1).toInt8.toInt32))), (.int (nar .byte ((nar .char c2).toInt8.toInt32)))] (.int (0 : Int32))) (rE : Exa Z h0 r "com/example/pathloom/pathloom/web/MediaType$Reader") (rT : Fld Z h0 r "com/example/pathloom/pathloom/web/MediaType$Reader" "text" "Ljava/lang/String;" (.ref a)) (rP : Fld Z h0 r "com/example/pathloom/pathloom/web/MediaType$Reader" "position" "I" (.int (0 : Int32))) (VA : Arv Z h0 al ka .char (3 : Int32) [(.int c0), (.int c1), (.int c2)] (.int (0 : Int32))) (hc0 : 0 ≤ c0.toInt ∧ c0.toInt ≤ 255) (hc1 : 0 ≤ c1.toInt ∧ c1.toInt ≤ 255) (hc2 : 0 ≤ c2.toInt ∧ c2.toInt ≤ 255) (rfz : Rf fz) (O4 : Sta Z Z.heap "jdk/internal/util/Preconditions" "SIOOBE_FORMATTER" "Ljava/util/function/BiFunction;" fz) (gr : n0 ≤ r) (nra : r ≠ a) (nrb : r ≠ b) :
    MetFree l (⟨"com/example/pathloom/pathloom/web/ReaderAtEndPinLaw", "step", "(Lcom/example/pathloom/pathloom/web/MediaType$Reader;II[C)Z"⟩ : MethodName) (head1 (Jvm.Cond.code (⟨"com/example/pathloom/pathloom/web/ReaderAtEndPinLaw", "step", "(Lcom/example/pathloom/pathloom/web/MediaType$Reader;II[C)Z"⟩ : MethodName) method_4_code 6 (some .boolean) :: ws) ({ frames := 6, cells := 0, slots := 0, locals := 80 } : Room)) (fun aa_ U => aa_ = #[(.ref r), (.int (0 : Int32)), (.int (3 : Int32)), (.ref al)] ∧ Z.Warmed39 U.vm ∧ U.heap = h0) (fun _ _ _ _ _ => True) (fun _ U o_ U' => RetG U (Q_step30 Z r a b kb cz al ka c0 c1 c2 fz h0 n0) 0 0 U' o_) := by
  refine MetFree.of_bodySF (plainFor_of_name own_pn1) hisR ?_
  intro p e s m args below meth c_ s₁ Bd hml0 hP hK
  obtain ⟨rfl, hZ, hh⟩ := hP
  have hx := Bd.exec
  have hby := Bd.bytes
  have hml : c_.maxLocals = 6 := hml0
  have hown : s.vm.findClass "com/example/pathloom/pathloom/web/ReaderAtEndPinLaw" = some m.cls := findClass_of_methodNamed Bd.named
  have hnm := (name_of_methodNamed Bd.named Bd.method).1
  have X0 : Stand p l e ({ frames := 6, cells := 0, slots := 0, locals := 80 } : Room) s m #[(.ref r), (.int (0 : Int32)), (.int (3 : Int32)), (.ref al)] below meth c_ s₁ [] 0 0 := Stand.of_body Bd
  have e0 : s₁.heap = h0 := by rw [← hh, Bd.state]; rfl
  have N0 := Fr.nil n0
  have w28_ := hw _ (List.mem_of_getElem? (i := 28) rfl)
  have w35_ := hw _ (List.mem_of_getElem? (i := 35) rfl)
  have w36_ := hw _ (List.mem_of_getElem? (i := 36) rfl)
  have w37_ := hw _ (List.mem_of_getElem? (i := 37) rfl)
  have w38_ := hw _ (List.mem_of_getElem? (i := 38) rfl)
  have w39_ := hw _ (List.mem_of_getElem? (i := 39) rfl)
  have w56_ := hw _ (List.mem_of_getElem? (i := 56) rfl)
  have w57_ := hw _ (List.mem_of_getElem? (i := 57) rfl)
  have w58_ := hw _ (List.mem_of_getElem? (i := 58) rfl)
  have w59_ := hw _ (List.mem_of_getElem? (i := 59) rfl)
  have w60_ := hw _ (List.mem_of_getElem? (i := 60) rfl)
  have w67_ := hw _ (List.mem_of_getElem? (i := 67) rfl)
  have w68_ := hw _ (List.mem_of_getElem? (i := 68) rfl)
  have w69_ := hw _ (List.mem_of_getElem? (i := 69) rfl)
  have w70_ := hw _ (List.mem_of_getElem? (i := 70) rfl)
  show Go p e below (RetG s (Q_step30 Z r a b kb cz al ka c0 c1 c2 fz h0 n0) 0 0) (s₁.setTop (entryFrame m #[(.ref r), (.int (0 : Int32)), (.int (3 : Int32)), (.ref al)] 6))
  rw [show entryFrame m #[(.ref r), (.int (0 : Int32)), (.int (3 : Int32)), (.ref al)] 6 = mkF m 0 #[.val (.ref r), .val (.int (0 : Int32)), .val (.int (3 : Int32)), .val (.ref al), .unset, .unset] [] from by first | (simp [entryFrame, mkF, argsToLocals, Value.category]; done) | rfl]
  refine g_aloadN X0 hx hby d9_0 rfl rfl ?_
  refine g_aloadN X0 hx hby d9_1 rfl rfl ?_
  refine g_iloadN X0 hx hby d9_2 rfl ?_
  refine g_caload X0 hx hby hZ e0 VA (.int c0) ⟨by decide, by decide⟩ rfl d9_3 ?_
  refine g_virtual X0 hx hby hZ hown (rm_rdtake_3_0 l Z a0 hw [] r a b kb [(.int (nar .byte ((nar .char c0).toInt8.toInt32))), (.int (nar .byte ((nar .char c1).toInt8.toInt32))), (.int (nar .byte ((nar .char c2).toInt8.toInt32)))] cz c0 (nar .byte ((nar .char c0).toInt8.toInt32)) fz h0 n0 Z0 O2 P5 OLD E C VF VB rE rT rP rfl (own_byte hc0) rfz O4 gr nra nrb) w56_ w57_ (notFace_of_selects (args := #[]) (mvT hZ w59_)) w59_ w58_ w28_ w60_ (by decide) e0 rE (by rw [hml]; rfl) [(.int c0)] (lenOf own_pd8 rfl) rfl rfl (Nat.le_of_ble_eq_true rfl) (Nat.le_of_ble_eq_true rfl) (Nat.le_of_ble_eq_true rfl) (Nat.le_of_ble_eq_true rfl) d9_4 (fun v1 T1 L1 X1 hQ1 => ?_)
  obtain ⟨rfl, N1q, K1, Er1, Tr1, Pr1⟩ := hQ1
  have N1 := Fr.app N0 N1q
  refine g_istore X1 hx hby d9_7 (l' := #[.val (.ref r), .val (.int (0 : Int32)), .val (.int (3 : Int32)), .val (.ref al), .val (.int (1 : Int32)), .unset]) rfl ?_
  refine g_iloadN X1 hx hby d9_9 rfl ?_
  refine g_iconst X1 hx hby (1 : Int32) d9_10 rfl ?_
  refine g_iadd X1 hx hby d9_11 ?_
  refine g_topI (1 : Int32) (by decide) ?_
  refine g_iloadN X1 hx hby d9_12 rfl ?_
  have z3 := (Nat.le_trans Z0 K1.1)
  refine g_static X1 hx hby hZ hown (rm_mmin l Z a0 hw [] (1 : Int32) (3 : Int32) T1.heap n0 z3 ) w67_ w68_ w69_ w70_ (by decide) rfl (by rw [hml]; rfl) [(.int (1 : Int32)), (.int (3 : Int32))] (lenOf own_pd9 rfl) rfl rfl (Nat.le_of_ble_eq_true rfl) (Nat.le_of_ble_eq_true rfl) (Nat.le_of_ble_eq_true rfl) (Nat.le_of_ble_eq_true rfl) d9_13 (fun v2 T2 L2 X2 hQ2 => ?_)
  obtain ⟨rfl, N2q, eh2⟩ := hQ2
  have N2 := Fr.app N1 N2q
  refine g_topI (T := T2) (1 : Int32) (by decide) ?_
  refine g_istore X2 hx hby d9_16 (l' := #[.val (.ref r), .val (.int (0 : Int32)), .val (.int (3 : Int32)), .val (.ref al), .val (.int (1 : Int32)), .val (.int (1 : Int32))]) rfl ?_
  refine g_iload X2 hx hby d9_18 rfl ?_
  refine g_iloadN X2 hx hby d9_20 rfl ?_
  refine g_iloadN X2 hx hby d9_21 rfl ?_
  refine g_at 22 rfl rfl rfl ?_
  refine g_icN X2 hx hby d9_22 (tlt (by decide : (0 : Int32) < (3 : Int32))).2.1 ?_
  refine g_iconst X2 hx hby (1 : Int32) d9_25 rfl ?_
  refine g_goto X2 hx hby 30 d9_26 (by decide) (by decide) ?_
  refine g_icN X2 hx hby d9_30 (teq (by decide : (1 : Int32) = (1 : Int32))).2 ?_
  refine g_aloadN X2 hx hby d9_33 rfl rfl ?_
  have f5 := (E.keep K1)
  have f6 := (C.keep K1 (ninS (Ne.symm nra) nin0))
  have f7 := (VF.keep K1 (ninS (Ne.symm nra) nin0))
  have f8 := (VB.keep K1 (ninS (Ne.symm nrb) nin0))
  have f9 := (OLD.keep K1 (allS gr all0))
  refine g_virtual X2 hx hby hZ hown (rm_rdend_3_1 l Z a0 hw [] r a b kb [(.int (nar .byte ((nar .char c0).toInt8.toInt32))), (.int (nar .byte ((nar .char c1).toInt8.toInt32))), (.int (nar .byte ((nar .char c2).toInt8.toInt32)))] cz T1.heap n0 z3 O2 P5 f9 f5 f6 f7 f8 Er1 Tr1 Pr1) w35_ w36_ (notFace_of_selects (args := #[]) (mvT hZ w38_)) w38_ w37_ w28_ w39_ (by decide) eh2 Er1 (by rw [hml]; rfl) [] (lenOf own_pd7 rfl) rfl rfl (Nat.le_of_ble_eq_true rfl) (Nat.le_of_ble_eq_true rfl) (Nat.le_of_ble_eq_true rfl) (Nat.le_of_ble_eq_true rfl) d9_34 (fun v4 T4 L4 X4 hQ4 => ?_)
  obtain ⟨rfl, N4q, eh4⟩ := hQ4
  have N4 := Fr.app N2 N4q
  refine g_iload X4 hx hby d9_37 rfl ?_
  refine g_iloadN X4 hx hby d9_39 rfl ?_
  refine g_icY X4 hx hby 47 d9_40 (feq (by decide : ¬ ((1 : Int32) = (3 : Int32)))).2 (by decide) (by decide) ?_
  refine g_iconst X4 hx hby (0 : Int32) d9_47 rfl ?_
  refine g_icN X4 hx hby d9_48 (teq (by decide : (0 : Int32) = (0 : Int32))).2 ?_
  refine g_iconst X4 hx hby (1 : Int32) d9_51 rfl ?_
  refine g_goto X4 hx hby 56 d9_52 (by decide) (by decide) ?_
  refine g_nret X4 hx hby (t := .boolean) (by simp) Bd.returns Bd.notSynchronized d9_56 eh4 (by decide) (by decide) ?_
  show (Q_step30 Z r a b kb cz al ka c0 c1 c2 fz h0 n0) (some (.int (1 : Int32))) _ _
  exact ⟨rfl, N4, ((Keep.refl h0 [r]).trans K1 (allS (Or.inl (List.mem_of_getElem? (i := 0) rfl)) all0)), Er1, Tr1, Pr1⟩

def Q_rdat_3_1 (Z : State) (r : Addr) (a : Addr) (b : Addr) (kb : ClassId) (bs : List Value) (cz : Int32) (c : Int32) (bv : Int32) (fz : Value) (h0 : Heap) (n0 : Nat) (v : Option Value) (h : Heap) (L : List Loc) : Prop := v = some (.int (1 : Int32)) ∧ Fr n0 L ∧ h = h0
set_option maxRecDepth 65536 in
set_option maxHeartbeats 40000000 in
theorem rm_rdat_3_1 (l : Launch) (Z : State) (a0 : Array Value) (hw : ∀ d ∈ tables_1, d.before a0 Z = true) (ws : List Jvm.Cond) (r : Addr) (a : Addr) (b : Addr) (kb : ClassId) (bs : List Value) (cz : Int32) (c : Int32) (bv : Int32) (fz : Value) (h0 : Heap) (n0 : Nat) (Z0 : n0 ≤ h0.size) (O2 : Sta Z Z.heap "java/lang/String" "COMPACT_STRINGS" "Z" (.int cz)) (P5 : ¬ cz = (0 : Int32)) (OLD : Old Z n0 h0) (E : Exa Z h0 a "java/lang/String") (C : Fld Z h0 a "java/lang/String" "coder" "B" (.int (0 : Int32))) (VF : Fld Z h0 a "java/lang/String" "value" "[B" (.ref b)) (VB : Arv Z h0 b kb .byte (3 : Int32) bs (.int (0 : Int32))) (rE : Exa Z h0 r "com/example/pathloom/pathloom/web/MediaType$Reader") (rT : Fld Z h0 r "com/example/pathloom/pathloom/web/MediaType$Reader" "text" "Ljava/lang/String;" (.ref a)) (rP : Fld Z h0 r "com/example/pathloom/pathloom/web/MediaType$Reader" "position" "I" (.int (1 : Int32))) (hv : bs.getD 1 (.int (0 : Int32)) = .int bv) (hcb : nar .char (nar .char ((bv &&& (255 : Int32)).toUInt32.toUInt16.toUInt32.toInt32)) = c) (rfz : Rf fz) (O4 : Sta Z Z.heap "jdk/internal/util/Preconditions" "SIOOBE_FORMATTER" "Ljava/util/function/BiFunction;" fz) :
    MetFree l (⟨"com/example/pathloom/pathloom/web/MediaType$Reader", "at", "(C)Z"⟩ : MethodName) (head1 (Jvm.Cond.code (⟨"com/example/pathloom/pathloom/web/MediaType$Reader", "at", "(C)Z"⟩ : MethodName) prog_35_method_4_code 2 (some .boolean) :: ws) ({ frames := 4, cells := 0, slots := 0, locals := 53 } : Room)) (fun aa_ U => aa_ = #[(.ref r), (.int c)] ∧ Z.Warmed39 U.vm ∧ U.heap = h0) (fun _ _ _ _ _ => True) (fun _ U o_ U' => RetG U (Q_rdat_3_1 Z r a b kb bs cz c bv fz h0 n0) 0 0 U' o_) := by
  refine MetFree.of_bodySF (plainFor_of_name own_pn3) hisR ?_
  intro p e s m args below meth c_ s₁ Bd hml0 hP hK
  obtain ⟨rfl, hZ, hh⟩ := hP
  have hx := Bd.exec
  have hby := Bd.bytes
  have hml : c_.maxLocals = 2 := hml0
  have hown : s.vm.findClass "com/example/pathloom/pathloom/web/MediaType$Reader" = some m.cls := findClass_of_methodNamed Bd.named
  have hnm := (name_of_methodNamed Bd.named Bd.method).1
  have X0 : Stand p l e ({ frames := 4, cells := 0, slots := 0, locals := 53 } : Room) s m #[(.ref r), (.int c)] below meth c_ s₁ [] 0 0 := Stand.of_body Bd
  have e0 : s₁.heap = h0 := by rw [← hh, Bd.state]; rfl
  have N0 := Fr.nil n0
  have w7_ := hw _ (List.mem_of_getElem? (i := 7) rfl)
  have w28_ := hw _ (List.mem_of_getElem? (i := 28) rfl)
  have w33_ := hw _ (List.mem_of_getElem? (i := 33) rfl)
  have w36_ := hw _ (List.mem_of_getElem? (i := 36) rfl)
  have w37_ := hw _ (List.mem_of_getElem? (i := 37) rfl)
  have w38_ := hw _ (List.mem_of_getElem? (i := 38) rfl)
  have w39_ := hw _ (List.mem_of_getElem? (i := 39) rfl)
  have w40_ := hw _ (List.mem_of_getElem? (i := 40) rfl)
  have w66_ := hw _ (List.mem_of_getElem? (i := 66) rfl)
  have w81_ := hw _ (List.mem_of_getElem? (i := 81) rfl)
  have w82_ := hw _ (List.mem_of_getElem? (i := 82) rfl)
  have w83_ := hw _ (List.mem_of_getElem? (i := 83) rfl)
  have w84_ := hw _ (List.mem_of_getElem? (i := 84) rfl)
  have w85_ := hw _ (List.mem_of_getElem? (i := 85) rfl)
  show Go p e below (RetG s (Q_rdat_3_1 Z r a b kb bs cz c bv fz h0 n0) 0 0) (s₁.setTop (entryFrame m #[(.ref r), (.int c)] 2))
  rw [show entryFrame m #[(.ref r), (.int c)] 2 = mkF m 0 #[.val (.ref r), .val (.int c)] [] from by first | (simp [entryFrame, mkF, argsToLocals, Value.category]; done) | rfl]
  refine g_aloadN X0 hx hby d11_0 rfl rfl ?_
  refine g_virtual X0 hx hby hZ hown (rm_rdend_3_1 l Z a0 hw [] r a b kb bs cz h0 n0 Z0 O2 P5 OLD E C VF VB rE rT rP) w66_ w36_ (notFace_of_selects (args := #[]) (mvT hZ w38_)) w38_ w37_ w28_ w39_ (by decide) e0 rE (by rw [hml]; rfl) [] (lenOf own_pd7 rfl) rfl rfl (Nat.le_of_ble_eq_true rfl) (Nat.le_of_ble_eq_true rfl) (Nat.le_of_ble_eq_true rfl) (Nat.le_of_ble_eq_true rfl) d11_1 (fun v1 T1 L1 X1 hQ1 => ?_)
  obtain ⟨rfl, N1q, eh1⟩ := hQ1
  have N1 := Fr.app N0 N1q
  refine g_ifN X1 hx hby d11_4 (teq (by decide : (0 : Int32) = (0 : Int32))).2 ?_
  refine g_aloadN X1 hx hby d11_7 rfl rfl ?_
  refine g_getF X1 hx hby hZ hown (host := "") (Or.inl w33_) Via.refl eh1 rT d11_8 (fun T2 X2 e2 => ?_)
  refine g_aloadN X2 hx hby d11_11 rfl rfl ?_
  refine g_getF X2 hx hby hZ hown (host := "") (Or.inl w40_) Via.refl e2 rP d11_12 (fun T3 X3 e3 => ?_)
  refine g_virtual X3 hx hby hZ hown (rm_schar_3 l Z a0 hw [] a b kb bs (1 : Int32) bv fz cz h0 n0 Z0 O2 P5 OLD E C VF VB ⟨by decide, by decide⟩ hv rfz O4) w81_ w82_ (notFace_of_selects (args := #[]) (mvT hZ w84_)) w84_ w83_ w7_ w85_ (by decide) e3 E (by rw [hml]; rfl) [(.int (1 : Int32))] (lenOf own_pd13 rfl) rfl rfl (Nat.le_of_ble_eq_true rfl) (Nat.le_of_ble_eq_true rfl) (Nat.le_of_ble_eq_true rfl) (Nat.le_of_ble_eq_true rfl) d11_15 (fun v4 T4 L4 X4 hQ4 => ?_)
  obtain ⟨rfl, N4q, eh4⟩ := hQ4
  have N4 := Fr.app N1 N4q
  refine g_topI (T := T4) c hcb ?_
  refine g_iloadN X4 hx hby d11_18 rfl ?_
  refine g_icN X4 hx hby d11_19 (teq (rfl : c = c)).2 ?_
  refine g_iconst X4 hx hby (1 : Int32) d11_22 rfl ?_
  refine g_goto X4 hx hby 27 d11_23 (by decide) (by decide) ?_
  refine g_nret X4 hx hby (t := .boolean) (by simp) Bd.returns Bd.notSynchronized d11_27 eh4 (by decide) (by decide) ?_
  show (Q_rdat_3_1 Z r a b kb bs cz c bv fz h0 n0) (some (.int (1 : Int32))) _ _
  exact ⟨rfl, N4, rfl⟩

def Q_rdtake_3_1 (Z : State) (r : Addr) (a : Addr) (b : Addr) (kb : ClassId) (bs : List Value) (cz : Int32) (c : Int32) (bv : Int32) (fz : Value) (h0 : Heap) (n0 : Nat) (v : Option Value) (h : Heap) (L : List Loc) : Prop := v = some (.int (1 : Int32)) ∧ Fr n0 L ∧ Keep h0 h [r] ∧ Exa Z h r "com/example/pathloom/pathloom/web/MediaType$Reader" ∧ Fld Z h r "com/example/pathloom/pathloom/web/MediaType$Reader" "text" "Ljava/lang/String;" (.ref a) ∧ Fld Z h r "com/example/pathloom/pathloom/web/MediaType$Reader" "position" "I" (.int (2 : Int32))
set_option maxRecDepth 65536 in
set_option maxHeartbeats 40000000 in
theorem rm_rdtake_3_1 (l : Launch) (Z : State) (a0 : Array Value) (hw : ∀ d ∈ tables_1, d.before a0 Z = true) (ws : List Jvm.Cond) (r : Addr) (a : Addr) (b : Addr) (kb : ClassId) (bs : List Value) (cz : Int32) (c : Int32) (bv : Int32) (fz : Value) (h0 : Heap) (n0 : Nat) (Z0 : n0 ≤ h0.size) (O2 : Sta Z Z.heap "java/lang/String" "COMPACT_STRINGS" "Z" (.int cz)) (P5 : ¬ cz = (0 : Int32)) (OLD : Old Z n0 h0) (E : Exa Z h0 a "java/lang/String") (C : Fld Z h0 a "java/lang/String" "coder" "B" (.int (0 : Int32))) (VF : Fld Z h0 a "java/lang/String" "value" "[B" (.ref b)) (VB : Arv Z h0 b kb .byte (3 : Int32) bs (.int (0 : Int32))) (rE : Exa Z h0 r "com/example/pathloom/pathloom/web/MediaType$Reader") (rT : Fld Z h0 r "com/example/pathloom/pathloom/web/MediaType$Reader" "text" "Ljava/lang/String;" (.ref a)) (rP : Fld Z h0 r "com/example/pathloom/pathloom/web/MediaType$Reader" "position" "I" (.int (1 : Int32))) (hv : bs.getD 1 (.int (0 : Int32)) = .int bv) (hcb : nar .char (nar .char ((bv &&& (255 : Int32)).toUInt32.toUInt16.toUInt32.toInt32)) = c) (rfz : Rf fz) (O4 : Sta Z Z.heap "jdk/internal/util/Preconditions" "SIOOBE_FORMATTER" "Ljava/util/function/BiFunction;" fz) (gr : n0 ≤ r) (nra : r ≠ a) (nrb : r ≠ b) :
    MetFree l (⟨"com/example/pathloom/pathloom/web/MediaType$Reader", "take", "(C)Z"⟩ : MethodName) (head1 (Jvm.Cond.code (⟨"com/example/pathloom/pathloom/web/MediaType$Reader", "take", "(C)Z"⟩ : MethodName) prog_35_method_5_code 3 (some .boolean) :: ws) ({ frames := 5, cells := 0, slots := 0, locals := 66 } : Room)) (fun aa_ U => aa_ = #[(.ref r), (.int c)] ∧ Z.Warmed39 U.vm ∧ U.heap = h0) (fun _ _ _ _ _ => True) (fun _ U o_ U' => RetG U (Q_rdtake_3_1 Z r a b kb bs cz c bv fz h0 n0) 0 0 U' o_) := by
  refine MetFree.of_bodySF (plainFor_of_name own_pn3) hisR ?_
  intro p e s m args below meth c_ s₁ Bd hml0 hP hK
  obtain ⟨rfl, hZ, hh⟩ := hP
  have hx := Bd.exec
  have hby := Bd.bytes
  have hml : c_.maxLocals = 3 := hml0
  have hown : s.vm.findClass "com/example/pathloom/pathloom/web/MediaType$Reader" = some m.cls := findClass_of_methodNamed Bd.named
  have hnm := (name_of_methodNamed Bd.named Bd.method).1
  have X0 : Stand p l e ({ frames := 5, cells := 0, slots := 0, locals := 66 } : Room) s m #[(.ref r), (.int c)] below meth c_ s₁ [] 0 0 := Stand.of_body Bd
  have e0 : s₁.heap = h0 := by rw [← hh, Bd.state]; rfl
  have N0 := Fr.nil n0
  have w27_ := hw _ (List.mem_of_getElem? (i := 27) rfl)
  have w28_ := hw _ (List.mem_of_getElem? (i := 28) rfl)
  have w34_ := hw _ (List.mem_of_getElem? (i := 34) rfl)
  have w40_ := hw _ (List.mem_of_getElem? (i := 40) rfl)
  have w41_ := hw _ (List.mem_of_getElem? (i := 41) rfl)
  have w61_ := hw _ (List.mem_of_getElem? (i := 61) rfl)
  have w62_ := hw _ (List.mem_of_getElem? (i := 62) rfl)
  have w63_ := hw _ (List.mem_of_getElem? (i := 63) rfl)
  have w64_ := hw _ (List.mem_of_getElem? (i := 64) rfl)
  have w65_ := hw _ (List.mem_of_getElem? (i := 65) rfl)
  show Go p e below (RetG s (Q_rdtake_3_1 Z r a b kb bs cz c bv fz h0 n0) 0 0) (s₁.setTop (entryFrame m #[(.ref r), (.int c)] 3))
  rw [show entryFrame m #[(.ref r), (.int c)] 3 = mkF m 0 #[.val (.ref r), .val (.int c), .unset] [] from by first | (simp [entryFrame, mkF, argsToLocals, Value.category]; done) | rfl]
  refine g_aloadN X0 hx hby d10_0 rfl rfl ?_
  refine g_iloadN X0 hx hby d10_1 rfl ?_
  refine g_virtual X0 hx hby hZ hown (rm_rdat_3_1 l Z a0 hw [] r a b kb bs cz c bv fz h0 n0 Z0 O2 P5 OLD E C VF VB rE rT rP hv hcb rfz O4) w61_ w62_ (notFace_of_selects (args := #[]) (mvT hZ w64_)) w64_ w63_ w28_ w65_ (by decide) e0 rE (by rw [hml]; rfl) [(.int c)] (lenOf own_pd8 rfl) rfl rfl (Nat.le_of_ble_eq_true rfl) (Nat.le_of_ble_eq_true rfl) (Nat.le_of_ble_eq_true rfl) (Nat.le_of_ble_eq_true rfl) d10_2 (fun v1 T1 L1 X1 hQ1 => ?_)
  obtain ⟨rfl, N1q, eh1⟩ := hQ1
  have N1 := Fr.app N0 N1q
  refine g_istoreN X1 hx hby d10_5 (l' := #[.val (.ref r), .val (.int c), .val (.int (1 : Int32))]) rfl ?_
  refine g_iloadN X1 hx hby d10_6 rfl ?_
  refine g_ifN X1 hx hby d10_7 (feq (by decide : ¬ ((1 : Int32) = (0 : Int32)))).1 ?_
  refine g_aloadN X1 hx hby d10_10 rfl rfl ?_
  refine g_dup X1 hx hby d10_11 rfl ?_
  refine g_getF X1 hx hby hZ hown (host := "") (Or.inl w40_) Via.refl eh1 rP d10_12 (fun T2 X2 e2 => ?_)
  refine g_iconst X2 hx hby (1 : Int32) d10_15 rfl ?_
  refine g_iadd X2 hx hby d10_16 ?_
  refine g_topI (2 : Int32) (by decide) ?_
  refine g_putF X2 hx hby hZ hown (host := "") (Or.inl w40_) Via.refl e2 rP rE (Or.inl w41_) w27_ .int (by decide) rfl rfl N1 gr d10_17 (fun T3 h3 X3 e3 W3 F3 N3 => ?_)
  refine g_iloadN X3 hx hby d10_20 rfl ?_
  have f4 := (rE.wr W3)
  have f5 := (rT.other W3 (Or.inr (slot_ne (Or.inr w34_) (Or.inl w41_) (by decide) (t := (.object "java/lang/String")) (t' := .int) (by decide) (by decide))))
  refine g_nret X3 hx hby (t := .boolean) (by simp) Bd.returns Bd.notSynchronized d10_21 e3 (by decide) (by decide) ?_
  show (Q_rdtake_3_1 Z r a b kb bs cz c bv fz h0 n0) (some (.int (1 : Int32))) _ _
  exact ⟨rfl, N3, ((Keep.refl h0 [r]).wr W3 (Or.inl (List.mem_of_getElem? (i := 0) rfl))), f4, f5, F3⟩

def Q_rdend_3_2 (Z : State) (r : Addr) (a : Addr) (b : Addr) (kb : ClassId) (bs : List Value) (cz : Int32) (h0 : Heap) (n0 : Nat) (v : Option Value) (h : Heap) (L : List Loc) : Prop := v = some (.int (0 : Int32)) ∧ Fr n0 L ∧ h = h0
set_option maxRecDepth 65536 in
set_option maxHeartbeats 40000000 in
theorem rm_rdend_3_2 (l : Launch) (Z : State) (a0 : Array Value) (hw : ∀ d ∈ tables_1, d.before a0 Z = true) (ws : List Jvm.Cond) (r : Addr) (a : Addr) (b : Addr) (kb : ClassId) (bs : List Value) (cz : Int32) (h0 : Heap) (n0 : Nat) (Z0 : n0 ≤ h0.size) (O2 : Sta Z Z.heap "java/lang/String" "COMPACT_STRINGS" "Z" (.int cz)) (P5 : ¬ cz = (0 : Int32)) (OLD : Old Z n0 h0) (E : Exa Z h0 a "java/lang/String") (C : Fld Z h0 a "java/lang/String" "coder" "B" (.int (0 : Int32))) (VF : Fld Z h0 a "java/lang/String" "value" "[B" (.ref b)) (VB : Arv Z h0 b kb .byte (3 : Int32) bs (.int (0 : Int32))) (rE : Exa Z h0 r "com/example/pathloom/pathloom/web/MediaType$Reader") (rT : Fld Z h0 r "com/example/pathloom/pathloom/web/MediaType$Reader" "text" "Ljava/lang/String;" (.ref a)) (rP : Fld Z h0 r "com/example/pathloom/pathloom/web/MediaType$Reader" "position" "I" (.int (2 : Int32))) :
    MetFree l (⟨"com/example/pathloom/pathloom/web/MediaType$Reader", "atEnd", "()Z"⟩ : MethodName) (head1 (Jvm.Cond.code (⟨"com/example/pathloom/pathloom/web/MediaType$Reader", "atEnd", "()Z"⟩ : MethodName) prog_35_method_2_code 1 (some .boolean) :: ws) ({ frames := 2, cells := 0, slots := 0, locals := 26 } : Room)) (fun aa_ U => aa_ = #[(.ref r)] ∧ Z.Warmed39 U.vm ∧ U.heap = h0) (fun _ _ _ _ _ => True) (fun _ U o_ U' => RetG U (Q_rdend_3_2 Z r a b kb bs cz h0 n0) 0 0 U' o_) := by
  refine MetFree.of_bodySF (plainFor_of_name own_pn3) hisR ?_
  intro p e s m args below meth c_ s₁ Bd hml0 hP hK
  obtain ⟨rfl, hZ, hh⟩ := hP
  have hx := Bd.exec
  have hby := Bd.bytes
  have hml : c_.maxLocals = 1 := hml0
  have hown : s.vm.findClass "com/example/pathloom/pathloom/web/MediaType$Reader" = some m.cls := findClass_of_methodNamed Bd.named
  have hnm := (name_of_methodNamed Bd.named Bd.method).1
  have X0 : Stand p l e ({ frames := 2, cells := 0, slots := 0, locals := 26 } : Room) s m #[(.ref r)] below meth c_ s₁ [] 0 0 := Stand.of_body Bd
  have e0 : s₁.heap = h0 := by rw [← hh, Bd.state]; rfl
  have N0 := Fr.nil n0
  have w7_ := hw _ (List.mem_of_getElem? (i := 7) rfl)
  have w33_ := hw _ (List.mem_of_getElem? (i := 33) rfl)
  have w40_ := hw _ (List.mem_of_getElem? (i := 40) rfl)
  have w42_ := hw _ (List.mem_of_getElem? (i := 42) rfl)
  have w43_ := hw _ (List.mem_of_getElem? (i := 43) rfl)
  have w44_ := hw _ (List.mem_of_getElem? (i := 44) rfl)
  have w45_ := hw _ (List.mem_of_getElem? (i := 45) rfl)
  have w46_ := hw _ (List.mem_of_getElem? (i := 46) rfl)
  show Go p e below (RetG s (Q_rdend_3_2 Z r a b kb bs cz h0 n0) 0 0) (s₁.setTop (entryFrame m #[(.ref r)] 1))
  rw [show entryFrame m #[(.ref r)] 1 = mkF m 0 #[.val (.ref r)] [] from by first | (simp [entryFrame, mkF, argsToLocals, Value.category]; done) | rfl]
  refine g_aloadN X0 hx hby d6_0 rfl rfl ?_
  refine g_getF X0 hx hby hZ hown (host := "") (Or.inl w40_) Via.refl e0 rP d6_1 (fun T1 X1 e1 => ?_)
  refine g_aloadN X1 hx hby d6_4 rfl rfl ?_
  refine g_getF X1 hx hby hZ hown (host := "") (Or.inl w33_) Via.refl e1 rT d6_5 (fun T2 X2 e2 => ?_)
  refine g_virtual X2 hx hby hZ hown (rm_slen_3 l Z a0 hw [] a b kb bs cz h0 n0 Z0 O2 P5 OLD E C VF VB) w42_ w43_ (notFace_of_selects (args := #[]) (mvT hZ w45_)) w45_ w44_ w7_ w46_ (by decide) e2 E (by rw [hml]; rfl) [] (lenOf own_pd6 rfl) rfl rfl (Nat.le_of_ble_eq_true rfl) (Nat.le_of_ble_eq_true rfl) (Nat.le_of_ble_eq_true rfl) (Nat.le_of_ble_eq_true rfl) d6_8 (fun v3 T3 L3 X3 hQ3 => ?_)
  obtain ⟨rfl, N3q, eh3⟩ := hQ3
  have N3 := Fr.app N0 N3q
  refine g_icY X3 hx hby 18 d6_11 (feq (by decide : ¬ ((2 : Int32) = (3 : Int32)))).2 (by decide) (by decide) ?_
  refine g_iconst X3 hx hby (0 : Int32) d6_18 rfl ?_
  refine g_nret X3 hx hby (t := .boolean) (by simp) Bd.returns Bd.notSynchronized d6_19 eh3 (by decide) (by decide) ?_
  show (Q_rdend_3_2 Z r a b kb bs cz h0 n0) (some (.int (0 : Int32))) _ _
  exact ⟨rfl, N3, rfl⟩

def Q_step31 (Z : State) (r : Addr) (a : Addr) (b : Addr) (kb : ClassId) (cz : Int32) (al : Addr) (ka : ClassId) (c0 : Int32) (c1 : Int32) (c2 : Int32) (fz : Value) (h0 : Heap) (n0 : Nat) (v : Option Value) (h : Heap) (L : List Loc) : Prop := v = some (.int (1 : Int32)) ∧ Fr n0 L ∧ Keep h0 h [r] ∧ Exa Z h r "com/example/pathloom/pathloom/web/MediaType$Reader" ∧ Fld Z h r "com/example/pathloom/pathloom/web/MediaType$Reader" "text" "Ljava/lang/String;" (.ref a) ∧ Fld Z h r "com/example/pathloom/pathloom/web/MediaType$Reader" "position" "I" (.int (2 : Int32))
set_option maxRecDepth 65536 in
set_option maxHeartbeats 40000000 in
theorem rm_step31 (l : Launch) (Z : State) (a0 : Array Value) (hw : ∀ d ∈ tables_1, d.before a0 Z = true) (ws : List Jvm.Cond) (r : Addr) (a : Addr) (b : Addr) (kb : ClassId) (cz : Int32) (al : Addr) (ka : ClassId) (c0 : Int32) (c1 : Int32) (c2 : Int32) (fz : Value) (h0 : Heap) (n0 : Nat) (Z0 : n0 ≤ h0.size) (O2 : Sta Z Z.heap "java/lang/String" "COMPACT_STRINGS" "Z" (.int cz)) (P5 : ¬ cz = (0 : Int32)) (OLD : Old Z n0 h0) (E : Exa Z h0 a "java/lang/String") (C : Fld Z h0 a "java/lang/String" "coder" "B" (.int (0 : Int32))) (VF : Fld Z h0 a "java/lang/String" "value" "[B" (.ref b)) (VB : Arv Z h0 b kb .byte (3 : Int32) [(.int (nar .byte ((nar .char c0).toInt8.toInt32))), (.int (nar .byte ((nar .char c1).toInt8.toInt32))), (.int (nar .byte ((nar .char c2).toInt8.toInt32)))] (.int (0 : Int32))) (rE : Exa Z h0 r "com/example/pathloom/pathloom/web/MediaType$Reader") (rT : Fld Z h0 r "com/example/pathloom/pathloom/web/MediaType$Reader" "text" "Ljava/lang/String;" (.ref a)) (rP : Fld Z h0 r "com/example/pathloom/pathloom/web/MediaType$Reader" "position" "I" (.int (1 : Int32))) (VA : Arv Z h0 al ka .char (3 : Int32) [(.int c0), (.int c1), (.int c2)] (.int (0 : Int32))) (hc0 : 0 ≤ c0.toInt ∧ c0.toInt ≤ 255) (hc1 : 0 ≤ c1.toInt ∧ c1.toInt ≤ 255) (hc2 : 0 ≤ c2.toInt ∧ c2.toInt ≤ 255) (rfz : Rf fz) (O4 : Sta Z Z.heap "jdk/internal/util/Preconditions" "SIOOBE_FORMATTER" "Ljava/util/function/BiFunction;" fz) (gr : n0 ≤ r) (nra : r ≠ a) (nrb : r ≠ b) :
    MetFree l (⟨"com/example/pathloom/pathloom/web/ReaderAtEndPinLaw", "step", "(Lcom/example/pathloom/pathloom/web/MediaType$Reader;II[C)Z"⟩ : MethodName) (head1 (Jvm.Cond.code (⟨"com/example/pathloom/pathloom/web/ReaderAtEndPinLaw", "step", "(Lcom/example/pathloom/pathloom/web/MediaType$Reader;II[C)Z"⟩ : MethodName) method_4_code 6 (some .boolean) :: ws) ({ frames := 6, cells := 0, slots := 0, locals := 80 } : Room)) (fun aa_ U => aa_ = #[(.ref r), (.int (1 : Int32)), (.int (3 : Int32)), (.ref al)] ∧ Z.Warmed39 U.vm ∧ U.heap = h0) (fun _ _ _ _ _ => True) (fun _ U o_ U' => RetG U (Q_step31 Z r a b kb cz al ka c0 c1 c2 fz h0 n0) 0 0 U' o_) := by
  refine MetFree.of_bodySF (plainFor_of_name own_pn1) hisR ?_
  intro p e s m args below meth c_ s₁ Bd hml0 hP hK
  obtain ⟨rfl, hZ, hh⟩ := hP
  have hx := Bd.exec
  have hby := Bd.bytes
  have hml : c_.maxLocals = 6 := hml0
  have hown : s.vm.findClass "com/example/pathloom/pathloom/web/ReaderAtEndPinLaw" = some m.cls := findClass_of_methodNamed Bd.named
  have hnm := (name_of_methodNamed Bd.named Bd.method).1
  have X0 : Stand p l e ({ frames := 6, cells := 0, slots := 0, locals := 80 } : Room) s m #[(.ref r), (.int (1 : Int32)), (.int (3 : Int32)), (.ref al)] below meth c_ s₁ [] 0 0 := Stand.of_body Bd
  have e0 : s₁.heap = h0 := by rw [← hh, Bd.state]; rfl
  have N0 := Fr.nil n0
  have w28_ := hw _ (List.mem_of_getElem? (i := 28) rfl)
  have w35_ := hw _ (List.mem_of_getElem? (i := 35) rfl)
  have w36_ := hw _ (List.mem_of_getElem? (i := 36) rfl)
  have w37_ := hw _ (List.mem_of_getElem? (i := 37) rfl)
  have w38_ := hw _ (List.mem_of_getElem? (i := 38) rfl)
  have w39_ := hw _ (List.mem_of_getElem? (i := 39) rfl)
  have w56_ := hw _ (List.mem_of_getElem? (i := 56) rfl)
  have w57_ := hw _ (List.mem_of_getElem? (i := 57) rfl)
  have w58_ := hw _ (List.mem_of_getElem? (i := 58) rfl)
  have w59_ := hw _ (List.mem_of_getElem? (i := 59) rfl)
  have w60_ := hw _ (List.mem_of_getElem? (i := 60) rfl)
  have w67_ := hw _ (List.mem_of_getElem? (i := 67) rfl)
  have w68_ := hw _ (List.mem_of_getElem? (i := 68) rfl)
  have w69_ := hw _ (List.mem_of_getElem? (i := 69) rfl)
  have w70_ := hw _ (List.mem_of_getElem? (i := 70) rfl)
  show Go p e below (RetG s (Q_step31 Z r a b kb cz al ka c0 c1 c2 fz h0 n0) 0 0) (s₁.setTop (entryFrame m #[(.ref r), (.int (1 : Int32)), (.int (3 : Int32)), (.ref al)] 6))
  rw [show entryFrame m #[(.ref r), (.int (1 : Int32)), (.int (3 : Int32)), (.ref al)] 6 = mkF m 0 #[.val (.ref r), .val (.int (1 : Int32)), .val (.int (3 : Int32)), .val (.ref al), .unset, .unset] [] from by first | (simp [entryFrame, mkF, argsToLocals, Value.category]; done) | rfl]
  refine g_aloadN X0 hx hby d9_0 rfl rfl ?_
  refine g_aloadN X0 hx hby d9_1 rfl rfl ?_
  refine g_iloadN X0 hx hby d9_2 rfl ?_
  refine g_caload X0 hx hby hZ e0 VA (.int c1) ⟨by decide, by decide⟩ rfl d9_3 ?_
  refine g_virtual X0 hx hby hZ hown (rm_rdtake_3_1 l Z a0 hw [] r a b kb [(.int (nar .byte ((nar .char c0).toInt8.toInt32))), (.int (nar .byte ((nar .char c1).toInt8.toInt32))), (.int (nar .byte ((nar .char c2).toInt8.toInt32)))] cz c1 (nar .byte ((nar .char c1).toInt8.toInt32)) fz h0 n0 Z0 O2 P5 OLD E C VF VB rE rT rP rfl (own_byte hc1) rfz O4 gr nra nrb) w56_ w57_ (notFace_of_selects (args := #[]) (mvT hZ w59_)) w59_ w58_ w28_ w60_ (by decide) e0 rE (by rw [hml]; rfl) [(.int c1)] (lenOf own_pd8 rfl) rfl rfl (Nat.le_of_ble_eq_true rfl) (Nat.le_of_ble_eq_true rfl) (Nat.le_of_ble_eq_true rfl) (Nat.le_of_ble_eq_true rfl) d9_4 (fun v1 T1 L1 X1 hQ1 => ?_)
  obtain ⟨rfl, N1q, K1, Er1, Tr1, Pr1⟩ := hQ1
  have N1 := Fr.app N0 N1q
  refine g_istore X1 hx hby d9_7 (l' := #[.val (.ref r), .val (.int (1 : Int32)), .val (.int (3 : Int32)), .val (.ref al), .val (.int (1 : Int32)), .unset]) rfl ?_
  refine g_iloadN X1 hx hby d9_9 rfl ?_
  refine g_iconst X1 hx hby (1 : Int32) d9_10 rfl ?_
  refine g_iadd X1 hx hby d9_11 ?_
  refine g_topI (2 : Int32) (by decide) ?_
  refine g_iloadN X1 hx hby d9_12 rfl ?_
  have z3 := (Nat.le_trans Z0 K1.1)
  refine g_static X1 hx hby hZ hown (rm_mmin l Z a0 hw [] (2 : Int32) (3 : Int32) T1.heap n0 z3 ) w67_ w68_ w69_ w70_ (by decide) rfl (by rw [hml]; rfl) [(.int (2 : Int32)), (.int (3 : Int32))] (lenOf own_pd9 rfl) rfl rfl (Nat.le_of_ble_eq_true rfl) (Nat.le_of_ble_eq_true rfl) (Nat.le_of_ble_eq_true rfl) (Nat.le_of_ble_eq_true rfl) d9_13 (fun v2 T2 L2 X2 hQ2 => ?_)
  obtain ⟨rfl, N2q, eh2⟩ := hQ2
  have N2 := Fr.app N1 N2q
  refine g_topI (T := T2) (2 : Int32) (by decide) ?_
  refine g_istore X2 hx hby d9_16 (l' := #[.val (.ref r), .val (.int (1 : Int32)), .val (.int (3 : Int32)), .val (.ref al), .val (.int (1 : Int32)), .val (.int (2 : Int32))]) rfl ?_
  refine g_iload X2 hx hby d9_18 rfl ?_
  refine g_iloadN X2 hx hby d9_20 rfl ?_
  refine g_iloadN X2 hx hby d9_21 rfl ?_
  refine g_at 22 rfl rfl rfl ?_
  refine g_icN X2 hx hby d9_22 (tlt (by decide : (1 : Int32) < (3 : Int32))).2.1 ?_
  refine g_iconst X2 hx hby (1 : Int32) d9_25 rfl ?_
  refine g_goto X2 hx hby 30 d9_26 (by decide) (by decide) ?_
  refine g_icN X2 hx hby d9_30 (teq (by decide : (1 : Int32) = (1 : Int32))).2 ?_
  refine g_aloadN X2 hx hby d9_33 rfl rfl ?_
  have f5 := (E.keep K1)
  have f6 := (C.keep K1 (ninS (Ne.symm nra) nin0))
  have f7 := (VF.keep K1 (ninS (Ne.symm nra) nin0))
  have f8 := (VB.keep K1 (ninS (Ne.symm nrb) nin0))
  have f9 := (OLD.keep K1 (allS gr all0))
  refine g_virtual X2 hx hby hZ hown (rm_rdend_3_2 l Z a0 hw [] r a b kb [(.int (nar .byte ((nar .char c0).toInt8.toInt32))), (.int (nar .byte ((nar .char c1).toInt8.toInt32))), (.int (nar .byte ((nar .char c2).toInt8.toInt32)))] cz T1.heap n0 z3 O2 P5 f9 f5 f6 f7 f8 Er1 Tr1 Pr1) w35_ w36_ (notFace_of_selects (args := #[]) (mvT hZ w38_)) w38_ w37_ w28_ w39_ (by decide) eh2 Er1 (by rw [hml]; rfl) [] (lenOf own_pd7 rfl) rfl rfl (Nat.le_of_ble_eq_true rfl) (Nat.le_of_ble_eq_true rfl) (Nat.le_of_ble_eq_true rfl) (Nat.le_of_ble_eq_true rfl) d9_34 (fun v4 T4 L4 X4 hQ4 => ?_)
  obtain ⟨rfl, N4q, eh4⟩ := hQ4
  have N4 := Fr.app N2 N4q
  refine g_iload X4 hx hby d9_37 rfl ?_
  refine g_iloadN X4 hx hby d9_39 rfl ?_
  refine g_icY X4 hx hby 47 d9_40 (feq (by decide : ¬ ((2 : Int32) = (3 : Int32)))).2 (by decide) (by decide) ?_
  refine g_iconst X4 hx hby (0 : Int32) d9_47 rfl ?_
  refine g_icN X4 hx hby d9_48 (teq (by decide : (0 : Int32) = (0 : Int32))).2 ?_
  refine g_iconst X4 hx hby (1 : Int32) d9_51 rfl ?_
  refine g_goto X4 hx hby 56 d9_52 (by decide) (by decide) ?_
  refine g_nret X4 hx hby (t := .boolean) (by simp) Bd.returns Bd.notSynchronized d9_56 eh4 (by decide) (by decide) ?_
  show (Q_step31 Z r a b kb cz al ka c0 c1 c2 fz h0 n0) (some (.int (1 : Int32))) _ _
  exact ⟨rfl, N4, ((Keep.refl h0 [r]).trans K1 (allS (Or.inl (List.mem_of_getElem? (i := 0) rfl)) all0)), Er1, Tr1, Pr1⟩

def Q_rdat_3_2 (Z : State) (r : Addr) (a : Addr) (b : Addr) (kb : ClassId) (bs : List Value) (cz : Int32) (c : Int32) (bv : Int32) (fz : Value) (h0 : Heap) (n0 : Nat) (v : Option Value) (h : Heap) (L : List Loc) : Prop := v = some (.int (1 : Int32)) ∧ Fr n0 L ∧ h = h0
set_option maxRecDepth 65536 in
set_option maxHeartbeats 40000000 in
theorem rm_rdat_3_2 (l : Launch) (Z : State) (a0 : Array Value) (hw : ∀ d ∈ tables_1, d.before a0 Z = true) (ws : List Jvm.Cond) (r : Addr) (a : Addr) (b : Addr) (kb : ClassId) (bs : List Value) (cz : Int32) (c : Int32) (bv : Int32) (fz : Value) (h0 : Heap) (n0 : Nat) (Z0 : n0 ≤ h0.size) (O2 : Sta Z Z.heap "java/lang/String" "COMPACT_STRINGS" "Z" (.int cz)) (P5 : ¬ cz = (0 : Int32)) (OLD : Old Z n0 h0) (E : Exa Z h0 a "java/lang/String") (C : Fld Z h0 a "java/lang/String" "coder" "B" (.int (0 : Int32))) (VF : Fld Z h0 a "java/lang/String" "value" "[B" (.ref b)) (VB : Arv Z h0 b kb .byte (3 : Int32) bs (.int (0 : Int32))) (rE : Exa Z h0 r "com/example/pathloom/pathloom/web/MediaType$Reader") (rT : Fld Z h0 r "com/example/pathloom/pathloom/web/MediaType$Reader" "text" "Ljava/lang/String;" (.ref a)) (rP : Fld Z h0 r "com/example/pathloom/pathloom/web/MediaType$Reader" "position" "I" (.int (2 : Int32))) (hv : bs.getD 2 (.int (0 : Int32)) = .int bv) (hcb : nar .char (nar .char ((bv &&& (255 : Int32)).toUInt32.toUInt16.toUInt32.toInt32)) = c) (rfz : Rf fz) (O4 : Sta Z Z.heap "jdk/internal/util/Preconditions" "SIOOBE_FORMATTER" "Ljava/util/function/BiFunction;" fz) :
    MetFree l (⟨"com/example/pathloom/pathloom/web/MediaType$Reader", "at", "(C)Z"⟩ : MethodName) (head1 (Jvm.Cond.code (⟨"com/example/pathloom/pathloom/web/MediaType$Reader", "at", "(C)Z"⟩ : MethodName) prog_35_method_4_code 2 (some .boolean) :: ws) ({ frames := 4, cells := 0, slots := 0, locals := 53 } : Room)) (fun aa_ U => aa_ = #[(.ref r), (.int c)] ∧ Z.Warmed39 U.vm ∧ U.heap = h0) (fun _ _ _ _ _ => True) (fun _ U o_ U' => RetG U (Q_rdat_3_2 Z r a b kb bs cz c bv fz h0 n0) 0 0 U' o_) := by
  refine MetFree.of_bodySF (plainFor_of_name own_pn3) hisR ?_
  intro p e s m args below meth c_ s₁ Bd hml0 hP hK
  obtain ⟨rfl, hZ, hh⟩ := hP
  have hx := Bd.exec
  have hby := Bd.bytes
  have hml : c_.maxLocals = 2 := hml0
  have hown : s.vm.findClass "com/example/pathloom/pathloom/web/MediaType$Reader" = some m.cls := findClass_of_methodNamed Bd.named
  have hnm := (name_of_methodNamed Bd.named Bd.method).1
  have X0 : Stand p l e ({ frames := 4, cells := 0, slots := 0, locals := 53 } : Room) s m #[(.ref r), (.int c)] below meth c_ s₁ [] 0 0 := Stand.of_body Bd
  have e0 : s₁.heap = h0 := by rw [← hh, Bd.state]; rfl
  have N0 := Fr.nil n0
  have w7_ := hw _ (List.mem_of_getElem? (i := 7) rfl)
  have w28_ := hw _ (List.mem_of_getElem? (i := 28) rfl)
  have w33_ := hw _ (List.mem_of_getElem? (i := 33) rfl)
  have w36_ := hw _ (List.mem_of_getElem? (i := 36) rfl)
  have w37_ := hw _ (List.mem_of_getElem? (i := 37) rfl)
  have w38_ := hw _ (List.mem_of_getElem? (i := 38) rfl)
  have w39_ := hw _ (List.mem_of_getElem? (i := 39) rfl)
  have w40_ := hw _ (List.mem_of_getElem? (i := 40) rfl)
  have w66_ := hw _ (List.mem_of_getElem? (i := 66) rfl)
  have w81_ := hw _ (List.mem_of_getElem? (i := 81) rfl)
  have w82_ := hw _ (List.mem_of_getElem? (i := 82) rfl)
  have w83_ := hw _ (List.mem_of_getElem? (i := 83) rfl)
  have w84_ := hw _ (List.mem_of_getElem? (i := 84) rfl)
  have w85_ := hw _ (List.mem_of_getElem? (i := 85) rfl)
  show Go p e below (RetG s (Q_rdat_3_2 Z r a b kb bs cz c bv fz h0 n0) 0 0) (s₁.setTop (entryFrame m #[(.ref r), (.int c)] 2))
  rw [show entryFrame m #[(.ref r), (.int c)] 2 = mkF m 0 #[.val (.ref r), .val (.int c)] [] from by first | (simp [entryFrame, mkF, argsToLocals, Value.category]; done) | rfl]
  refine g_aloadN X0 hx hby d11_0 rfl rfl ?_
  refine g_virtual X0 hx hby hZ hown (rm_rdend_3_2 l Z a0 hw [] r a b kb bs cz h0 n0 Z0 O2 P5 OLD E C VF VB rE rT rP) w66_ w36_ (notFace_of_selects (args := #[]) (mvT hZ w38_)) w38_ w37_ w28_ w39_ (by decide) e0 rE (by rw [hml]; rfl) [] (lenOf own_pd7 rfl) rfl rfl (Nat.le_of_ble_eq_true rfl) (Nat.le_of_ble_eq_true rfl) (Nat.le_of_ble_eq_true rfl) (Nat.le_of_ble_eq_true rfl) d11_1 (fun v1 T1 L1 X1 hQ1 => ?_)
  obtain ⟨rfl, N1q, eh1⟩ := hQ1
  have N1 := Fr.app N0 N1q
  refine g_ifN X1 hx hby d11_4 (teq (by decide : (0 : Int32) = (0 : Int32))).2 ?_
  refine g_aloadN X1 hx hby d11_7 rfl rfl ?_
  refine g_getF X1 hx hby hZ hown (host := "") (Or.inl w33_) Via.refl eh1 rT d11_8 (fun T2 X2 e2 => ?_)
  refine g_aloadN X2 hx hby d11_11 rfl rfl ?_
  refine g_getF X2 hx hby hZ hown (host := "") (Or.inl w40_) Via.refl e2 rP d11_12 (fun T3 X3 e3 => ?_)
  refine g_virtual X3 hx hby hZ hown (rm_schar_3 l Z a0 hw [] a b kb bs (2 : Int32) bv fz cz h0 n0 Z0 O2 P5 OLD E C VF VB ⟨by decide, by decide⟩ hv rfz O4) w81_ w82_ (notFace_of_selects (args := #[]) (mvT hZ w84_)) w84_ w83_ w7_ w85_ (by decide) e3 E (by rw [hml]; rfl) [(.int (2 : Int32))] (lenOf own_pd13 rfl) rfl rfl (Nat.le_of_ble_eq_true rfl) (Nat.le_of_ble_eq_true rfl) (Nat.le_of_ble_eq_true rfl) (Nat.le_of_ble_eq_true rfl) d11_15 (fun v4 T4 L4 X4 hQ4 => ?_)
  obtain ⟨rfl, N4q, eh4⟩ := hQ4
  have N4 := Fr.app N1 N4q
  refine g_topI (T := T4) c hcb ?_
  refine g_iloadN X4 hx hby d11_18 rfl ?_
  refine g_icN X4 hx hby d11_19 (teq (rfl : c = c)).2 ?_
  refine g_iconst X4 hx hby (1 : Int32) d11_22 rfl ?_
  refine g_goto X4 hx hby 27 d11_23 (by decide) (by decide) ?_
  refine g_nret X4 hx hby (t := .boolean) (by simp) Bd.returns Bd.notSynchronized d11_27 eh4 (by decide) (by decide) ?_
  show (Q_rdat_3_2 Z r a b kb bs cz c bv fz h0 n0) (some (.int (1 : Int32))) _ _
  exact ⟨rfl, N4, rfl⟩

def Q_rdtake_3_2 (Z : State) (r : Addr) (a : Addr) (b : Addr) (kb : ClassId) (bs : List Value) (cz : Int32) (c : Int32) (bv : Int32) (fz : Value) (h0 : Heap) (n0 : Nat) (v : Option Value) (h : Heap) (L : List Loc) : Prop := v = some (.int (1 : Int32)) ∧ Fr n0 L ∧ Keep h0 h [r] ∧ Exa Z h r "com/example/pathloom/pathloom/web/MediaType$Reader" ∧ Fld Z h r "com/example/pathloom/pathloom/web/MediaType$Reader" "text" "Ljava/lang/String;" (.ref a) ∧ Fld Z h r "com/example/pathloom/pathloom/web/MediaType$Reader" "position" "I" (.int (3 : Int32))
set_option maxRecDepth 65536 in
set_option maxHeartbeats 40000000 in
theorem rm_rdtake_3_2 (l : Launch) (Z : State) (a0 : Array Value) (hw : ∀ d ∈ tables_1, d.before a0 Z = true) (ws : List Jvm.Cond) (r : Addr) (a : Addr) (b : Addr) (kb : ClassId) (bs : List Value) (cz : Int32) (c : Int32) (bv : Int32) (fz : Value) (h0 : Heap) (n0 : Nat) (Z0 : n0 ≤ h0.size) (O2 : Sta Z Z.heap "java/lang/String" "COMPACT_STRINGS" "Z" (.int cz)) (P5 : ¬ cz = (0 : Int32)) (OLD : Old Z n0 h0) (E : Exa Z h0 a "java/lang/String") (C : Fld Z h0 a "java/lang/String" "coder" "B" (.int (0 : Int32))) (VF : Fld Z h0 a "java/lang/String" "value" "[B" (.ref b)) (VB : Arv Z h0 b kb .byte (3 : Int32) bs (.int (0 : Int32))) (rE : Exa Z h0 r "com/example/pathloom/pathloom/web/MediaType$Reader") (rT : Fld Z h0 r "com/example/pathloom/pathloom/web/MediaType$Reader" "text" "Ljava/lang/String;" (.ref a)) (rP : Fld Z h0 r "com/example/pathloom/pathloom/web/MediaType$Reader" "position" "I" (.int (2 : Int32))) (hv : bs.getD 2 (.int (0 : Int32)) = .int bv) (hcb : nar .char (nar .char ((bv &&& (255 : Int32)).toUInt32.toUInt16.toUInt32.toInt32)) = c) (rfz : Rf fz) (O4 : Sta Z Z.heap "jdk/internal/util/Preconditions" "SIOOBE_FORMATTER" "Ljava/util/function/BiFunction;" fz) (gr : n0 ≤ r) (nra : r ≠ a) (nrb : r ≠ b) :
    MetFree l (⟨"com/example/pathloom/pathloom/web/MediaType$Reader", "take", "(C)Z"⟩ : MethodName) (head1 (Jvm.Cond.code (⟨"com/example/pathloom/pathloom/web/MediaType$Reader", "take", "(C)Z"⟩ : MethodName) prog_35_method_5_code 3 (some .boolean) :: ws) ({ frames := 5, cells := 0, slots := 0, locals := 66 } : Room)) (fun aa_ U => aa_ = #[(.ref r), (.int c)] ∧ Z.Warmed39 U.vm ∧ U.heap = h0) (fun _ _ _ _ _ => True) (fun _ U o_ U' => RetG U (Q_rdtake_3_2 Z r a b kb bs cz c bv fz h0 n0) 0 0 U' o_) := by
  refine MetFree.of_bodySF (plainFor_of_name own_pn3) hisR ?_
  intro p e s m args below meth c_ s₁ Bd hml0 hP hK
  obtain ⟨rfl, hZ, hh⟩ := hP
  have hx := Bd.exec
  have hby := Bd.bytes
  have hml : c_.maxLocals = 3 := hml0
  have hown : s.vm.findClass "com/example/pathloom/pathloom/web/MediaType$Reader" = some m.cls := findClass_of_methodNamed Bd.named
  have hnm := (name_of_methodNamed Bd.named Bd.method).1
  have X0 : Stand p l e ({ frames := 5, cells := 0, slots := 0, locals := 66 } : Room) s m #[(.ref r), (.int c)] below meth c_ s₁ [] 0 0 := Stand.of_body Bd
  have e0 : s₁.heap = h0 := by rw [← hh, Bd.state]; rfl
  have N0 := Fr.nil n0
  have w27_ := hw _ (List.mem_of_getElem? (i := 27) rfl)
  have w28_ := hw _ (List.mem_of_getElem? (i := 28) rfl)
  have w34_ := hw _ (List.mem_of_getElem? (i := 34) rfl)
  have w40_ := hw _ (List.mem_of_getElem? (i := 40) rfl)
  have w41_ := hw _ (List.mem_of_getElem? (i := 41) rfl)
  have w61_ := hw _ (List.mem_of_getElem? (i := 61) rfl)
  have w62_ := hw _ (List.mem_of_getElem? (i := 62) rfl)
  have w63_ := hw _ (List.mem_of_getElem? (i := 63) rfl)
  have w64_ := hw _ (List.mem_of_getElem? (i := 64) rfl)
  have w65_ := hw _ (List.mem_of_getElem? (i := 65) rfl)
  show Go p e below (RetG s (Q_rdtake_3_2 Z r a b kb bs cz c bv fz h0 n0) 0 0) (s₁.setTop (entryFrame m #[(.ref r), (.int c)] 3))
  rw [show entryFrame m #[(.ref r), (.int c)] 3 = mkF m 0 #[.val (.ref r), .val (.int c), .unset] [] from by first | (simp [entryFrame, mkF, argsToLocals, Value.category]; done) | rfl]
  refine g_aloadN X0 hx hby d10_0 rfl rfl ?_
  refine g_iloadN X0 hx hby d10_1 rfl ?_
  refine g_virtual X0 hx hby hZ hown (rm_rdat_3_2 l Z a0 hw [] r a b kb bs cz c bv fz h0 n0 Z0 O2 P5 OLD E C VF VB rE rT rP hv hcb rfz O4) w61_ w62_ (notFace_of_selects (args := #[]) (mvT hZ w64_)) w64_ w63_ w28_ w65_ (by decide) e0 rE (by rw [hml]; rfl) [(.int c)] (lenOf own_pd8 rfl) rfl rfl (Nat.le_of_ble_eq_true rfl) (Nat.le_of_ble_eq_true rfl) (Nat.le_of_ble_eq_true rfl) (Nat.le_of_ble_eq_true rfl) d10_2 (fun v1 T1 L1 X1 hQ1 => ?_)
  obtain ⟨rfl, N1q, eh1⟩ := hQ1
  have N1 := Fr.app N0 N1q
  refine g_istoreN X1 hx hby d10_5 (l' := #[.val (.ref r), .val (.int c), .val (.int (1 : Int32))]) rfl ?_
  refine g_iloadN X1 hx hby d10_6 rfl ?_
  refine g_ifN X1 hx hby d10_7 (feq (by decide : ¬ ((1 : Int32) = (0 : Int32)))).1 ?_
  refine g_aloadN X1 hx hby d10_10 rfl rfl ?_
  refine g_dup X1 hx hby d10_11 rfl ?_
  refine g_getF X1 hx hby hZ hown (host := "") (Or.inl w40_) Via.refl eh1 rP d10_12 (fun T2 X2 e2 => ?_)
  refine g_iconst X2 hx hby (1 : Int32) d10_15 rfl ?_
  refine g_iadd X2 hx hby d10_16 ?_
  refine g_topI (3 : Int32) (by decide) ?_
  refine g_putF X2 hx hby hZ hown (host := "") (Or.inl w40_) Via.refl e2 rP rE (Or.inl w41_) w27_ .int (by decide) rfl rfl N1 gr d10_17 (fun T3 h3 X3 e3 W3 F3 N3 => ?_)
  refine g_iloadN X3 hx hby d10_20 rfl ?_
  have f4 := (rE.wr W3)
  have f5 := (rT.other W3 (Or.inr (slot_ne (Or.inr w34_) (Or.inl w41_) (by decide) (t := (.object "java/lang/String")) (t' := .int) (by decide) (by decide))))
  refine g_nret X3 hx hby (t := .boolean) (by simp) Bd.returns Bd.notSynchronized d10_21 e3 (by decide) (by decide) ?_
  show (Q_rdtake_3_2 Z r a b kb bs cz c bv fz h0 n0) (some (.int (1 : Int32))) _ _
  exact ⟨rfl, N3, ((Keep.refl h0 [r]).wr W3 (Or.inl (List.mem_of_getElem? (i := 0) rfl))), f4, f5, F3⟩

def Q_rdend_3_3 (Z : State) (r : Addr) (a : Addr) (b : Addr) (kb : ClassId) (bs : List Value) (cz : Int32) (h0 : Heap) (n0 : Nat) (v : Option Value) (h : Heap) (L : List Loc) : Prop := v = some (.int (1 : Int32)) ∧ Fr n0 L ∧ h = h0
set_option maxRecDepth 65536 in
set_option maxHeartbeats 40000000 in
theorem rm_rdend_3_3 (l : Launch) (Z : State) (a0 : Array Value) (hw : ∀ d ∈ tables_1, d.before a0 Z = true) (ws : List Jvm.Cond) (r : Addr) (a : Addr) (b : Addr) (kb : ClassId) (bs : List Value) (cz : Int32) (h0 : Heap) (n0 : Nat) (Z0 : n0 ≤ h0.size) (O2 : Sta Z Z.heap "java/lang/String" "COMPACT_STRINGS" "Z" (.int cz)) (P5 : ¬ cz = (0 : Int32)) (OLD : Old Z n0 h0) (E : Exa Z h0 a "java/lang/String") (C : Fld Z h0 a "java/lang/String" "coder" "B" (.int (0 : Int32))) (VF : Fld Z h0 a "java/lang/String" "value" "[B" (.ref b)) (VB : Arv Z h0 b kb .byte (3 : Int32) bs (.int (0 : Int32))) (rE : Exa Z h0 r "com/example/pathloom/pathloom/web/MediaType$Reader") (rT : Fld Z h0 r "com/example/pathloom/pathloom/web/MediaType$Reader" "text" "Ljava/lang/String;" (.ref a)) (rP : Fld Z h0 r "com/example/pathloom/pathloom/web/MediaType$Reader" "position" "I" (.int (3 : Int32))) :
    MetFree l (⟨"com/example/pathloom/pathloom/web/MediaType$Reader", "atEnd", "()Z"⟩ : MethodName) (head1 (Jvm.Cond.code (⟨"com/example/pathloom/pathloom/web/MediaType$Reader", "atEnd", "()Z"⟩ : MethodName) prog_35_method_2_code 1 (some .boolean) :: ws) ({ frames := 2, cells := 0, slots := 0, locals := 26 } : Room)) (fun aa_ U => aa_ = #[(.ref r)] ∧ Z.Warmed39 U.vm ∧ U.heap = h0) (fun _ _ _ _ _ => True) (fun _ U o_ U' => RetG U (Q_rdend_3_3 Z r a b kb bs cz h0 n0) 0 0 U' o_) := by
  refine MetFree.of_bodySF (plainFor_of_name own_pn3) hisR ?_
  intro p e s m args below meth c_ s₁ Bd hml0 hP hK
  obtain ⟨rfl, hZ, hh⟩ := hP
  have hx := Bd.exec
  have hby := Bd.bytes
  have hml : c_.maxLocals = 1 := hml0
  have hown : s.vm.findClass "com/example/pathloom/pathloom/web/MediaType$Reader" = some m.cls := findClass_of_methodNamed Bd.named
  have hnm := (name_of_methodNamed Bd.named Bd.method).1
  have X0 : Stand p l e ({ frames := 2, cells := 0, slots := 0, locals := 26 } : Room) s m #[(.ref r)] below meth c_ s₁ [] 0 0 := Stand.of_body Bd
  have e0 : s₁.heap = h0 := by rw [← hh, Bd.state]; rfl
  have N0 := Fr.nil n0
  have w7_ := hw _ (List.mem_of_getElem? (i := 7) rfl)
  have w33_ := hw _ (List.mem_of_getElem? (i := 33) rfl)
  have w40_ := hw _ (List.mem_of_getElem? (i := 40) rfl)
  have w42_ := hw _ (List.mem_of_getElem? (i := 42) rfl)
  have w43_ := hw _ (List.mem_of_getElem? (i := 43) rfl)
  have w44_ := hw _ (List.mem_of_getElem? (i := 44) rfl)
  have w45_ := hw _ (List.mem_of_getElem? (i := 45) rfl)
  have w46_ := hw _ (List.mem_of_getElem? (i := 46) rfl)
  show Go p e below (RetG s (Q_rdend_3_3 Z r a b kb bs cz h0 n0) 0 0) (s₁.setTop (entryFrame m #[(.ref r)] 1))
  rw [show entryFrame m #[(.ref r)] 1 = mkF m 0 #[.val (.ref r)] [] from by first | (simp [entryFrame, mkF, argsToLocals, Value.category]; done) | rfl]
  refine g_aloadN X0 hx hby d6_0 rfl rfl ?_
  refine g_getF X0 hx hby hZ hown (host := "") (Or.inl w40_) Via.refl e0 rP d6_1 (fun T1 X1 e1 => ?_)
  refine g_aloadN X1 hx hby d6_4 rfl rfl ?_
  refine g_getF X1 hx hby hZ hown (host := "") (Or.inl w33_) Via.refl e1 rT d6_5 (fun T2 X2 e2 => ?_)
  refine g_virtual X2 hx hby hZ hown (rm_slen_3 l Z a0 hw [] a b kb bs cz h0 n0 Z0 O2 P5 OLD E C VF VB) w42_ w43_ (notFace_of_selects (args := #[]) (mvT hZ w45_)) w45_ w44_ w7_ w46_ (by decide) e2 E (by rw [hml]; rfl) [] (lenOf own_pd6 rfl) rfl rfl (Nat.le_of_ble_eq_true rfl) (Nat.le_of_ble_eq_true rfl) (Nat.le_of_ble_eq_true rfl) (Nat.le_of_ble_eq_true rfl) d6_8 (fun v3 T3 L3 X3 hQ3 => ?_)
  obtain ⟨rfl, N3q, eh3⟩ := hQ3
  have N3 := Fr.app N0 N3q
  refine g_icN X3 hx hby d6_11 (teq (by decide : (3 : Int32) = (3 : Int32))).2 ?_
  refine g_iconst X3 hx hby (1 : Int32) d6_14 rfl ?_
  refine g_goto X3 hx hby 19 d6_15 (by decide) (by decide) ?_
  refine g_nret X3 hx hby (t := .boolean) (by simp) Bd.returns Bd.notSynchronized d6_19 eh3 (by decide) (by decide) ?_
  show (Q_rdend_3_3 Z r a b kb bs cz h0 n0) (some (.int (1 : Int32))) _ _
  exact ⟨rfl, N3, rfl⟩

def Q_step32 (Z : State) (r : Addr) (a : Addr) (b : Addr) (kb : ClassId) (cz : Int32) (al : Addr) (ka : ClassId) (c0 : Int32) (c1 : Int32) (c2 : Int32) (fz : Value) (h0 : Heap) (n0 : Nat) (v : Option Value) (h : Heap) (L : List Loc) : Prop := v = some (.int (1 : Int32)) ∧ Fr n0 L ∧ Keep h0 h [r] ∧ Exa Z h r "com/example/pathloom/pathloom/web/MediaType$Reader" ∧ Fld Z h r "com/example/pathloom/pathloom/web/MediaType$Reader" "text" "Ljava/lang/String;" (.ref a) ∧ Fld Z h r "com/example/pathloom/pathloom/web/MediaType$Reader" "position" "I" (.int (3 : Int32))
set_option maxRecDepth 65536 in
set_option maxHeartbeats 40000000 in
theorem rm_step32 (l : Launch) (Z : State) (a0 : Array Value) (hw : ∀ d ∈ tables_1, d.before a0 Z = true) (ws : List Jvm.Cond) (r : Addr) (a : Addr) (b : Addr) (kb : ClassId) (cz : Int32) (al : Addr) (ka : ClassId) (c0 : Int32) (c1 : Int32) (c2 : Int32) (fz : Value) (h0 : Heap) (n0 : Nat) (Z0 : n0 ≤ h0.size) (O2 : Sta Z Z.heap "java/lang/String" "COMPACT_STRINGS" "Z" (.int cz)) (P5 : ¬ cz = (0 : Int32)) (OLD : Old Z n0 h0) (E : Exa Z h0 a "java/lang/String") (C : Fld Z h0 a "java/lang/String" "coder" "B" (.int (0 : Int32))) (VF : Fld Z h0 a "java/lang/String" "value" "[B" (.ref b)) (VB : Arv Z h0 b kb .byte (3 : Int32) [(.int (nar .byte ((nar .char c0).toInt8.toInt32))), (.int (nar .byte ((nar .char c1).toInt8.toInt32))), (.int (nar .byte ((nar .char c2).toInt8.toInt32)))] (.int (0 : Int32))) (rE : Exa Z h0 r "com/example/pathloom/pathloom/web/MediaType$Reader") (rT : Fld Z h0 r "com/example/pathloom/pathloom/web/MediaType$Reader" "text" "Ljava/lang/String;" (.ref a)) (rP : Fld Z h0 r "com/example/pathloom/pathloom/web/MediaType$Reader" "position" "I" (.int (2 : Int32))) (VA : Arv Z h0 al ka .char (3 : Int32) [(.int c0), (.int c1), (.int c2)] (.int (0 : Int32))) (hc0 : 0 ≤ c0.toInt ∧ c0.toInt ≤ 255) (hc1 : 0 ≤ c1.toInt ∧ c1.toInt ≤ 255) (hc2 : 0 ≤ c2.toInt ∧ c2.toInt ≤ 255) (rfz : Rf fz) (O4 : Sta Z Z.heap "jdk/internal/util/Preconditions" "SIOOBE_FORMATTER" "Ljava/util/function/BiFunction;" fz) (gr : n0 ≤ r) (nra : r ≠ a) (nrb : r ≠ b) :
    MetFree l (⟨"com/example/pathloom/pathloom/web/ReaderAtEndPinLaw", "step", "(Lcom/example/pathloom/pathloom/web/MediaType$Reader;II[C)Z"⟩ : MethodName) (head1 (Jvm.Cond.code (⟨"com/example/pathloom/pathloom/web/ReaderAtEndPinLaw", "step", "(Lcom/example/pathloom/pathloom/web/MediaType$Reader;II[C)Z"⟩ : MethodName) method_4_code 6 (some .boolean) :: ws) ({ frames := 6, cells := 0, slots := 0, locals := 80 } : Room)) (fun aa_ U => aa_ = #[(.ref r), (.int (2 : Int32)), (.int (3 : Int32)), (.ref al)] ∧ Z.Warmed39 U.vm ∧ U.heap = h0) (fun _ _ _ _ _ => True) (fun _ U o_ U' => RetG U (Q_step32 Z r a b kb cz al ka c0 c1 c2 fz h0 n0) 0 0 U' o_) := by
  refine MetFree.of_bodySF (plainFor_of_name own_pn1) hisR ?_
  intro p e s m args below meth c_ s₁ Bd hml0 hP hK
  obtain ⟨rfl, hZ, hh⟩ := hP
  have hx := Bd.exec
  have hby := Bd.bytes
  have hml : c_.maxLocals = 6 := hml0
  have hown : s.vm.findClass "com/example/pathloom/pathloom/web/ReaderAtEndPinLaw" = some m.cls := findClass_of_methodNamed Bd.named
  have hnm := (name_of_methodNamed Bd.named Bd.method).1
  have X0 : Stand p l e ({ frames := 6, cells := 0, slots := 0, locals := 80 } : Room) s m #[(.ref r), (.int (2 : Int32)), (.int (3 : Int32)), (.ref al)] below meth c_ s₁ [] 0 0 := Stand.of_body Bd
  have e0 : s₁.heap = h0 := by rw [← hh, Bd.state]; rfl
  have N0 := Fr.nil n0
  have w28_ := hw _ (List.mem_of_getElem? (i := 28) rfl)
  have w35_ := hw _ (List.mem_of_getElem? (i := 35) rfl)
  have w36_ := hw _ (List.mem_of_getElem? (i := 36) rfl)
  have w37_ := hw _ (List.mem_of_getElem? (i := 37) rfl)
  have w38_ := hw _ (List.mem_of_getElem? (i := 38) rfl)
  have w39_ := hw _ (List.mem_of_getElem? (i := 39) rfl)
  have w56_ := hw _ (List.mem_of_getElem? (i := 56) rfl)
  have w57_ := hw _ (List.mem_of_getElem? (i := 57) rfl)
  have w58_ := hw _ (List.mem_of_getElem? (i := 58) rfl)
  have w59_ := hw _ (List.mem_of_getElem? (i := 59) rfl)
  have w60_ := hw _ (List.mem_of_getElem? (i := 60) rfl)
  have w67_ := hw _ (List.mem_of_getElem? (i := 67) rfl)
  have w68_ := hw _ (List.mem_of_getElem? (i := 68) rfl)
  have w69_ := hw _ (List.mem_of_getElem? (i := 69) rfl)
  have w70_ := hw _ (List.mem_of_getElem? (i := 70) rfl)
  show Go p e below (RetG s (Q_step32 Z r a b kb cz al ka c0 c1 c2 fz h0 n0) 0 0) (s₁.setTop (entryFrame m #[(.ref r), (.int (2 : Int32)), (.int (3 : Int32)), (.ref al)] 6))
  rw [show entryFrame m #[(.ref r), (.int (2 : Int32)), (.int (3 : Int32)), (.ref al)] 6 = mkF m 0 #[.val (.ref r), .val (.int (2 : Int32)), .val (.int (3 : Int32)), .val (.ref al), .unset, .unset] [] from by first | (simp [entryFrame, mkF, argsToLocals, Value.category]; done) | rfl]
  refine g_aloadN X0 hx hby d9_0 rfl rfl ?_
  refine g_aloadN X0 hx hby d9_1 rfl rfl ?_
  refine g_iloadN X0 hx hby d9_2 rfl ?_
  refine g_caload X0 hx hby hZ e0 VA (.int c2) ⟨by decide, by decide⟩ rfl d9_3 ?_
  refine g_virtual X0 hx hby hZ hown (rm_rdtake_3_2 l Z a0 hw [] r a b kb [(.int (nar .byte ((nar .char c0).toInt8.toInt32))), (.int (nar .byte ((nar .char c1).toInt8.toInt32))), (.int (nar .byte ((nar .char c2).toInt8.toInt32)))] cz c2 (nar .byte ((nar .char c2).toInt8.toInt32)) fz h0 n0 Z0 O2 P5 OLD E C VF VB rE rT rP rfl (own_byte hc2) rfz O4 gr nra nrb) w56_ w57_ (notFace_of_selects (args := #[]) (mvT hZ w59_)) w59_ w58_ w28_ w60_ (by decide) e0 rE (by rw [hml]; rfl) [(.int c2)] (lenOf own_pd8 rfl) rfl rfl (Nat.le_of_ble_eq_true rfl) (Nat.le_of_ble_eq_true rfl) (Nat.le_of_ble_eq_true rfl) (Nat.le_of_ble_eq_true rfl) d9_4 (fun v1 T1 L1 X1 hQ1 => ?_)
  obtain ⟨rfl, N1q, K1, Er1, Tr1, Pr1⟩ := hQ1
  have N1 := Fr.app N0 N1q
  refine g_istore X1 hx hby d9_7 (l' := #[.val (.ref r), .val (.int (2 : Int32)), .val (.int (3 : Int32)), .val (.ref al), .val (.int (1 : Int32)), .unset]) rfl ?_
  refine g_iloadN X1 hx hby d9_9 rfl ?_
  refine g_iconst X1 hx hby (1 : Int32) d9_10 rfl ?_
  refine g_iadd X1 hx hby d9_11 ?_
  refine g_topI (3 : Int32) (by decide) ?_
  refine g_iloadN X1 hx hby d9_12 rfl ?_
  have z3 := (Nat.le_trans Z0 K1.1)
  refine g_static X1 hx hby hZ hown (rm_mmin l Z a0 hw [] (3 : Int32) (3 : Int32) T1.heap n0 z3 ) w67_ w68_ w69_ w70_ (by decide) rfl (by rw [hml]; rfl) [(.int (3 : Int32)), (.int (3 : Int32))] (lenOf own_pd9 rfl) rfl rfl (Nat.le_of_ble_eq_true rfl) (Nat.le_of_ble_eq_true rfl) (Nat.le_of_ble_eq_true rfl) (Nat.le_of_ble_eq_true rfl) d9_13 (fun v2 T2 L2 X2 hQ2 => ?_)
  obtain ⟨rfl, N2q, eh2⟩ := hQ2
  have N2 := Fr.app N1 N2q
  refine g_topI (T := T2) (3 : Int32) (by decide) ?_
  refine g_istore X2 hx hby d9_16 (l' := #[.val (.ref r), .val (.int (2 : Int32)), .val (.int (3 : Int32)), .val (.ref al), .val (.int (1 : Int32)), .val (.int (3 : Int32))]) rfl ?_
  refine g_iload X2 hx hby d9_18 rfl ?_
  refine g_iloadN X2 hx hby d9_20 rfl ?_
  refine g_iloadN X2 hx hby d9_21 rfl ?_
  refine g_at 22 rfl rfl rfl ?_
  refine g_icN X2 hx hby d9_22 (tlt (by decide : (2 : Int32) < (3 : Int32))).2.1 ?_
  refine g_iconst X2 hx hby (1 : Int32) d9_25 rfl ?_
  refine g_goto X2 hx hby 30 d9_26 (by decide) (by decide) ?_
  refine g_icN X2 hx hby d9_30 (teq (by decide : (1 : Int32) = (1 : Int32))).2 ?_
  refine g_aloadN X2 hx hby d9_33 rfl rfl ?_
  have f5 := (E.keep K1)
  have f6 := (C.keep K1 (ninS (Ne.symm nra) nin0))
  have f7 := (VF.keep K1 (ninS (Ne.symm nra) nin0))
  have f8 := (VB.keep K1 (ninS (Ne.symm nrb) nin0))
  have f9 := (OLD.keep K1 (allS gr all0))
  refine g_virtual X2 hx hby hZ hown (rm_rdend_3_3 l Z a0 hw [] r a b kb [(.int (nar .byte ((nar .char c0).toInt8.toInt32))), (.int (nar .byte ((nar .char c1).toInt8.toInt32))), (.int (nar .byte ((nar .char c2).toInt8.toInt32)))] cz T1.heap n0 z3 O2 P5 f9 f5 f6 f7 f8 Er1 Tr1 Pr1) w35_ w36_ (notFace_of_selects (args := #[]) (mvT hZ w38_)) w38_ w37_ w28_ w39_ (by decide) eh2 Er1 (by rw [hml]; rfl) [] (lenOf own_pd7 rfl) rfl rfl (Nat.le_of_ble_eq_true rfl) (Nat.le_of_ble_eq_true rfl) (Nat.le_of_ble_eq_true rfl) (Nat.le_of_ble_eq_true rfl) d9_34 (fun v4 T4 L4 X4 hQ4 => ?_)
  obtain ⟨rfl, N4q, eh4⟩ := hQ4
  have N4 := Fr.app N2 N4q
  refine g_iload X4 hx hby d9_37 rfl ?_
  refine g_iloadN X4 hx hby d9_39 rfl ?_
  refine g_icN X4 hx hby d9_40 (teq (by decide : (3 : Int32) = (3 : Int32))).2 ?_
  refine g_iconst X4 hx hby (1 : Int32) d9_43 rfl ?_
  refine g_goto X4 hx hby 48 d9_44 (by decide) (by decide) ?_
  refine g_icN X4 hx hby d9_48 (teq (by decide : (1 : Int32) = (1 : Int32))).2 ?_
  refine g_iconst X4 hx hby (1 : Int32) d9_51 rfl ?_
  refine g_goto X4 hx hby 56 d9_52 (by decide) (by decide) ?_
  refine g_nret X4 hx hby (t := .boolean) (by simp) Bd.returns Bd.notSynchronized d9_56 eh4 (by decide) (by decide) ?_
  show (Q_step32 Z r a b kb cz al ka c0 c1 c2 fz h0 n0) (some (.int (1 : Int32))) _ _
  exact ⟨rfl, N4, ((Keep.refl h0 [r]).trans K1 (allS (Or.inl (List.mem_of_getElem? (i := 0) rfl)) all0)), Er1, Tr1, Pr1⟩

theorem d5_0 : decode prog_35_method_1_code 0 = .ok (.aload_n 0, 1) := by decide +kernel
theorem d5_1 : decode prog_35_method_1_code 1 = .ok (.invokespecial 1, 3) := by decide +kernel
theorem d5_4 : decode prog_35_method_1_code 4 = .ok (.aload_n 0, 1) := by decide +kernel
theorem d5_5 : decode prog_35_method_1_code 5 = .ok (.aload_n 1, 1) := by decide +kernel
theorem d5_6 : decode prog_35_method_1_code 6 = .ok (.putfield 7, 3) := by decide +kernel
theorem d5_9 : decode prog_35_method_1_code 9 = .ok (.return_, 1) := by decide +kernel
def Q_rdini (Z : State) (r : Addr) (a : Addr) (h0 : Heap) (n0 : Nat) (v : Option Value) (h : Heap) (L : List Loc) : Prop := v = none ∧ Fr n0 L ∧ Keep h0 h [r] ∧ Exa Z h r "com/example/pathloom/pathloom/web/MediaType$Reader" ∧ Fld Z h r "com/example/pathloom/pathloom/web/MediaType$Reader" "text" "Ljava/lang/String;" (.ref a) ∧ Fld Z h r "com/example/pathloom/pathloom/web/MediaType$Reader" "position" "I" (.int (0 : Int32))
set_option maxRecDepth 65536 in
set_option maxHeartbeats 40000000 in
theorem rm_rdini (l : Launch) (Z : State) (a0 : Array Value) (hw : ∀ d ∈ tables_1, d.before a0 Z = true) (ws : List Jvm.Cond) (r : Addr) (a : Addr) (h0 : Heap) (n0 : Nat) (Z0 : n0 ≤ h0.size) (rE : Exa Z h0 r "com/example/pathloom/pathloom/web/MediaType$Reader") (rT : Fld Z h0 r "com/example/pathloom/pathloom/web/MediaType$Reader" "text" "Ljava/lang/String;" .null) (rP : Fld Z h0 r "com/example/pathloom/pathloom/web/MediaType$Reader" "position" "I" (.int (0 : Int32))) (gr : n0 ≤ r) :
    MetFree l (⟨"com/example/pathloom/pathloom/web/MediaType$Reader", "<init>", "(Ljava/lang/String;)V"⟩ : MethodName) (head1 (Jvm.Cond.code (⟨"com/example/pathloom/pathloom/web/MediaType$Reader", "<init>", "(Ljava/lang/String;)V"⟩ : MethodName) prog_35_method_1_code 2 none :: ws) ({ frames := 1, cells := 0, slots := 0, locals := 12 } : Room)) (fun aa_ U => aa_ = #[(.ref r), (.ref a)] ∧ Z.Warmed39 U.vm ∧ U.heap = h0) (fun _ _ _ _ _ => True) (fun _ U o_ U' => RetG U (Q_rdini Z r a h0 n0) 0 0 U' o_) := by
  refine MetFree.of_bodySF (plainFor_of_name own_pn3) hisR ?_
  intro p e s m args below meth c_ s₁ Bd hml0 hP hK
  obtain ⟨rfl, hZ, hh⟩ := hP
  have hx := Bd.exec
  have hby := Bd.bytes
  have hml : c_.maxLocals = 2 := hml0
  have hown : s.vm.findClass "com/example/pathloom/pathloom/web/MediaType$Reader" = some m.cls := findClass_of_methodNamed Bd.named
  have hnm := (name_of_methodNamed Bd.named Bd.method).1
  have X0 : Stand p l e ({ frames := 1, cells := 0, slots := 0, locals := 12 } : Room) s m #[(.ref r), (.ref a)] below meth c_ s₁ [] 0 0 := Stand.of_body Bd
  have e0 : s₁.heap = h0 := by rw [← hh, Bd.state]; rfl
  have N0 := Fr.nil n0
  have w16_ := hw _ (List.mem_of_getElem? (i := 16) rfl)
  have w17_ := hw _ (List.mem_of_getElem? (i := 17) rfl)
  have w27_ := hw _ (List.mem_of_getElem? (i := 27) rfl)
  have w32_ := hw _ (List.mem_of_getElem? (i := 32) rfl)
  have w33_ := hw _ (List.mem_of_getElem? (i := 33) rfl)
  have w34_ := hw _ (List.mem_of_getElem? (i := 34) rfl)
  have w41_ := hw _ (List.mem_of_getElem? (i := 41) rfl)
  show Go p e below (RetG s (Q_rdini Z r a h0 n0) 0 0) (s₁.setTop (entryFrame m #[(.ref r), (.ref a)] 2))
  rw [show entryFrame m #[(.ref r), (.ref a)] 2 = mkF m 0 #[.val (.ref r), .val (.ref a)] [] from by first | (simp [entryFrame, mkF, argsToLocals, Value.category]; done) | rfl]
  refine g_aloadN X0 hx hby d5_0 rfl rfl ?_
  refine g_initO X0 hx hby hZ hown w32_ w16_ w17_ e0 (by rw [hml]; rfl) (Nat.le_of_ble_eq_true rfl) (Nat.le_of_ble_eq_true rfl) d5_1 (fun T1 X1 e1 => ?_)
  refine g_aloadN X1 hx hby d5_4 rfl rfl ?_
  refine g_aloadN X1 hx hby d5_5 rfl rfl ?_
  refine g_putF X1 hx hby hZ hown (host := "") (Or.inl w33_) Via.refl e1 rT rE (Or.inr ⟨w34_, rfl, hnm⟩) w27_ (.object "java/lang/String") (by decide) rfl rfl N0 gr d5_6 (fun T2 h2 X2 e2 W2 F2 N2 => ?_)
  have f3 := (rE.wr W2)
  have f4 := (rP.other W2 (Or.inr (slot_ne (Or.inl w41_) (Or.inr w34_) (by decide) (t := .int) (t' := (.object "java/lang/String")) (by decide) (by decide))))
  refine g_ret X2 hx hby Bd.returns Bd.notSynchronized d5_9 e2 (by decide) (by decide) ?_
  show (Q_rdini Z r a h0 n0) none _ _
  exact ⟨rfl, N2, ((Keep.refl h0 [r]).wr W2 (Or.inl (List.mem_of_getElem? (i := 0) rfl))), f3, F2, f4⟩

theorem own_pd14 : parseMethodDescriptor "(I[C)Ljava/lang/String;" = some ⟨[.int, (.array .char)], some (.object "java/lang/String")⟩ := by decide +kernel
theorem own_pd15 : parseMethodDescriptor "(Ljava/lang/String;)V" = some ⟨[(.object "java/lang/String")], none⟩ := by decide +kernel
theorem own_pd16 : parseMethodDescriptor "(Lcom/example/pathloom/pathloom/web/MediaType$Reader;II[C)Z" = some ⟨[(.object "com/example/pathloom/pathloom/web/MediaType$Reader"), .int, .int, (.array .char)], some .boolean⟩ := by decide +kernel
def Q_law (Z : State) (x : Int32) (y0 : Int32) (y1 : Int32) (y2 : Int32) (fz : Value) (cz : Int32) (h0 : Heap) (n0 : Nat) (v : Option Value) (h : Heap) (L : List Loc) : Prop := v = some (.int 1) ∧ Fr n0 L
set_option maxRecDepth 65536 in
set_option maxHeartbeats 40000000 in
theorem rm_law (l : Launch) (Z : State) (a0 : Array Value) (hw : ∀ d ∈ tables_1, d.before a0 Z = true) (ws : List Jvm.Cond) (x : Int32) (y0 : Int32) (y1 : Int32) (y2 : Int32) (fz : Value) (cz : Int32) (h0 : Heap) (n0 : Nat) (Z0 : n0 ≤ h0.size) (O2 : Sta Z Z.heap "java/lang/String" "COMPACT_STRINGS" "Z" (.int cz)) (P5 : ¬ cz = (0 : Int32)) (OLD : Old Z n0 h0) (rfz : Rf fz) (O4 : Sta Z Z.heap "jdk/internal/util/Preconditions" "SIOOBE_FORMATTER" "Ljava/util/function/BiFunction;" fz) (hheld : Jvm.Lit.constHeld Z "java/lang/String" 7) (hcw : Jvm.Lit.compactW.before a0 Z = true) :
    MetFree l Jvm.Pilot.@@N@@.x (head1 (Jvm.Cond.code Jvm.Pilot.@@N@@.x Jvm.Pilot.@@N@@.code Jvm.Pilot.@@N@@.maxLocals Jvm.Pilot.@@N@@.ret :: ws) room_1) (fun aa_ U => aa_ = #[(.int x), (.int y0), (.int y1), (.int y2)] ∧ (Z.Warmed39 U.vm ∧ U.vm.interned = Z.vm.interned) ∧ U.heap = h0) (fun _ _ _ _ _ => True) (fun _ U o_ U' => RetW U (Q_law Z x y0 y1 y2 fz cz h0 n0) 24 1152 U' o_) := by
  refine MetFree.of_bodySF (plainFor_of_name own_pn1) hisR ?_
  intro p e s m args below meth c_ s₁ Bd hml0 hP hK
  obtain ⟨rfl, ⟨hZ, hI0⟩, hh⟩ := hP
  have hx := Bd.exec
  have hby := Bd.bytes
  have hml : c_.maxLocals = 9 := hml0
  have hS0 : s.Since s.vm 0 := (State.WarmedH.refl s).since 0
  have hown : s.vm.findClass "com/example/pathloom/pathloom/web/ReaderAtEndPinLaw" = some m.cls := findClass_of_methodNamed Bd.named
  have hnm := (name_of_methodNamed Bd.named Bd.method).1
  have X0 : Stand p l e room_1 (s.setVm s.vm) m #[(.int x), (.int y0), (.int y1), (.int y2)] below meth c_ s₁ [] 0 0 := Stand.of_body Bd
  have e0 : s₁.heap = h0 := by rw [← hh, Bd.state]; rfl
  have N0 := Fr.nil n0
  have w0_ := hw _ (List.mem_of_getElem? (i := 0) rfl)
  have w1_ := hw _ (List.mem_of_getElem? (i := 1) rfl)
  have w2_ := hw _ (List.mem_of_getElem? (i := 2) rfl)
  have w3_ := hw _ (List.mem_of_getElem? (i := 3) rfl)
  have w4_ := hw _ (List.mem_of_getElem? (i := 4) rfl)
  have w26_ := hw _ (List.mem_of_getElem? (i := 26) rfl)
  have w27_ := hw _ (List.mem_of_getElem? (i := 27) rfl)
  have w28_ := hw _ (List.mem_of_getElem? (i := 28) rfl)
  have w29_ := hw _ (List.mem_of_getElem? (i := 29) rfl)
  have w30_ := hw _ (List.mem_of_getElem? (i := 30) rfl)
  have w31_ := hw _ (List.mem_of_getElem? (i := 31) rfl)
  have w34_ := hw _ (List.mem_of_getElem? (i := 34) rfl)
  have w35_ := hw _ (List.mem_of_getElem? (i := 35) rfl)
  have w36_ := hw _ (List.mem_of_getElem? (i := 36) rfl)
  have w37_ := hw _ (List.mem_of_getElem? (i := 37) rfl)
  have w38_ := hw _ (List.mem_of_getElem? (i := 38) rfl)
  have w39_ := hw _ (List.mem_of_getElem? (i := 39) rfl)
  have w41_ := hw _ (List.mem_of_getElem? (i := 41) rfl)
  have w53_ := hw _ (List.mem_of_getElem? (i := 53) rfl)
  have w54_ := hw _ (List.mem_of_getElem? (i := 54) rfl)
  have w55_ := hw _ (List.mem_of_getElem? (i := 55) rfl)
  show Go p e below (RetW s (Q_law Z x y0 y1 y2 fz cz h0 n0) 24 1152) (s₁.setTop (entryFrame m #[(.int x), (.int y0), (.int y1), (.int y2)] maxLocals))
  rw [show entryFrame m #[(.int x), (.int y0), (.int y1), (.int y2)] maxLocals = mkF m 0 #[.val (.int x), .val (.int y0), .val (.int y1), .val (.int y2), .unset, .unset, .unset, .unset, .unset] [] from by first | (simp [entryFrame, mkF, argsToLocals, Value.category, maxLocals]; done) | rfl]
  refine g_iloadN X0 hx hby at_0 rfl ?_
  refine g_iconst X0 hx hby (3 : Int32) at_1 rfl ?_
  refine g_iand X0 hx hby at_2 ?_
  refine g_istore X0 hx hby at_3 (l' := #[.val (.int x), .val (.int y0), .val (.int y1), .val (.int y2), .val (.int (x &&& (3 : Int32))), .unset, .unset, .unset, .unset]) rfl ?_
  obtain ⟨nn, e_nn⟩ : ∃ z, z = (x &&& (3 : Int32)) := ⟨_, rfl⟩
  rw [← e_nn]
  refine g_iconst X0 hx hby (3 : Int32) at_5 rfl ?_
  refine g_newarray X0 hx hby hZ .char .char (.int (0 : Int32)) [(.int (0 : Int32)), (.int (0 : Int32)), (.int (0 : Int32))] rfl rfl w0_ e0 (by decide) 3 rfl (by decide) (by decide) (by decide) (by decide) at_6 (fun T1 h1 k1 b1 g1 X1 e1 E1 V1 => ?_)
  refine g_dup X1 hx hby at_8 rfl ?_
  refine g_iconst X1 hx hby (0 : Int32) at_9 rfl ?_
  refine g_iloadN X1 hx hby at_10 rfl ?_
  refine g_sipush X1 hx hby (255 : Int32) at_11 rfl ?_
  refine g_iand X1 hx hby at_14 ?_
  refine g_i2c X1 hx hby at_15 ?_
  have g_b1 : n0 ≤ b1 := Nat.le_trans Z0 (Nat.le_of_eq g1)
  refine g_castore X1 hx hby hZ e1 V1 0 [(.int (nar .char ((y0 &&& (255 : Int32)).toUInt32.toUInt16.toUInt32.toInt32))), (.int (0 : Int32)), (.int (0 : Int32))] rfl ⟨by decide, by decide⟩ rfl (Nat.le_of_ble_eq_true rfl) N0 g_b1 at_16 (fun T2 h2 X2 e2 W2 V2 N2 => ?_)
  refine g_dup X2 hx hby at_17 rfl ?_
  refine g_iconst X2 hx hby (1 : Int32) at_18 rfl ?_
  refine g_iloadN X2 hx hby at_19 rfl ?_
  refine g_sipush X2 hx hby (255 : Int32) at_20 rfl ?_
  refine g_iand X2 hx hby at_23 ?_
  refine g_i2c X2 hx hby at_24 ?_
  refine g_castore X2 hx hby hZ e2 V2 1 [(.int (nar .char ((y0 &&& (255 : Int32)).toUInt32.toUInt16.toUInt32.toInt32))), (.int (nar .char ((y1 &&& (255 : Int32)).toUInt32.toUInt16.toUInt32.toInt32))), (.int (0 : Int32))] rfl ⟨by decide, by decide⟩ rfl (Nat.le_of_ble_eq_true rfl) N2 g_b1 at_25 (fun T3 h3 X3 e3 W3 V3 N3 => ?_)
  refine g_dup X3 hx hby at_26 rfl ?_
  refine g_iconst X3 hx hby (2 : Int32) at_27 rfl ?_
  refine g_iloadN X3 hx hby at_28 rfl ?_
  refine g_sipush X3 hx hby (255 : Int32) at_29 rfl ?_
  refine g_iand X3 hx hby at_32 ?_
  refine g_at 33 rfl rfl rfl ?_
  refine g_i2c X3 hx hby at_33 ?_
  refine g_castore X3 hx hby hZ e3 V3 2 [(.int (nar .char ((y0 &&& (255 : Int32)).toUInt32.toUInt16.toUInt32.toInt32))), (.int (nar .char ((y1 &&& (255 : Int32)).toUInt32.toUInt16.toUInt32.toInt32))), (.int (nar .char ((y2 &&& (255 : Int32)).toUInt32.toUInt16.toUInt32.toInt32)))] rfl ⟨by decide, by decide⟩ rfl (Nat.le_of_ble_eq_true rfl) N3 g_b1 at_34 (fun T4 h4 X4 e4 W4 V4 N4 => ?_)
  refine g_astore X4 hx hby at_35 rfl (l' := #[.val (.int x), .val (.int y0), .val (.int y1), .val (.int y2), .val (.int nn), .val (.ref b1), .unset, .unset, .unset]) rfl ?_
  obtain ⟨c0, e_c0⟩ : ∃ z, z = (nar .char ((y0 &&& (255 : Int32)).toUInt32.toUInt16.toUInt32.toInt32)) := ⟨_, rfl⟩
  have hc0 : 0 ≤ c0.toInt ∧ c0.toInt ≤ 255 := by rw [e_c0]; exact own_rng _
  obtain ⟨c1, e_c1⟩ : ∃ z, z = (nar .char ((y1 &&& (255 : Int32)).toUInt32.toUInt16.toUInt32.toInt32)) := ⟨_, rfl⟩
  have hc1 : 0 ≤ c1.toInt ∧ c1.toInt ≤ 255 := by rw [e_c1]; exact own_rng _
  obtain ⟨c2, e_c2⟩ : ∃ z, z = (nar .char ((y2 &&& (255 : Int32)).toUInt32.toUInt16.toUInt32.toInt32)) := ⟨_, rfl⟩
  have hc2 : 0 ≤ c2.toInt ∧ c2.toInt ≤ 255 := by rw [e_c2]; exact own_rng _
  have VA0 : Arv Z h4 b1 k1 .char (3 : Int32) [(.int c0), (.int c1), (.int c2)] (.int (0 : Int32)) := by rw [e_c0, e_c1, e_c2]; exact V4
  clear e_c0 e_c1 e_c2
  have c_nn : nn = (0 : Int32) ∨ nn = (1 : Int32) ∨ nn = (2 : Int32) ∨ nn = (3 : Int32) := by rw [e_nn]; exact own_and3 _
  clear e_nn
  rcases c_nn with rfl | rfl | rfl | rfl
  · skip
    refine g_iload X4 hx hby at_37 rfl ?_
    refine g_aload X4 hx hby at_39 rfl rfl ?_
    have f6 := ((((OLD.ext E1).wr W2 g_b1).wr W3 g_b1).wr W4 g_b1)
    have z7 := (Nat.le_trans Z0 (Nat.le_trans (Nat.le_trans (Nat.le_trans E1.1 (Keep.of_wr W2).1) (Keep.of_wr W3).1) (Keep.of_wr W4).1))
    refine g_staticW X4 hx hby hZ hown (PV := fun vm => Z.Warmed39 vm ∧ vm.interned = Z.vm.interned) (rm_text0 l Z a0 hw [] b1 k1 c0 c1 c2 cz h4 n0 z7 O2 P5 f6 VA0 hc0 hc1 hc2 hheld hcw) (fun _ q => ⟨State.Warmed39.trans hZ q.wide, q.interned_eq.trans hI0⟩) hS0 (Nat.zero_le _) w1_ w2_ w3_ w4_ (by decide) e4 (by rw [hml]; rfl) [(.int (0 : Int32)), (.ref b1)] (lenOf own_pd14 rfl) rfl rfl (Nat.le_of_ble_eq_true rfl) (Nat.le_of_ble_eq_true rfl) (Nat.le_of_ble_eq_true rfl) (Nat.le_of_ble_eq_true rfl) at_41 (fun v5 T5 L5 X5 hS5 hZ5 ho5 hQ5 => ?_)
    obtain ⟨N5q, K5, s5, t5, kb5, rfl, ls5, nx5, Es5, Cs5, Vs5, Bs5⟩ := hQ5
    have N5 := Fr.app N4 N5q
    refine g_astore X5 hx hby at_44 rfl (l' := #[.val (.int x), .val (.int y0), .val (.int y1), .val (.int y2), .val (.int (0 : Int32)), .val (.ref b1), .val (.ref s5), .unset, .unset]) rfl ?_
    refine g_new X5 hx hby hZ5 ho5 w26_ w27_ w28_ rfl (by decide) (by decide) at_46 (fun T8 h8 b8 g8 X8 e8 E8 A8 D8 => ?_)
    have F_text_b8 : Fld Z h8 b8 "com/example/pathloom/pathloom/web/MediaType$Reader" "text" "Ljava/lang/String;" .null := D8 (Or.inr w34_) (ty := (.object "java/lang/String")) (by decide)
    have F_position_b8 : Fld Z h8 b8 "com/example/pathloom/pathloom/web/MediaType$Reader" "position" "I" (.int (0 : Int32)) := D8 (Or.inl w41_) (ty := .int) (by decide)
    refine g_dup X8 hx hby at_49 rfl ?_
    refine g_aload X8 hx hby at_50 rfl rfl ?_
    have g_b8 : n0 ≤ b8 := Nat.le_trans (Nat.le_trans z7 K5.1) (Nat.le_of_eq g8)
    have z10 := (Nat.le_trans z7 (Nat.le_trans K5.1 E8.1))
    refine g_special X8 hx hby hZ5 ho5 (rm_rdini l Z a0 hw [] b8 s5 h8 n0 z10 A8 F_text_b8 F_position_b8 g_b8) rfl rfl w29_ w30_ w28_ w31_ (by decide) e8 (by rw [hml]; rfl) [(.ref s5)] (lenOf own_pd15 rfl) rfl rfl (Nat.le_of_ble_eq_true rfl) (Nat.le_of_ble_eq_true rfl) (Nat.le_of_ble_eq_true rfl) (Nat.le_of_ble_eq_true rfl) at_52 (fun v9 T9 L9 X9 hQ9 => ?_)
    obtain ⟨rfl, N9q, K9, Er9, Tr9, Pr9⟩ := hQ9
    have N9 := Fr.app N5 N9q
    refine g_astore X9 hx hby at_55 rfl (l' := #[.val (.int x), .val (.int y0), .val (.int y1), .val (.int y2), .val (.int (0 : Int32)), .val (.ref b1), .val (.ref s5), .val (.ref b8), .unset]) rfl ?_
    refine g_aload X9 hx hby at_57 rfl rfl ?_
    have f12 := ((Es5.ext E8).keep K9)
    have ne13 : s5 ≠ b8 := (Nat.ne_of_lt (Nat.lt_of_lt_of_le Es5.lt (Nat.le_of_eq g8)))
    have f14 := ((Cs5.ext E8).keep K9 (ninS ne13 nin0))
    have f15 := ((Vs5.ext E8).keep K9 (ninS ne13 nin0))
    have ne16 : t5 ≠ b8 := (Nat.ne_of_lt (Nat.lt_of_lt_of_le Bs5.lt (Nat.le_of_eq g8)))
    have f17 := ((Bs5.ext E8).keep K9 (ninS ne16 nin0))
    have f18 := (((f6.keep K5 all0).ext E8).keep K9 (allS g_b8 all0))
    have z19 := (Nat.le_trans z10 K9.1)
    refine g_virtual X9 hx hby hZ5 ho5 (rm_rdend_0_0 l Z a0 hw [] b8 s5 t5 kb5 [] cz T9.heap n0 z19 O2 P5 f18 f12 f14 f15 f17 Er9 Tr9 Pr9) w35_ w36_ (notFace_of_selects (args := #[]) (mvT hZ5 w38_)) w38_ w37_ w28_ w39_ (by decide) rfl Er9 (by rw [hml]; rfl) [] (lenOf own_pd7 rfl) rfl rfl (Nat.le_of_ble_eq_true rfl) (Nat.le_of_ble_eq_true rfl) (Nat.le_of_ble_eq_true rfl) (Nat.le_of_ble_eq_true rfl) at_59 (fun v11 T11 L11 X11 hQ11 => ?_)
    obtain ⟨rfl, N11q, eh11⟩ := hQ11
    have N11 := Fr.app N9 N11q
    refine g_at 62 rfl rfl rfl ?_
    refine g_iload X11 hx hby at_62 rfl ?_
    refine g_ifN X11 hx hby at_64 (teq (by decide : (0 : Int32) = (0 : Int32))).2 ?_
    refine g_iconst X11 hx hby (1 : Int32) at_67 rfl ?_
    refine g_goto X11 hx hby 72 at_68 (by decide) (by decide) ?_
    refine g_icN X11 hx hby at_72 (teq (by decide : (1 : Int32) = (1 : Int32))).2 ?_
    refine g_iconst X11 hx hby (1 : Int32) at_75 rfl ?_
    refine g_goto X11 hx hby 80 at_76 (by decide) (by decide) ?_
    refine g_istore X11 hx hby at_80 (l' := #[.val (.int x), .val (.int y0), .val (.int y1), .val (.int y2), .val (.int (0 : Int32)), .val (.ref b1), .val (.ref s5), .val (.ref b8), .val (.int (1 : Int32))]) rfl ?_
    refine g_iload X11 hx hby at_82 rfl ?_
    refine g_ifN X11 hx hby at_84 (feq (by decide : ¬ ((1 : Int32) = (0 : Int32)))).1 ?_
    refine g_aload X11 hx hby at_87 rfl rfl ?_
    refine g_iconst X11 hx hby (0 : Int32) at_89 rfl ?_
    refine g_iload X11 hx hby at_90 rfl ?_
    refine g_aload X11 hx hby at_92 rfl rfl ?_
    have ne21 : b1 ≠ b8 := (Nat.ne_of_lt (Nat.lt_of_lt_of_le V1.lt (Nat.le_trans (Nat.le_trans (Nat.le_trans (Nat.le_trans (Keep.of_wr W2).1 (Keep.of_wr W3).1) (Keep.of_wr W4).1) K5.1) (Nat.le_of_eq g8))))
    have f22 := (((VA0.keep K5 nin0).ext E8).keep K9 (ninS ne21 nin0))
    refine g_static X11 hx hby hZ5 ho5 (rm_step00 l Z a0 hw [] b8 s5 t5 kb5 cz b1 k1 c0 c1 c2 fz T9.heap n0 z19 O2 P5 f18 f12 f14 f15 f17 Er9 Tr9 Pr9 f22 hc0 hc1 hc2 rfz O4 g_b8 (Ne.symm ne13) (Ne.symm ne16)) w53_ w54_ w3_ w55_ (by decide) eh11 (by rw [hml]; rfl) [(.ref b8), (.int (0 : Int32)), (.int (0 : Int32)), (.ref b1)] (lenOf own_pd16 rfl) rfl rfl (Nat.le_of_ble_eq_true rfl) (Nat.le_of_ble_eq_true rfl) (Nat.le_of_ble_eq_true rfl) (Nat.le_of_ble_eq_true rfl) at_94 (fun v20 T20 L20 X20 hQ20 => ?_)
    obtain ⟨rfl, N20q, K20, Er20, Tr20, Pr20⟩ := hQ20
    have N20 := Fr.app N11 N20q
    refine g_ifN X20 hx hby at_97 (feq (by decide : ¬ ((1 : Int32) = (0 : Int32)))).1 ?_
    refine g_iconst X20 hx hby (1 : Int32) at_100 rfl ?_
    refine g_goto X20 hx hby 105 at_101 (by decide) (by decide) ?_
    refine g_istore X20 hx hby at_105 (l' := #[.val (.int x), .val (.int y0), .val (.int y1), .val (.int y2), .val (.int (0 : Int32)), .val (.ref b1), .val (.ref s5), .val (.ref b8), .val (.int (1 : Int32))]) rfl ?_
    refine g_iload X20 hx hby at_107 rfl ?_
    refine g_ifN X20 hx hby at_109 (feq (by decide : ¬ ((1 : Int32) = (0 : Int32)))).1 ?_
    refine g_aload X20 hx hby at_112 rfl rfl ?_
    refine g_iconst X20 hx hby (1 : Int32) at_114 rfl ?_
    refine g_iload X20 hx hby at_115 rfl ?_
    refine g_aload X20 hx hby at_117 rfl rfl ?_
    have f24 := (f12.keep K20)
    have f25 := (f14.keep K20 (ninS ne13 nin0))
    have f26 := (f15.keep K20 (ninS ne13 nin0))
    have f27 := (f17.keep K20 (ninS ne16 nin0))
    have f28 := (f18.keep K20 (allS g_b8 all0))
    have f29 := (f22.keep K20 (ninS ne21 nin0))
    have z30 := (Nat.le_trans z19 K20.1)
    refine g_static X20 hx hby hZ5 ho5 (rm_step01 l Z a0 hw [] b8 s5 t5 kb5 cz b1 k1 c0 c1 c2 fz T20.heap n0 z30 O2 P5 f28 f24 f25 f26 f27 Er20 Tr20 Pr20 f29 hc0 hc1 hc2 rfz O4 g_b8 (Ne.symm ne13) (Ne.symm ne16)) w53_ w54_ w3_ w55_ (by decide) rfl (by rw [hml]; rfl) [(.ref b8), (.int (1 : Int32)), (.int (0 : Int32)), (.ref b1)] (lenOf own_pd16 rfl) rfl rfl (Nat.le_of_ble_eq_true rfl) (Nat.le_of_ble_eq_true rfl) (Nat.le_of_ble_eq_true rfl) (Nat.le_of_ble_eq_true rfl) at_119 (fun v23 T23 L23 X23 hQ23 => ?_)
    obtain ⟨rfl, N23q, K23, Er23, Tr23, Pr23⟩ := hQ23
    have N23 := Fr.app N20 N23q
    refine g_ifN X23 hx hby at_122 (feq (by decide : ¬ ((1 : Int32) = (0 : Int32)))).1 ?_
    refine g_iconst X23 hx hby (1 : Int32) at_125 rfl ?_
    refine g_goto X23 hx hby 130 at_126 (by decide) (by decide) ?_
    refine g_istore X23 hx hby at_130 (l' := #[.val (.int x), .val (.int y0), .val (.int y1), .val (.int y2), .val (.int (0 : Int32)), .val (.ref b1), .val (.ref s5), .val (.ref b8), .val (.int (1 : Int32))]) rfl ?_
    refine g_iload X23 hx hby at_132 rfl ?_
    refine g_ifN X23 hx hby at_134 (feq (by decide : ¬ ((1 : Int32) = (0 : Int32)))).1 ?_
    refine g_aload X23 hx hby at_137 rfl rfl ?_
    refine g_iconst X23 hx hby (2 : Int32) at_139 rfl ?_
    refine g_iload X23 hx hby at_140 rfl ?_
    refine g_aload X23 hx hby at_142 rfl rfl ?_
    have f32 := (f24.keep K23)
    have f33 := (f25.keep K23 (ninS ne13 nin0))
    have f34 := (f26.keep K23 (ninS ne13 nin0))
    have f35 := (f27.keep K23 (ninS ne16 nin0))
    have f36 := (f28.keep K23 (allS g_b8 all0))
    have f37 := (f29.keep K23 (ninS ne21 nin0))
    have z38 := (Nat.le_trans z30 K23.1)
    refine g_static X23 hx hby hZ5 ho5 (rm_step02 l Z a0 hw [] b8 s5 t5 kb5 cz b1 k1 c0 c1 c2 fz T23.heap n0 z38 O2 P5 f36 f32 f33 f34 f35 Er23 Tr23 Pr23 f37 hc0 hc1 hc2 rfz O4 g_b8 (Ne.symm ne13) (Ne.symm ne16)) w53_ w54_ w3_ w55_ (by decide) rfl (by rw [hml]; rfl) [(.ref b8), (.int (2 : Int32)), (.int (0 : Int32)), (.ref b1)] (lenOf own_pd16 rfl) rfl rfl (Nat.le_of_ble_eq_true rfl) (Nat.le_of_ble_eq_true rfl) (Nat.le_of_ble_eq_true rfl) (Nat.le_of_ble_eq_true rfl) at_144 (fun v31 T31 L31 X31 hQ31 => ?_)
    obtain ⟨rfl, N31q, K31, Er31, Tr31, Pr31⟩ := hQ31
    have N31 := Fr.app N23 N31q
    refine g_ifN X31 hx hby at_147 (feq (by decide : ¬ ((1 : Int32) = (0 : Int32)))).1 ?_
    refine g_iconst X31 hx hby (1 : Int32) at_150 rfl ?_
    refine g_goto X31 hx hby 155 at_151 (by decide) (by decide) ?_
    refine g_istore X31 hx hby at_155 (l' := #[.val (.int x), .val (.int y0), .val (.int y1), .val (.int y2), .val (.int (0 : Int32)), .val (.ref b1), .val (.ref s5), .val (.ref b8), .val (.int (1 : Int32))]) rfl ?_
    refine g_iload X31 hx hby at_157 rfl ?_
    refine g_nretW X31 hx hby (t := .boolean) (by simp) Bd.returns Bd.notSynchronized hS5 at_159 rfl (Nat.le_trans (Nat.le_refl _) (Nat.le_trans (Nat.le_trans (Nat.le_trans (Nat.le_trans E8.1 K9.1) K20.1) K23.1) K31.1)) (by decide) (by decide) ?_
    show (Q_law Z x y0 y1 y2 fz cz h0 n0) (some (.int (1 : Int32))) _ _
    exact ⟨rfl, N31⟩
  · skip
    refine g_iload X4 hx hby at_37 rfl ?_
    refine g_aload X4 hx hby at_39 rfl rfl ?_
    have f40 := ((((OLD.ext E1).wr W2 g_b1).wr W3 g_b1).wr W4 g_b1)
    have z41 := (Nat.le_trans Z0 (Nat.le_trans (Nat.le_trans (Nat.le_trans E1.1 (Keep.of_wr W2).1) (Keep.of_wr W3).1) (Keep.of_wr W4).1))
    refine g_static X4 hx hby hZ hown (rm_text1 l Z a0 hw [] b1 k1 c0 c1 c2 cz h4 n0 z41 O2 P5 f40 VA0 hc0 hc1 hc2) w1_ w2_ w3_ w4_ (by decide) e4 (by rw [hml]; rfl) [(.int (1 : Int32)), (.ref b1)] (lenOf own_pd14 rfl) rfl rfl (Nat.le_of_ble_eq_true rfl) (Nat.le_of_ble_eq_true rfl) (Nat.le_of_ble_eq_true rfl) (Nat.le_of_ble_eq_true rfl) at_41 (fun v39 T39 L39 X39 hQ39 => ?_)
    obtain ⟨N39q, K39, s39, t39, kb39, rfl, ls39, nx39, Es39, Cs39, Vs39, Bs39⟩ := hQ39
    have N39 := Fr.app N4 N39q
    refine g_astore X39 hx hby at_44 rfl (l' := #[.val (.int x), .val (.int y0), .val (.int y1), .val (.int y2), .val (.int (1 : Int32)), .val (.ref b1), .val (.ref s39), .unset, .unset]) rfl ?_
    refine g_new X39 hx hby hZ hown w26_ w27_ w28_ rfl (by decide) (by decide) at_46 (fun T42 h42 b42 g42 X42 e42 E42 A42 D42 => ?_)
    have F_text_b42 : Fld Z h42 b42 "com/example/pathloom/pathloom/web/MediaType$Reader" "text" "Ljava/lang/String;" .null := D42 (Or.inr w34_) (ty := (.object "java/lang/String")) (by decide)
    have F_position_b42 : Fld Z h42 b42 "com/example/pathloom/pathloom/web/MediaType$Reader" "position" "I" (.int (0 : Int32)) := D42 (Or.inl w41_) (ty := .int) (by decide)
    refine g_dup X42 hx hby at_49 rfl ?_
    refine g_aload X42 hx hby at_50 rfl rfl ?_
    have g_b42 : n0 ≤ b42 := Nat.le_trans (Nat.le_trans z41 K39.1) (Nat.le_of_eq g42)
    have z44 := (Nat.le_trans z41 (Nat.le_trans K39.1 E42.1))
    refine g_special X42 hx hby hZ hown (rm_rdini l Z a0 hw [] b42 s39 h42 n0 z44 A42 F_text_b42 F_position_b42 g_b42) rfl rfl w29_ w30_ w28_ w31_ (by decide) e42 (by rw [hml]; rfl) [(.ref s39)] (lenOf own_pd15 rfl) rfl rfl (Nat.le_of_ble_eq_true rfl) (Nat.le_of_ble_eq_true rfl) (Nat.le_of_ble_eq_true rfl) (Nat.le_of_ble_eq_true rfl) at_52 (fun v43 T43 L43 X43 hQ43 => ?_)
    obtain ⟨rfl, N43q, K43, Er43, Tr43, Pr43⟩ := hQ43
    have N43 := Fr.app N39 N43q
    refine g_astore X43 hx hby at_55 rfl (l' := #[.val (.int x), .val (.int y0), .val (.int y1), .val (.int y2), .val (.int (1 : Int32)), .val (.ref b1), .val (.ref s39), .val (.ref b42), .unset]) rfl ?_
    refine g_aload X43 hx hby at_57 rfl rfl ?_
    have f46 := ((Es39.ext E42).keep K43)
    have ne47 : s39 ≠ b42 := (Nat.ne_of_lt (Nat.lt_of_lt_of_le Es39.lt (Nat.le_of_eq g42)))
    have f48 := ((Cs39.ext E42).keep K43 (ninS ne47 nin0))
    have f49 := ((Vs39.ext E42).keep K43 (ninS ne47 nin0))
    have ne50 : t39 ≠ b42 := (Nat.ne_of_lt (Nat.lt_of_lt_of_le Bs39.lt (Nat.le_of_eq g42)))
    have f51 := ((Bs39.ext E42).keep K43 (ninS ne50 nin0))
    have f52 := (((f40.keep K39 all0).ext E42).keep K43 (allS g_b42 all0))
    have z53 := (Nat.le_trans z44 K43.1)
    refine g_virtual X43 hx hby hZ hown (rm_rdend_1_0 l Z a0 hw [] b42 s39 t39 kb39 [(.int (nar .byte ((nar .char c0).toInt8.toInt32)))] cz T43.heap n0 z53 O2 P5 f52 f46 f48 f49 f51 Er43 Tr43 Pr43) w35_ w36_ (notFace_of_selects (args := #[]) (mvT hZ w38_)) w38_ w37_ w28_ w39_ (by decide) rfl Er43 (by rw [hml]; rfl) [] (lenOf own_pd7 rfl) rfl rfl (Nat.le_of_ble_eq_true rfl) (Nat.le_of_ble_eq_true rfl) (Nat.le_of_ble_eq_true rfl) (Nat.le_of_ble_eq_true rfl) at_59 (fun v45 T45 L45 X45 hQ45 => ?_)
    obtain ⟨rfl, N45q, eh45⟩ := hQ45
    have N45 := Fr.app N43 N45q
    refine g_at 62 rfl rfl rfl ?_
    refine g_iload X45 hx hby at_62 rfl ?_
    refine g_ifY X45 hx hby 71 at_64 (feq (by decide : ¬ ((1 : Int32) = (0 : Int32)))).2 (by decide) (by decide) ?_
    refine g_iconst X45 hx hby (0 : Int32) at_71 rfl ?_
    refine g_icN X45 hx hby at_72 (teq (by decide : (0 : Int32) = (0 : Int32))).2 ?_
    refine g_iconst X45 hx hby (1 : Int32) at_75 rfl ?_
    refine g_goto X45 hx hby 80 at_76 (by decide) (by decide) ?_
    refine g_istore X45 hx hby at_80 (l' := #[.val (.int x), .val (.int y0), .val (.int y1), .val (.int y2), .val (.int (1 : Int32)), .val (.ref b1), .val (.ref s39), .val (.ref b42), .val (.int (1 : Int32))]) rfl ?_
    refine g_iload X45 hx hby at_82 rfl ?_
    refine g_ifN X45 hx hby at_84 (feq (by decide : ¬ ((1 : Int32) = (0 : Int32)))).1 ?_
    refine g_aload X45 hx hby at_87 rfl rfl ?_
    refine g_iconst X45 hx hby (0 : Int32) at_89 rfl ?_
    refine g_iload X45 hx hby at_90 rfl ?_
    refine g_aload X45 hx hby at_92 rfl rfl ?_
    have ne55 : b1 ≠ b42 := (Nat.ne_of_lt (Nat.lt_of_lt_of_le V1.lt (Nat.le_trans (Nat.le_trans (Nat.le_trans (Nat.le_trans (Keep.of_wr W2).1 (Keep.of_wr W3).1) (Keep.of_wr W4).1) K39.1) (Nat.le_of_eq g42))))
    have f56 := (((VA0.keep K39 nin0).ext E42).keep K43 (ninS ne55 nin0))
    refine g_static X45 hx hby hZ hown (rm_step10 l Z a0 hw [] b42 s39 t39 kb39 cz b1 k1 c0 c1 c2 fz T43.heap n0 z53 O2 P5 f52 f46 f48 f49 f51 Er43 Tr43 Pr43 f56 hc0 hc1 hc2 rfz O4 g_b42 (Ne.symm ne47) (Ne.symm ne50)) w53_ w54_ w3_ w55_ (by decide) eh45 (by rw [hml]; rfl) [(.ref b42), (.int (0 : Int32)), (.int (1 : Int32)), (.ref b1)] (lenOf own_pd16 rfl) rfl rfl (Nat.le_of_ble_eq_true rfl) (Nat.le_of_ble_eq_true rfl) (Nat.le_of_ble_eq_true rfl) (Nat.le_of_ble_eq_true rfl) at_94 (fun v54 T54 L54 X54 hQ54 => ?_)
    obtain ⟨rfl, N54q, K54, Er54, Tr54, Pr54⟩ := hQ54
    have N54 := Fr.app N45 N54q
    refine g_ifN X54 hx hby at_97 (feq (by decide : ¬ ((1 : Int32) = (0 : Int32)))).1 ?_
    refine g_iconst X54 hx hby (1 : Int32) at_100 rfl ?_
    refine g_goto X54 hx hby 105 at_101 (by decide) (by decide) ?_
    refine g_istore X54 hx hby at_105 (l' := #[.val (.int x), .val (.int y0), .val (.int y1), .val (.int y2), .val (.int (1 : Int32)), .val (.ref b1), .val (.ref s39), .val (.ref b42), .val (.int (1 : Int32))]) rfl ?_
    refine g_iload X54 hx hby at_107 rfl ?_
    refine g_ifN X54 hx hby at_109 (feq (by decide : ¬ ((1 : Int32) = (0 : Int32)))).1 ?_
    refine g_aload X54 hx hby at_112 rfl rfl ?_
    refine g_iconst X54 hx hby (1 : Int32) at_114 rfl ?_
    refine g_iload X54 hx hby at_115 rfl ?_
    refine g_aload X54 hx hby at_117 rfl rfl ?_
    have f58 := (f46.keep K54)
    have f59 := (f48.keep K54 (ninS ne47 nin0))
    have f60 := (f49.keep K54 (ninS ne47 nin0))
    have f61 := (f51.keep K54 (ninS ne50 nin0))
    have f62 := (f52.keep K54 (allS g_b42 all0))
    have f63 := (f56.keep K54 (ninS ne55 nin0))
    have z64 := (Nat.le_trans z53 K54.1)
    refine g_static X54 hx hby hZ hown (rm_step11 l Z a0 hw [] b42 s39 t39 kb39 cz b1 k1 c0 c1 c2 fz T54.heap n0 z64 O2 P5 f62 f58 f59 f60 f61 Er54 Tr54 Pr54 f63 hc0 hc1 hc2 rfz O4 g_b42 (Ne.symm ne47) (Ne.symm ne50)) w53_ w54_ w3_ w55_ (by decide) rfl (by rw [hml]; rfl) [(.ref b42), (.int (1 : Int32)), (.int (1 : Int32)), (.ref b1)] (lenOf own_pd16 rfl) rfl rfl (Nat.le_of_ble_eq_true rfl) (Nat.le_of_ble_eq_true rfl) (Nat.le_of_ble_eq_true rfl) (Nat.le_of_ble_eq_true rfl) at_119 (fun v57 T57 L57 X57 hQ57 => ?_)
    obtain ⟨rfl, N57q, K57, Er57, Tr57, Pr57⟩ := hQ57
    have N57 := Fr.app N54 N57q
    refine g_ifN X57 hx hby at_122 (feq (by decide : ¬ ((1 : Int32) = (0 : Int32)))).1 ?_
    refine g_iconst X57 hx hby (1 : Int32) at_125 rfl ?_
    refine g_goto X57 hx hby 130 at_126 (by decide) (by decide) ?_
    refine g_istore X57 hx hby at_130 (l' := #[.val (.int x), .val (.int y0), .val (.int y1), .val (.int y2), .val (.int (1 : Int32)), .val (.ref b1), .val (.ref s39), .val (.ref b42), .val (.int (1 : Int32))]) rfl ?_
    refine g_iload X57 hx hby at_132 rfl ?_
    refine g_ifN X57 hx hby at_134 (feq (by decide : ¬ ((1 : Int32) = (0 : Int32)))).1 ?_
    refine g_aload X57 hx hby at_137 rfl rfl ?_
    refine g_iconst X57 hx hby (2 : Int32) at_139 rfl ?_
    refine g_iload X57 hx hby at_140 rfl ?_
    refine g_aload X57 hx hby at_142 rfl rfl ?_
    have f66 := (f58.keep K57)
    have f67 := (f59.keep K57 (ninS ne47 nin0))
    have f68 := (f60.keep K57 (ninS ne47 nin0))
    have f69 := (f61.keep K57 (ninS ne50 nin0))
    have f70 := (f62.keep K57 (allS g_b42 all0))
    have f71 := (f63.keep K57 (ninS ne55 nin0))
    have z72 := (Nat.le_trans z64 K57.1)
    refine g_static X57 hx hby hZ hown (rm_step12 l Z a0 hw [] b42 s39 t39 kb39 cz b1 k1 c0 c1 c2 fz T57.heap n0 z72 O2 P5 f70 f66 f67 f68 f69 Er57 Tr57 Pr57 f71 hc0 hc1 hc2 rfz O4 g_b42 (Ne.symm ne47) (Ne.symm ne50)) w53_ w54_ w3_ w55_ (by decide) rfl (by rw [hml]; rfl) [(.ref b42), (.int (2 : Int32)), (.int (1 : Int32)), (.ref b1)] (lenOf own_pd16 rfl) rfl rfl (Nat.le_of_ble_eq_true rfl) (Nat.le_of_ble_eq_true rfl) (Nat.le_of_ble_eq_true rfl) (Nat.le_of_ble_eq_true rfl) at_144 (fun v65 T65 L65 X65 hQ65 => ?_)
    obtain ⟨rfl, N65q, K65, Er65, Tr65, Pr65⟩ := hQ65
    have N65 := Fr.app N57 N65q
    refine g_ifN X65 hx hby at_147 (feq (by decide : ¬ ((1 : Int32) = (0 : Int32)))).1 ?_
    refine g_iconst X65 hx hby (1 : Int32) at_150 rfl ?_
    refine g_goto X65 hx hby 155 at_151 (by decide) (by decide) ?_
    refine g_istore X65 hx hby at_155 (l' := #[.val (.int x), .val (.int y0), .val (.int y1), .val (.int y2), .val (.int (1 : Int32)), .val (.ref b1), .val (.ref s39), .val (.ref b42), .val (.int (1 : Int32))]) rfl ?_
    refine g_iload X65 hx hby at_157 rfl ?_
    refine g_nretW X65 hx hby (t := .boolean) (by simp) Bd.returns Bd.notSynchronized hS0 at_159 rfl (Nat.zero_le _) (by decide) (by decide) ?_
    show (Q_law Z x y0 y1 y2 fz cz h0 n0) (some (.int (1 : Int32))) _ _
    exact ⟨rfl, N65⟩
  · skip
    refine g_iload X4 hx hby at_37 rfl ?_
    refine g_aload X4 hx hby at_39 rfl rfl ?_
    have f74 := ((((OLD.ext E1).wr W2 g_b1).wr W3 g_b1).wr W4 g_b1)
    have z75 := (Nat.le_trans Z0 (Nat.le_trans (Nat.le_trans (Nat.le_trans E1.1 (Keep.of_wr W2).1) (Keep.of_wr W3).1) (Keep.of_wr W4).1))
    refine g_static X4 hx hby hZ hown (rm_text2 l Z a0 hw [] b1 k1 c0 c1 c2 cz h4 n0 z75 O2 P5 f74 VA0 hc0 hc1 hc2) w1_ w2_ w3_ w4_ (by decide) e4 (by rw [hml]; rfl) [(.int (2 : Int32)), (.ref b1)] (lenOf own_pd14 rfl) rfl rfl (Nat.le_of_ble_eq_true rfl) (Nat.le_of_ble_eq_true rfl) (Nat.le_of_ble_eq_true rfl) (Nat.le_of_ble_eq_true rfl) at_41 (fun v73 T73 L73 X73 hQ73 => ?_)
    obtain ⟨N73q, K73, s73, t73, kb73, rfl, ls73, nx73, Es73, Cs73, Vs73, Bs73⟩ := hQ73
    have N73 := Fr.app N4 N73q
    refine g_astore X73 hx hby at_44 rfl (l' := #[.val (.int x), .val (.int y0), .val (.int y1), .val (.int y2), .val (.int (2 : Int32)), .val (.ref b1), .val (.ref s73), .unset, .unset]) rfl ?_
    refine g_new X73 hx hby hZ hown w26_ w27_ w28_ rfl (by decide) (by decide) at_46 (fun T76 h76 b76 g76 X76 e76 E76 A76 D76 => ?_)
    have F_text_b76 : Fld Z h76 b76 "com/example/pathloom/pathloom/web/MediaType$Reader" "text" "Ljava/lang/String;" .null := D76 (Or.inr w34_) (ty := (.object "java/lang/String")) (by decide)
    have F_position_b76 : Fld Z h76 b76 "com/example/pathloom/pathloom/web/MediaType$Reader" "position" "I" (.int (0 : Int32)) := D76 (Or.inl w41_) (ty := .int) (by decide)
    refine g_dup X76 hx hby at_49 rfl ?_
    refine g_aload X76 hx hby at_50 rfl rfl ?_
    have g_b76 : n0 ≤ b76 := Nat.le_trans (Nat.le_trans z75 K73.1) (Nat.le_of_eq g76)
    have z78 := (Nat.le_trans z75 (Nat.le_trans K73.1 E76.1))
    refine g_special X76 hx hby hZ hown (rm_rdini l Z a0 hw [] b76 s73 h76 n0 z78 A76 F_text_b76 F_position_b76 g_b76) rfl rfl w29_ w30_ w28_ w31_ (by decide) e76 (by rw [hml]; rfl) [(.ref s73)] (lenOf own_pd15 rfl) rfl rfl (Nat.le_of_ble_eq_true rfl) (Nat.le_of_ble_eq_true rfl) (Nat.le_of_ble_eq_true rfl) (Nat.le_of_ble_eq_true rfl) at_52 (fun v77 T77 L77 X77 hQ77 => ?_)
    obtain ⟨rfl, N77q, K77, Er77, Tr77, Pr77⟩ := hQ77
    have N77 := Fr.app N73 N77q
    refine g_astore X77 hx hby at_55 rfl (l' := #[.val (.int x), .val (.int y0), .val (.int y1), .val (.int y2), .val (.int (2 : Int32)), .val (.ref b1), .val (.ref s73), .val (.ref b76), .unset]) rfl ?_
    refine g_aload X77 hx hby at_57 rfl rfl ?_
    have f80 := ((Es73.ext E76).keep K77)
    have ne81 : s73 ≠ b76 := (Nat.ne_of_lt (Nat.lt_of_lt_of_le Es73.lt (Nat.le_of_eq g76)))
    have f82 := ((Cs73.ext E76).keep K77 (ninS ne81 nin0))
    have f83 := ((Vs73.ext E76).keep K77 (ninS ne81 nin0))
    have ne84 : t73 ≠ b76 := (Nat.ne_of_lt (Nat.lt_of_lt_of_le Bs73.lt (Nat.le_of_eq g76)))
    have f85 := ((Bs73.ext E76).keep K77 (ninS ne84 nin0))
    have f86 := (((f74.keep K73 all0).ext E76).keep K77 (allS g_b76 all0))
    have z87 := (Nat.le_trans z78 K77.1)
    refine g_virtual X77 hx hby hZ hown (rm_rdend_2_0 l Z a0 hw [] b76 s73 t73 kb73 [(.int (nar .byte ((nar .char c0).toInt8.toInt32))), (.int (nar .byte ((nar .char c1).toInt8.toInt32)))] cz T77.heap n0 z87 O2 P5 f86 f80 f82 f83 f85 Er77 Tr77 Pr77) w35_ w36_ (notFace_of_selects (args := #[]) (mvT hZ w38_)) w38_ w37_ w28_ w39_ (by decide) rfl Er77 (by rw [hml]; rfl) [] (lenOf own_pd7 rfl) rfl rfl (Nat.le_of_ble_eq_true rfl) (Nat.le_of_ble_eq_true rfl) (Nat.le_of_ble_eq_true rfl) (Nat.le_of_ble_eq_true rfl) at_59 (fun v79 T79 L79 X79 hQ79 => ?_)
    obtain ⟨rfl, N79q, eh79⟩ := hQ79
    have N79 := Fr.app N77 N79q
    refine g_at 62 rfl rfl rfl ?_
    refine g_iload X79 hx hby at_62 rfl ?_
    refine g_ifY X79 hx hby 71 at_64 (feq (by decide : ¬ ((2 : Int32) = (0 : Int32)))).2 (by decide) (by decide) ?_
    refine g_iconst X79 hx hby (0 : Int32) at_71 rfl ?_
    refine g_icN X79 hx hby at_72 (teq (by decide : (0 : Int32) = (0 : Int32))).2 ?_
    refine g_iconst X79 hx hby (1 : Int32) at_75 rfl ?_
    refine g_goto X79 hx hby 80 at_76 (by decide) (by decide) ?_
    refine g_istore X79 hx hby at_80 (l' := #[.val (.int x), .val (.int y0), .val (.int y1), .val (.int y2), .val (.int (2 : Int32)), .val (.ref b1), .val (.ref s73), .val (.ref b76), .val (.int (1 : Int32))]) rfl ?_
    refine g_iload X79 hx hby at_82 rfl ?_
    refine g_ifN X79 hx hby at_84 (feq (by decide : ¬ ((1 : Int32) = (0 : Int32)))).1 ?_
    refine g_aload X79 hx hby at_87 rfl rfl ?_
    refine g_iconst X79 hx hby (0 : Int32) at_89 rfl ?_
    refine g_iload X79 hx hby at_90 rfl ?_
    refine g_aload X79 hx hby at_92 rfl rfl ?_
    have ne89 : b1 ≠ b76 := (Nat.ne_of_lt (Nat.lt_of_lt_of_le V1.lt (Nat.le_trans (Nat.le_trans (Nat.le_trans (Nat.le_trans (Keep.of_wr W2).1 (Keep.of_wr W3).1) (Keep.of_wr W4).1) K73.1) (Nat.le_of_eq g76))))
    have f90 := (((VA0.keep K73 nin0).ext E76).keep K77 (ninS ne89 nin0))
    refine g_static X79 hx hby hZ hown (rm_step20 l Z a0 hw [] b76 s73 t73 kb73 cz b1 k1 c0 c1 c2 fz T77.heap n0 z87 O2 P5 f86 f80 f82 f83 f85 Er77 Tr77 Pr77 f90 hc0 hc1 hc2 rfz O4 g_b76 (Ne.symm ne81) (Ne.symm ne84)) w53_ w54_ w3_ w55_ (by decide) eh79 (by rw [hml]; rfl) [(.ref b76), (.int (0 : Int32)), (.int (2 : Int32)), (.ref b1)] (lenOf own_pd16 rfl) rfl rfl (Nat.le_of_ble_eq_true rfl) (Nat.le_of_ble_eq_true rfl) (Nat.le_of_ble_eq_true rfl) (Nat.le_of_ble_eq_true rfl) at_94 (fun v88 T88 L88 X88 hQ88 => ?_)
    obtain ⟨rfl, N88q, K88, Er88, Tr88, Pr88⟩ := hQ88
    have N88 := Fr.app N79 N88q
    refine g_ifN X88 hx hby at_97 (feq (by decide : ¬ ((1 : Int32) = (0 : Int32)))).1 ?_
    refine g_iconst X88 hx hby (1 : Int32) at_100 rfl ?_
    refine g_goto X88 hx hby 105 at_101 (by decide) (by decide) ?_
    refine g_istore X88 hx hby at_105 (l' := #[.val (.int x), .val (.int y0), .val (.int y1), .val (.int y2), .val (.int (2 : Int32)), .val (.ref b1), .val (.ref s73), .val (.ref b76), .val (.int (1 : Int32))]) rfl ?_
    refine g_iload X88 hx hby at_107 rfl ?_
    refine g_ifN X88 hx hby at_109 (feq (by decide : ¬ ((1 : Int32) = (0 : Int32)))).1 ?_
    refine g_aload X88 hx hby at_112 rfl rfl ?_
    refine g_iconst X88 hx hby (1 : Int32) at_114 rfl ?_
    refine g_iload X88 hx hby at_115 rfl ?_
    refine g_aload X88 hx hby at_117 rfl rfl ?_
    have f92 := (f80.keep K88)
    have f93 := (f82.keep K88 (ninS ne81 nin0))
    have f94 := (f83.keep K88 (ninS ne81 nin0))
    have f95 := (f85.keep K88 (ninS ne84 nin0))
    have f96 := (f86.keep K88 (allS g_b76 all0))
    have f97 := (f90.keep K88 (ninS ne89 nin0))
    have z98 := (Nat.le_trans z87 K88.1)
    refine g_static X88 hx hby hZ hown (rm_step21 l Z a0 hw [] b76 s73 t73 kb73 cz b1 k1 c0 c1 c2 fz T88.heap n0 z98 O2 P5 f96 f92 f93 f94 f95 Er88 Tr88 Pr88 f97 hc0 hc1 hc2 rfz O4 g_b76 (Ne.symm ne81) (Ne.symm ne84)) w53_ w54_ w3_ w55_ (by decide) rfl (by rw [hml]; rfl) [(.ref b76), (.int (1 : Int32)), (.int (2 : Int32)), (.ref b1)] (lenOf own_pd16 rfl) rfl rfl (Nat.le_of_ble_eq_true rfl) (Nat.le_of_ble_eq_true rfl) (Nat.le_of_ble_eq_true rfl) (Nat.le_of_ble_eq_true rfl) at_119 (fun v91 T91 L91 X91 hQ91 => ?_)
    obtain ⟨rfl, N91q, K91, Er91, Tr91, Pr91⟩ := hQ91
    have N91 := Fr.app N88 N91q
    refine g_ifN X91 hx hby at_122 (feq (by decide : ¬ ((1 : Int32) = (0 : Int32)))).1 ?_
    refine g_iconst X91 hx hby (1 : Int32) at_125 rfl ?_
    refine g_goto X91 hx hby 130 at_126 (by decide) (by decide) ?_
    refine g_istore X91 hx hby at_130 (l' := #[.val (.int x), .val (.int y0), .val (.int y1), .val (.int y2), .val (.int (2 : Int32)), .val (.ref b1), .val (.ref s73), .val (.ref b76), .val (.int (1 : Int32))]) rfl ?_
    refine g_iload X91 hx hby at_132 rfl ?_
    refine g_ifN X91 hx hby at_134 (feq (by decide : ¬ ((1 : Int32) = (0 : Int32)))).1 ?_
    refine g_aload X91 hx hby at_137 rfl rfl ?_
    refine g_iconst X91 hx hby (2 : Int32) at_139 rfl ?_
    refine g_iload X91 hx hby at_140 rfl ?_
    refine g_aload X91 hx hby at_142 rfl rfl ?_
    have f100 := (f92.keep K91)
    have f101 := (f93.keep K91 (ninS ne81 nin0))
    have f102 := (f94.keep K91 (ninS ne81 nin0))
    have f103 := (f95.keep K91 (ninS ne84 nin0))
    have f104 := (f96.keep K91 (allS g_b76 all0))
    have f105 := (f97.keep K91 (ninS ne89 nin0))
    have z106 := (Nat.le_trans z98 K91.1)
    refine g_static X91 hx hby hZ hown (rm_step22 l Z a0 hw [] b76 s73 t73 kb73 cz b1 k1 c0 c1 c2 fz T91.heap n0 z106 O2 P5 f104 f100 f101 f102 f103 Er91 Tr91 Pr91 f105 hc0 hc1 hc2 rfz O4 g_b76 (Ne.symm ne81) (Ne.symm ne84)) w53_ w54_ w3_ w55_ (by decide) rfl (by rw [hml]; rfl) [(.ref b76), (.int (2 : Int32)), (.int (2 : Int32)), (.ref b1)] (lenOf own_pd16 rfl) rfl rfl (Nat.le_of_ble_eq_true rfl) (Nat.le_of_ble_eq_true rfl) (Nat.le_of_ble_eq_true rfl) (Nat.le_of_ble_eq_true rfl) at_144 (fun v99 T99 L99 X99 hQ99 => ?_)
    obtain ⟨rfl, N99q, K99, Er99, Tr99, Pr99⟩ := hQ99
    have N99 := Fr.app N91 N99q
    refine g_ifN X99 hx hby at_147 (feq (by decide : ¬ ((1 : Int32) = (0 : Int32)))).1 ?_
    refine g_iconst X99 hx hby (1 : Int32) at_150 rfl ?_
    refine g_goto X99 hx hby 155 at_151 (by decide) (by decide) ?_
    refine g_istore X99 hx hby at_155 (l' := #[.val (.int x), .val (.int y0), .val (.int y1), .val (.int y2), .val (.int (2 : Int32)), .val (.ref b1), .val (.ref s73), .val (.ref b76), .val (.int (1 : Int32))]) rfl ?_
    refine g_iload X99 hx hby at_157 rfl ?_
    refine g_nretW X99 hx hby (t := .boolean) (by simp) Bd.returns Bd.notSynchronized hS0 at_159 rfl (Nat.zero_le _) (by decide) (by decide) ?_
    show (Q_law Z x y0 y1 y2 fz cz h0 n0) (some (.int (1 : Int32))) _ _
    exact ⟨rfl, N99⟩
  · skip
    refine g_iload X4 hx hby at_37 rfl ?_
    refine g_aload X4 hx hby at_39 rfl rfl ?_
    have f108 := ((((OLD.ext E1).wr W2 g_b1).wr W3 g_b1).wr W4 g_b1)
    have z109 := (Nat.le_trans Z0 (Nat.le_trans (Nat.le_trans (Nat.le_trans E1.1 (Keep.of_wr W2).1) (Keep.of_wr W3).1) (Keep.of_wr W4).1))
    refine g_static X4 hx hby hZ hown (rm_text3 l Z a0 hw [] b1 k1 c0 c1 c2 cz h4 n0 z109 O2 P5 f108 VA0 hc0 hc1 hc2) w1_ w2_ w3_ w4_ (by decide) e4 (by rw [hml]; rfl) [(.int (3 : Int32)), (.ref b1)] (lenOf own_pd14 rfl) rfl rfl (Nat.le_of_ble_eq_true rfl) (Nat.le_of_ble_eq_true rfl) (Nat.le_of_ble_eq_true rfl) (Nat.le_of_ble_eq_true rfl) at_41 (fun v107 T107 L107 X107 hQ107 => ?_)
    obtain ⟨N107q, K107, s107, t107, kb107, rfl, ls107, nx107, Es107, Cs107, Vs107, Bs107⟩ := hQ107
    have N107 := Fr.app N4 N107q
    refine g_astore X107 hx hby at_44 rfl (l' := #[.val (.int x), .val (.int y0), .val (.int y1), .val (.int y2), .val (.int (3 : Int32)), .val (.ref b1), .val (.ref s107), .unset, .unset]) rfl ?_
    refine g_new X107 hx hby hZ hown w26_ w27_ w28_ rfl (by decide) (by decide) at_46 (fun T110 h110 b110 g110 X110 e110 E110 A110 D110 => ?_)
    have F_text_b110 : Fld Z h110 b110 "com/example/pathloom/pathloom/web/MediaType$Reader" "text" "Ljava/lang/String;" .null := D110 (Or.inr w34_) (ty := (.object "java/lang/String")) (by decide)
    have F_position_b110 : Fld Z h110 b110 "com/example/pathloom/pathloom/web/MediaType$Reader" "position" "I" (.int (0 : Int32)) := D110 (Or.inl w41_) (ty := .int) (by decide)
    refine g_dup X110 hx hby at_49 rfl ?_
    refine g_aload X110 hx hby at_50 rfl rfl ?_
    have g_b110 : n0 ≤ b110 := Nat.le_trans (Nat.le_trans z109 K107.1) (Nat.le_of_eq g110)
    have z112 := (Nat.le_trans z109 (Nat.le_trans K107.1 E110.1))
    refine g_special X110 hx hby hZ hown (rm_rdini l Z a0 hw [] b110 s107 h110 n0 z112 A110 F_text_b110 F_position_b110 g_b110) rfl rfl w29_ w30_ w28_ w31_ (by decide) e110 (by rw [hml]; rfl) [(.ref s107)] (lenOf own_pd15 rfl) rfl rfl (Nat.le_of_ble_eq_true rfl) (Nat.le_of_ble_eq_true rfl) (Nat.le_of_ble_eq_true rfl) (Nat.le_of_ble_eq_true rfl) at_52 (fun v111 T111 L111 X111 hQ111 => ?_)
    obtain ⟨rfl, N111q, K111, Er111, Tr111, Pr111⟩ := hQ111
    have N111 := Fr.app N107 N111q
    refine g_astore X111 hx hby at_55 rfl (l' := #[.val (.int x), .val (.int y0), .val (.int y1), .val (.int y2), .val (.int (3 : Int32)), .val (.ref b1), .val (.ref s107), .val (.ref b110), .unset]) rfl ?_
    refine g_aload X111 hx hby at_57 rfl rfl ?_
    have f114 := ((Es107.ext E110).keep K111)
    have ne115 : s107 ≠ b110 := (Nat.ne_of_lt (Nat.lt_of_lt_of_le Es107.lt (Nat.le_of_eq g110)))
    have f116 := ((Cs107.ext E110).keep K111 (ninS ne115 nin0))
    have f117 := ((Vs107.ext E110).keep K111 (ninS ne115 nin0))
    have ne118 : t107 ≠ b110 := (Nat.ne_of_lt (Nat.lt_of_lt_of_le Bs107.lt (Nat.le_of_eq g110)))
    have f119 := ((Bs107.ext E110).keep K111 (ninS ne118 nin0))
    have f120 := (((f108.keep K107 all0).ext E110).keep K111 (allS g_b110 all0))
    have z121 := (Nat.le_trans z112 K111.1)
    refine g_virtual X111 hx hby hZ hown (rm_rdend_3_0 l Z a0 hw [] b110 s107 t107 kb107 [(.int (nar .byte ((nar .char c0).toInt8.toInt32))), (.int (nar .byte ((nar .char c1).toInt8.toInt32))), (.int (nar .byte ((nar .char c2).toInt8.toInt32)))] cz T111.heap n0 z121 O2 P5 f120 f114 f116 f117 f119 Er111 Tr111 Pr111) w35_ w36_ (notFace_of_selects (args := #[]) (mvT hZ w38_)) w38_ w37_ w28_ w39_ (by decide) rfl Er111 (by rw [hml]; rfl) [] (lenOf own_pd7 rfl) rfl rfl (Nat.le_of_ble_eq_true rfl) (Nat.le_of_ble_eq_true rfl) (Nat.le_of_ble_eq_true rfl) (Nat.le_of_ble_eq_true rfl) at_59 (fun v113 T113 L113 X113 hQ113 => ?_)
    obtain ⟨rfl, N113q, eh113⟩ := hQ113
    have N113 := Fr.app N111 N113q
    refine g_at 62 rfl rfl rfl ?_
    refine g_iload X113 hx hby at_62 rfl ?_
    refine g_ifY X113 hx hby 71 at_64 (feq (by decide : ¬ ((3 : Int32) = (0 : Int32)))).2 (by decide) (by decide) ?_
    refine g_iconst X113 hx hby (0 : Int32) at_71 rfl ?_
    refine g_icN X113 hx hby at_72 (teq (by decide : (0 : Int32) = (0 : Int32))).2 ?_
    refine g_iconst X113 hx hby (1 : Int32) at_75 rfl ?_
    refine g_goto X113 hx hby 80 at_76 (by decide) (by decide) ?_
    refine g_istore X113 hx hby at_80 (l' := #[.val (.int x), .val (.int y0), .val (.int y1), .val (.int y2), .val (.int (3 : Int32)), .val (.ref b1), .val (.ref s107), .val (.ref b110), .val (.int (1 : Int32))]) rfl ?_
    refine g_iload X113 hx hby at_82 rfl ?_
    refine g_ifN X113 hx hby at_84 (feq (by decide : ¬ ((1 : Int32) = (0 : Int32)))).1 ?_
    refine g_aload X113 hx hby at_87 rfl rfl ?_
    refine g_iconst X113 hx hby (0 : Int32) at_89 rfl ?_
    refine g_iload X113 hx hby at_90 rfl ?_
    refine g_aload X113 hx hby at_92 rfl rfl ?_
    have ne123 : b1 ≠ b110 := (Nat.ne_of_lt (Nat.lt_of_lt_of_le V1.lt (Nat.le_trans (Nat.le_trans (Nat.le_trans (Nat.le_trans (Keep.of_wr W2).1 (Keep.of_wr W3).1) (Keep.of_wr W4).1) K107.1) (Nat.le_of_eq g110))))
    have f124 := (((VA0.keep K107 nin0).ext E110).keep K111 (ninS ne123 nin0))
    refine g_static X113 hx hby hZ hown (rm_step30 l Z a0 hw [] b110 s107 t107 kb107 cz b1 k1 c0 c1 c2 fz T111.heap n0 z121 O2 P5 f120 f114 f116 f117 f119 Er111 Tr111 Pr111 f124 hc0 hc1 hc2 rfz O4 g_b110 (Ne.symm ne115) (Ne.symm ne118)) w53_ w54_ w3_ w55_ (by decide) eh113 (by rw [hml]; rfl) [(.ref b110), (.int (0 : Int32)), (.int (3 : Int32)), (.ref b1)] (lenOf own_pd16 rfl) rfl rfl (Nat.le_of_ble_eq_true rfl) (Nat.le_of_ble_eq_true rfl) (Nat.le_of_ble_eq_true rfl) (Nat.le_of_ble_eq_true rfl) at_94 (fun v122 T122 L122 X122 hQ122 => ?_)
    obtain ⟨rfl, N122q, K122, Er122, Tr122, Pr122⟩ := hQ122
    have N122 := Fr.app N113 N122q
    refine g_ifN X122 hx hby at_97 (feq (by decide : ¬ ((1 : Int32) = (0 : Int32)))).1 ?_
    refine g_iconst X122 hx hby (1 : Int32) at_100 rfl ?_
    refine g_goto X122 hx hby 105 at_101 (by decide) (by decide) ?_
    refine g_istore X122 hx hby at_105 (l' := #[.val (.int x), .val (.int y0), .val (.int y1), .val (.int y2), .val (.int (3 : Int32)), .val (.ref b1), .val (.ref s107), .val (.ref b110), .val (.int (1 : Int32))]) rfl ?_
    refine g_iload X122 hx hby at_107 rfl ?_
    refine g_ifN X122 hx hby at_109 (feq (by decide : ¬ ((1 : Int32) = (0 : Int32)))).1 ?_
    refine g_aload X122 hx hby at_112 rfl rfl ?_
    refine g_iconst X122 hx hby (1 : Int32) at_114 rfl ?_
    refine g_iload X122 hx hby at_115 rfl ?_
    refine g_aload X122 hx hby at_117 rfl rfl ?_
    have f126 := (f114.keep K122)
    have f127 := (f116.keep K122 (ninS ne115 nin0))
    have f128 := (f117.keep K122 (ninS ne115 nin0))
    have f129 := (f119.keep K122 (ninS ne118 nin0))
    have f130 := (f120.keep K122 (allS g_b110 all0))
    have f131 := (f124.keep K122 (ninS ne123 nin0))
    have z132 := (Nat.le_trans z121 K122.1)
    refine g_static X122 hx hby hZ hown (rm_step31 l Z a0 hw [] b110 s107 t107 kb107 cz b1 k1 c0 c1 c2 fz T122.heap n0 z132 O2 P5 f130 f126 f127 f128 f129 Er122 Tr122 Pr122 f131 hc0 hc1 hc2 rfz O4 g_b110 (Ne.symm ne115) (Ne.symm ne118)) w53_ w54_ w3_ w55_ (by decide) rfl (by rw [hml]; rfl) [(.ref b110), (.int (1 : Int32)), (.int (3 : Int32)), (.ref b1)] (lenOf own_pd16 rfl) rfl rfl (Nat.le_of_ble_eq_true rfl) (Nat.le_of_ble_eq_true rfl) (Nat.le_of_ble_eq_true rfl) (Nat.le_of_ble_eq_true rfl) at_119 (fun v125 T125 L125 X125 hQ125 => ?_)
    obtain ⟨rfl, N125q, K125, Er125, Tr125, Pr125⟩ := hQ125
    have N125 := Fr.app N122 N125q
    refine g_ifN X125 hx hby at_122 (feq (by decide : ¬ ((1 : Int32) = (0 : Int32)))).1 ?_
    refine g_iconst X125 hx hby (1 : Int32) at_125 rfl ?_
    refine g_goto X125 hx hby 130 at_126 (by decide) (by decide) ?_
    refine g_istore X125 hx hby at_130 (l' := #[.val (.int x), .val (.int y0), .val (.int y1), .val (.int y2), .val (.int (3 : Int32)), .val (.ref b1), .val (.ref s107), .val (.ref b110), .val (.int (1 : Int32))]) rfl ?_
    refine g_iload X125 hx hby at_132 rfl ?_
    refine g_ifN X125 hx hby at_134 (feq (by decide : ¬ ((1 : Int32) = (0 : Int32)))).1 ?_
    refine g_aload X125 hx hby at_137 rfl rfl ?_
    refine g_iconst X125 hx hby (2 : Int32) at_139 rfl ?_
    refine g_iload X125 hx hby at_140 rfl ?_
    refine g_aload X125 hx hby at_142 rfl rfl ?_
    have f134 := (f126.keep K125)
    have f135 := (f127.keep K125 (ninS ne115 nin0))
    have f136 := (f128.keep K125 (ninS ne115 nin0))
    have f137 := (f129.keep K125 (ninS ne118 nin0))
    have f138 := (f130.keep K125 (allS g_b110 all0))
    have f139 := (f131.keep K125 (ninS ne123 nin0))
    have z140 := (Nat.le_trans z132 K125.1)
    refine g_static X125 hx hby hZ hown (rm_step32 l Z a0 hw [] b110 s107 t107 kb107 cz b1 k1 c0 c1 c2 fz T125.heap n0 z140 O2 P5 f138 f134 f135 f136 f137 Er125 Tr125 Pr125 f139 hc0 hc1 hc2 rfz O4 g_b110 (Ne.symm ne115) (Ne.symm ne118)) w53_ w54_ w3_ w55_ (by decide) rfl (by rw [hml]; rfl) [(.ref b110), (.int (2 : Int32)), (.int (3 : Int32)), (.ref b1)] (lenOf own_pd16 rfl) rfl rfl (Nat.le_of_ble_eq_true rfl) (Nat.le_of_ble_eq_true rfl) (Nat.le_of_ble_eq_true rfl) (Nat.le_of_ble_eq_true rfl) at_144 (fun v133 T133 L133 X133 hQ133 => ?_)
    obtain ⟨rfl, N133q, K133, Er133, Tr133, Pr133⟩ := hQ133
    have N133 := Fr.app N125 N133q
    refine g_ifN X133 hx hby at_147 (feq (by decide : ¬ ((1 : Int32) = (0 : Int32)))).1 ?_
    refine g_iconst X133 hx hby (1 : Int32) at_150 rfl ?_
    refine g_goto X133 hx hby 155 at_151 (by decide) (by decide) ?_
    refine g_istore X133 hx hby at_155 (l' := #[.val (.int x), .val (.int y0), .val (.int y1), .val (.int y2), .val (.int (3 : Int32)), .val (.ref b1), .val (.ref s107), .val (.ref b110), .val (.int (1 : Int32))]) rfl ?_
    refine g_iload X133 hx hby at_157 rfl ?_
    refine g_nretW X133 hx hby (t := .boolean) (by simp) Bd.returns Bd.notSynchronized hS0 at_159 rfl (Nat.zero_le _) (by decide) (by decide) ?_
    show (Q_law Z x y0 y1 y2 fz cz h0 n0) (some (.int (1 : Int32))) _ _
    exact ⟨rfl, N133⟩

set_option maxRecDepth 65536 in
set_option maxHeartbeats 40000000 in
theorem comes_1 {Post : Tables → Env → Array Value → State → Outcome → State → Prop} (hpost : ∀ tb e args s v u, (limb_1_1.after args s (.returned v) u = true ∧ limb_1_2.after args s (.returned v) u = true ∧ True) → ReturnedEndW s (.returned v) u (Jvm.fieldLocs frame_1_writes args s ++ Jvm.arrayLocs frame_1_arrays args s ++ Jvm.staticLocs frame_1_statics s) 24 1152 → Post tb e args s (.returned v) u) :
    ArmFor flags0 classFile x code maxLocals ret World_1 tables_1 room_1 Calls_1 rest_1 Pre_1 Post := by
  intro l hfl _ _ p e ha hc hk s m args below hf hA hF happ hP
  obtain ⟨hcalls, hrest, hpre⟩ := hP
  obtain ⟨-, -, -, hnamed, -, -, -, hat⟩ := (Spec.applies_iff hf).mp happ
  obtain ⟨hg, hn⟩ := and_e (Cond.before_iff.mp (show (Jvm.Cond.and given_1 narrow_1).before args s = true from hpre))
  obtain ⟨hcount, hg1⟩ := and_e hg
  obtain ⟨ga0, hg2⟩ := and_e hg1
  obtain ⟨ga1, hg3⟩ := and_e hg2
  obtain ⟨ga2, hg4⟩ := and_e hg3
  have ga3 := hg4
  obtain ⟨w0, w1, w2, w3, rfl⟩ : ∃ w0 w1 w2 w3 : Value, args = #[w0, w1, w2, w3] := by
    have hs : args.size = 4 := by simpa [Cond.value, given_1] using hcount
    obtain ⟨L⟩ := args
    match L, hs with
    | [w0, w1, w2, w3], _ => exact ⟨w0, w1, w2, w3, rfl⟩
  have hw := fun d (hd : d ∈ tables_1) => atoms_spec (ws := Jvm.Cond.code x code maxLocals ret :: tables_1) hat d (List.mem_cons_of_mem _ hd)
  have hfit : Fit s := fun {y c} hc i hi => by
    obtain ⟨ha, rfl⟩ := Array.getElem?_eq_some_iff.mp hc
    have q := List.all_eq_true.mp ((Array.all_eq_true_iff_forall_mem.mp hF) _ (Array.getElem_mem ha)) i (List.mem_range.mpr hi)
    simpa [Array.getElem?_eq_getElem hi] using q
  obtain ⟨hsets, hown0⟩ := atoms_of _ (rest_1_c_eq ▸ (show rest_1_c.before _ s = true from hrest))
  have hr0 := Cond.before_iff.mp hown0
  obtain ⟨i0, ei0⟩ := is_v ga0
  obtain rfl : w0 = (.int i0) := Option.some.inj ei0
  obtain ⟨i1, ei1⟩ := is_v ga1
  obtain rfl : w1 = (.int i1) := Option.some.inj ei1
  obtain ⟨i2, ei2⟩ := is_v ga2
  obtain rfl : w2 = (.int i2) := Option.some.inj ei2
  obtain ⟨i3, ei3⟩ := is_v ga3
  obtain rfl : w3 = (.int i3) := Option.some.inj ei3
  obtain ⟨cz, ecz⟩ := is_v (Cond.before_iff.mp (hsets _ (List.mem_of_getElem? (i := 1) rfl)))
  have O2 := Sta.start ecz (Or.inl (hsets _ (List.mem_of_getElem? (i := 0) rfl)))
  have P5 : ¬ cz = (0 : Int32) := gotF (Cond.eq_ints ecz (Term.int_eval 0)) (not_v (Cond.before_iff.mp (hsets _ (List.mem_of_getElem? (i := 2) rfl))))
  obtain ⟨fz, efz, rfz0⟩ := isR_v (Cond.before_iff.mp (hsets _ (List.mem_of_getElem? (i := 8) rfl)))
  have rfz := Rf.of rfz0
  have O4 := Sta.start efz (Or.inl (hsets _ (List.mem_of_getElem? (i := 7) rfl)))
  have hheld : Jvm.Lit.constHeld s "java/lang/String" 7 := hcalls.1 ("java/lang/String", 7) (by simp [consts_1])
  have hcw : Jvm.Lit.compactW.before #[Value.int i0, Value.int i1, Value.int i2, Value.int i3] s = true := hsets _ (List.mem_of_getElem? (i := 2) rfl)
  obtain ⟨n, o, h1, h2, h3, _, L, rfl, ⟨rfl, N⟩, hq⟩ := rm_law l s _ hw tables_1 i0 i1 i2 i3 fz cz s.heap s.heap.size (Nat.le_refl _) O2 P5 (Old.start s) rfz O4 hheld hcw p e ha hc hk s m _ below hf ((Spec.applies_iff_loose hf).mp happ).1 ⟨rfl, ⟨State.Warmed39.refl s, rfl⟩, rfl⟩ trivial
  refine ⟨n, _, h1, h2, h3, hpost _ _ _ _ _ _ ⟨Cond.after_iff.mpr rfl, Cond.after_iff.mpr (eq_i res_at (Term.int_eval (1)) rfl), trivial⟩ (own_widen hq N (by decide) (by decide))⟩
theorem main_1_1 : Claimed_1_1 := comes_1 fun _ _ _ _ _ _ h hF => ⟨h.1, hF⟩
theorem main_1_2 : Claimed_1_2 := comes_1 fun _ _ _ _ _ _ h hF => ⟨h.2.1, hF⟩

end Jvm.Pilot.@@N@@
namespace Jvm.Pilot.@@N@@
open Jvm Jvm.ClassFile Sem Op Lib Jvm.Free Jvm.Stand Jvm.Pilot.@@N@@.Jvm.D
/-! MADE BY PROGRAM (witnessworld.py) out of the Statement's table words and the real class files: 21 classes; the members and pool entries that the words name. The judged class is class 1, her method 1. -/
namespace start1
open Jvm.ClassFile
def u (s : String) : CpInfo := .utf8 (stringToUtf16 s)
/-- a pool by its gaps: so many unusable entries, then the entry; so many at the end -/
def gap : Nat → List CpInfo → List CpInfo
  | 0, r => r
  | n + 1, r => .unusable :: gap n r
def poolList (es : List (Nat × CpInfo)) (last : Nat) : List CpInfo := es.foldr (fun e r => gap e.1 (e.2 :: r)) (gap last [])
def pool (es : List (Nat × CpInfo)) (last : Nat) : Array CpInfo := ⟨poolList es last⟩
def fileOf (pool : Array CpInfo) (this : Nat) (attrs : Array Attribute := #[]) (ms : Array MethodInfo := #[]) (fl : Nat := 33) (sup : Nat := 0) (ifs : Array Nat := #[]) (fds : Array FieldInfo := #[]) : ClassFile where
  minorVersion := 0
  majorVersion := 65
  constantPool := pool
  accessFlags := fl
  thisClass := this
  superClass := sup
  interfaces := ifs
  fields := fds
  methods := ms
  attributes := attrs
def plain (name : String) (sup : Option ClassId) : Class where
  name := name
  kind := .ordinary
  loader := none
  accessFlags := 33
  super := sup
  interfaces := #[]
  cf := none
  fields := #[]
  methods := #[]
  instanceTypes := #[]
  staticTypes := #[]
  resolved := #[]
  callSites := []
  init := .initialized
  statics := none
  mirror := none

def pool0 : Array CpInfo := pool [(5, u "<init>"), (0, u "()V"), (1, .class_ 10), (1, u "java/lang/Object")] 113

def k0c0 : Code := { maxStack := 0, maxLocals := 1, code := object_method_1_code, exceptionTable := #[], attributes := #[] }
def k0m0 : Method := { name := "<init>", desc := "()V", sig := { parameters := [], returnType := none }, accessFlags := 1, code := some k0c0 }
/-- java/lang/Object -/
def k0 : Class := { plain "java/lang/Object" none with
  accessFlags := 33
  interfaces := #[]
  cf := some (fileOf pool0 8 #[] #[{ accessFlags := 1, nameIndex := 5, descriptorIndex := 6, attributes := #[] }] 33 0 #[] #[])
  fields := #[]
  methods := #[k0m0]
  instanceTypes := #[]
  staticTypes := #[]
  resolved := Array.replicate 124 none
  statics := none }

def pool1 : Array CpInfo := pool [(2, .class_ 4), (1, u "java/lang/Object"), (0, u "<init>"), (0, u "()V"), (0, .methodref 8 9), (0, .class_ 10), (0, .nameAndType 11 12), (0, u "com/example/pathloom/pathloom/web/ReaderAtEndPinLaw"), (0, u "text"), (0, u "(I[C)Ljava/lang/String;"), (0, .class_ 14), (0, u "com/example/pathloom/pathloom/web/MediaType$Reader"), (0, .methodref 13 16), (0, .nameAndType 5 17), (0, u "(Ljava/lang/String;)V"), (0, .methodref 13 19), (0, .nameAndType 20 21), (0, u "atEnd"), (0, u "()Z"), (0, .methodref 8 23), (0, .nameAndType 24 25), (0, u "step"), (0, u "(Lcom/example/pathloom/pathloom/web/MediaType$Reader;II[C)Z"), (0, .class_ 27), (0, u "java/lang/String"), (0, .methodref 26 29), (0, .nameAndType 5 30), (0, u "([C)V"), (0, .methodref 13 32), (0, .nameAndType 33 34), (0, u "take"), (0, u "(C)Z"), (0, .methodref 36 37), (0, .class_ 38), (0, .nameAndType 39 40), (0, u "java/lang/Math"), (0, u "min"), (0, u "(II)I"), (2, u "law"), (0, u "(IIII)Z")] 9

def k1m0 : Method := { name := "<init>", desc := "()V", sig := { parameters := [], returnType := none }, accessFlags := 2, code := none }
def k1c1 : Code := { maxStack := 5, maxLocals := 9, code := code, exceptionTable := #[], attributes := #[] }
def k1m1 : Method := { name := "law", desc := "(IIII)Z", sig := { parameters := [.int, .int, .int, .int], returnType := some .boolean }, accessFlags := 9, code := some k1c1 }
def k1c2 : Code := { maxStack := 7, maxLocals := 2, code := method_3_code, exceptionTable := #[], attributes := #[] }
def k1m2 : Method := { name := "text", desc := "(I[C)Ljava/lang/String;", sig := { parameters := [.int, (.array .char)], returnType := some (.object "java/lang/String") }, accessFlags := 10, code := some k1c2 }
def k1c3 : Code := { maxStack := 3, maxLocals := 6, code := method_4_code, exceptionTable := #[], attributes := #[] }
def k1m3 : Method := { name := "step", desc := "(Lcom/example/pathloom/pathloom/web/MediaType$Reader;II[C)Z", sig := { parameters := [(.object "com/example/pathloom/pathloom/web/MediaType$Reader"), .int, .int, (.array .char)], returnType := some .boolean }, accessFlags := 10, code := some k1c3 }
/-- com/example/pathloom/pathloom/web/ReaderAtEndPinLaw -/
def k1 : Class := { plain "com/example/pathloom/pathloom/web/ReaderAtEndPinLaw" (some 0) with
  accessFlags := 49
  interfaces := #[]
  cf := some (fileOf pool1 8 #[] #[{ accessFlags := 2, nameIndex := 5, descriptorIndex := 6, attributes := #[] }, { accessFlags := 9, nameIndex := 43, descriptorIndex := 44, attributes := #[] }, { accessFlags := 10, nameIndex := 11, descriptorIndex := 12, attributes := #[] }, { accessFlags := 10, nameIndex := 24, descriptorIndex := 25, attributes := #[] }] 49 2 #[] #[])
  fields := #[]
  methods := #[k1m0, k1m1, k1m2, k1m3]
  instanceTypes := #[]
  staticTypes := #[]
  resolved := Array.replicate 54 none
  statics := none }

def pool2 : Array CpInfo := pool [(1, .class_ 2), (0, u "java/io/Serializable"), (0, .class_ 4), (0, u "java/lang/Object")] 2

/-- java/io/Serializable -/
def k2 : Class := { plain "java/io/Serializable" (some 0) with
  accessFlags := 1537
  interfaces := #[]
  cf := some (fileOf pool2 1 #[] #[] 1537 3 #[] #[])
  fields := #[]
  methods := #[]
  instanceTypes := #[]
  staticTypes := #[]
  resolved := Array.replicate 7 none
  statics := none }

def pool3 : Array CpInfo := pool [(1, .class_ 2), (0, u "java/lang/Comparable"), (0, .class_ 4), (0, u "java/lang/Object")] 7

/-- java/lang/Comparable -/
def k3 : Class := { plain "java/lang/Comparable" (some 0) with
  accessFlags := 1537
  interfaces := #[]
  cf := some (fileOf pool3 1 #[] #[] 1537 3 #[] #[])
  fields := #[]
  methods := #[]
  instanceTypes := #[]
  staticTypes := #[]
  resolved := Array.replicate 12 none
  statics := none }

def pool4 : Array CpInfo := pool [(2, .class_ 4), (1, u "java/lang/CharSequence"), (42, .class_ 48), (0, u "java/lang/CharSequence$1CodePointIterator"), (10, .class_ 60), (0, u "java/lang/CharSequence$1CharIterator"), (5, .class_ 67), (0, u "java/lang/Object")] 63

/-- java/lang/CharSequence -/
def k4 : Class := { plain "java/lang/CharSequence" (some 0) with
  accessFlags := 1537
  interfaces := #[]
  cf := some (fileOf pool4 2 #[.nestMembers #[47, 59]] #[] 1537 66 #[] #[])
  fields := #[]
  methods := #[]
  instanceTypes := #[]
  staticTypes := #[]
  resolved := Array.replicate 131 none
  statics := none }

def pool5 : Array CpInfo := pool [(1, .class_ 2), (0, u "java/lang/constant/Constable"), (0, .class_ 4), (0, u "java/lang/Object")] 6

/-- java/lang/constant/Constable -/
def k5 : Class := { plain "java/lang/constant/Constable" (some 0) with
  accessFlags := 1537
  interfaces := #[]
  cf := some (fileOf pool5 1 #[] #[] 1537 3 #[] #[])
  fields := #[]
  methods := #[]
  instanceTypes := #[]
  staticTypes := #[]
  resolved := Array.replicate 11 none
  statics := none }

def pool6 : Array CpInfo := pool [(1, .class_ 2), (0, u "java/lang/constant/ConstantDesc"), (0, .class_ 4), (0, u "java/lang/Object")] 32

/-- java/lang/constant/ConstantDesc -/
def k6 : Class := { plain "java/lang/constant/ConstantDesc" (some 0) with
  accessFlags := 1537
  interfaces := #[]
  cf := some (fileOf pool6 1 #[] #[] 1537 3 #[] #[])
  fields := #[]
  methods := #[]
  instanceTypes := #[]
  staticTypes := #[]
  resolved := Array.replicate 37 none
  statics := none }

def pool7 : Array CpInfo := pool [(1, .methodref 2 3), (0, .class_ 4), (0, .nameAndType 5 6), (0, u "java/lang/Object"), (0, u "<init>"), (0, u "()V"), (0, .string 8), (0, u ""), (0, .fieldref 10 11), (0, .class_ 12), (0, .nameAndType 13 14), (0, u "java/lang/String"), (0, u "value"), (0, u "[B"), (0, .fieldref 10 16), (0, .nameAndType 17 18), (0, u "coder"), (0, u "B"), (2, u "hash"), (0, u "I"), (2, u "hashIsZero"), (0, u "Z"), (0, .methodref 10 28), (0, .nameAndType 5 29), (0, u "([CIILjava/lang/Void;)V"), (8, .fieldref 10 39), (0, .nameAndType 40 26), (0, u "COMPACT_STRINGS"), (1, .class_ 44), (1, u "java/lang/StringUTF16"), (0, u "compress"), (1, .methodref 42 48), (0, .nameAndType 49 50), (0, u "coderFromArrayLen"), (0, u "([BI)B"), (56, .class_ 109), (1, u "java/lang/StringLatin1"), (32, u "()Z"), (34, .methodref 42 178), (0, .nameAndType 45 179), (0, u "([CII)[B"), (154, u "()I"), (0, .methodref 10 336), (0, .nameAndType 17 337), (0, u "()B"), (25, u "([BI)C"), (27, u "(II)V"), (35, u "(I)C"), (64, .methodref 10 493), (0, .nameAndType 494 142), (0, u "isLatin1"), (0, .methodref 107 496), (0, .nameAndType 497 363), (0, u "charAt"), (3, u "checkIndex"), (5, u "length"), (67, .class_ 576), (0, u "java/lang/CharSequence"), (22, u "CASE_INSENSITIVE_ORDER"), (0, u "Ljava/util/Comparator;"), (409, u "([C)V"), (42, .fieldref 1054 1055), (0, .class_ 1056), (0, .nameAndType 1057 1058), (0, u "jdk/internal/util/Preconditions"), (0, u "SIOOBE_FORMATTER"), (0, u "Ljava/util/function/BiFunction;"), (0, .methodref 1054 1060), (0, .nameAndType 501 1061), (0, u "(IILjava/util/function/BiFunction;)I"), (39, u "serialPersistentFields"), (0, u "[Ljava/io/ObjectStreamField;"), (0, .class_ 1104), (0, u "java/lang/String$CaseInsensitiveComparator"), (1, .class_ 1107), (0, u "java/io/Serializable"), (0, .class_ 1109), (0, u "java/lang/Comparable"), (0, .class_ 1111), (0, u "java/lang/constant/Constable"), (0, .class_ 1113), (0, u "java/lang/constant/ConstantDesc"), (2, u "serialVersionUID"), (0, u "J"), (3, u "REPL"), (0, u "C"), (2, u "LATIN1"), (1, u "UTF16")] 323

def k7m0 : Method := { name := "<init>", desc := "()V", sig := { parameters := [], returnType := none }, accessFlags := 1, code := none }
def k7c1 : Code := { maxStack := 5, maxLocals := 2, code := jdk_42_method_3_code, exceptionTable := #[], attributes := #[] }
def k7m1 : Method := { name := "<init>", desc := "([C)V", sig := { parameters := [(.array .char)], returnType := none }, accessFlags := 1, code := some k7c1 }
def k7c2 : Code := { maxStack := 2, maxLocals := 1, code := jdk_42_method_54_code, exceptionTable := #[], attributes := #[] }
def k7m2 : Method := { name := "length", desc := "()I", sig := { parameters := [], returnType := some .int }, accessFlags := 1, code := some k7c2 }
def k7c3 : Code := { maxStack := 2, maxLocals := 2, code := jdk_42_method_56_code, exceptionTable := #[], attributes := #[] }
def k7m3 : Method := { name := "charAt", desc := "(I)C", sig := { parameters := [.int], returnType := some .char }, accessFlags := 1, code := some k7c3 }
def k7c4 : Code := { maxStack := 4, maxLocals := 6, code := jdk_42_method_149_code, exceptionTable := #[], attributes := #[] }
def k7m4 : Method := { name := "<init>", desc := "([CIILjava/lang/Void;)V", sig := { parameters := [(.array .char), .int, .int, (.object "java/lang/Void")], returnType := none }, accessFlags := 2, code := some k7c4 }
def k7c5 : Code := { maxStack := 1, maxLocals := 1, code := jdk_42_method_152_code, exceptionTable := #[], attributes := #[] }
def k7m5 : Method := { name := "coder", desc := "()B", sig := { parameters := [], returnType := some .byte }, accessFlags := 0, code := some k7c5 }
def k7c6 : Code := { maxStack := 1, maxLocals := 1, code := jdk_42_method_154_code, exceptionTable := #[], attributes := #[] }
def k7m6 : Method := { name := "isLatin1", desc := "()Z", sig := { parameters := [], returnType := some .boolean }, accessFlags := 0, code := some k7c6 }
def k7c7 : Code := { maxStack := 3, maxLocals := 2, code := jdk_42_method_155_code, exceptionTable := #[], attributes := #[] }
def k7m7 : Method := { name := "checkIndex", desc := "(II)V", sig := { parameters := [.int, .int], returnType := none }, accessFlags := 8, code := some k7c7 }
/-- java/lang/String -/
def k7 : Class := { plain "java/lang/String" (some 0) with
  accessFlags := 49
  interfaces := #[2, 3, 4, 5, 6]
  cf := some (fileOf pool7 10 #[.nestMembers #[1103]] #[{ accessFlags := 1, nameIndex := 5, descriptorIndex := 6, attributes := #[] }, { accessFlags := 1, nameIndex := 5, descriptorIndex := 1010, attributes := #[] }, { accessFlags := 1, nameIndex := 507, descriptorIndex := 334, attributes := #[] }, { accessFlags := 1, nameIndex := 497, descriptorIndex := 427, attributes := #[] }, { accessFlags := 2, nameIndex := 5, descriptorIndex := 29, attributes := #[] }, { accessFlags := 0, nameIndex := 17, descriptorIndex := 337, attributes := #[] }, { accessFlags := 0, nameIndex := 494, descriptorIndex := 142, attributes := #[] }, { accessFlags := 8, nameIndex := 501, descriptorIndex := 391, attributes := #[] }] 49 2 #[1106, 1108, 575, 1110, 1112] #[{ accessFlags := 18, nameIndex := 13, descriptorIndex := 14, attributes := #[] }, { accessFlags := 18, nameIndex := 17, descriptorIndex := 18, attributes := #[] }, { accessFlags := 2, nameIndex := 21, descriptorIndex := 22, attributes := #[] }, { accessFlags := 2, nameIndex := 25, descriptorIndex := 26, attributes := #[] }, { accessFlags := 26, nameIndex := 1116, descriptorIndex := 1117, attributes := #[] }, { accessFlags := 24, nameIndex := 40, descriptorIndex := 26, attributes := #[] }, { accessFlags := 26, nameIndex := 1101, descriptorIndex := 1102, attributes := #[] }, { accessFlags := 26, nameIndex := 1121, descriptorIndex := 1122, attributes := #[] }, { accessFlags := 25, nameIndex := 599, descriptorIndex := 600, attributes := #[] }, { accessFlags := 24, nameIndex := 1125, descriptorIndex := 18, attributes := #[] }, { accessFlags := 24, nameIndex := 1127, descriptorIndex := 18, attributes := #[] }])
  fields := #[{ name := "value", type := (.array .byte), accessFlags := 18, slot := 0, constantValue := 0 }, { name := "coder", type := .byte, accessFlags := 18, slot := 1, constantValue := 0 }, { name := "hash", type := .int, accessFlags := 2, slot := 2, constantValue := 0 }, { name := "hashIsZero", type := .boolean, accessFlags := 2, slot := 3, constantValue := 0 }, { name := "serialVersionUID", type := .long, accessFlags := 26, slot := 0, constantValue := 0 }, { name := "COMPACT_STRINGS", type := .boolean, accessFlags := 24, slot := 1, constantValue := 0 }, { name := "serialPersistentFields", type := (.array (.object "java/io/ObjectStreamField")), accessFlags := 26, slot := 2, constantValue := 0 }, { name := "REPL", type := .char, accessFlags := 26, slot := 3, constantValue := 0 }, { name := "CASE_INSENSITIVE_ORDER", type := (.object "java/util/Comparator"), accessFlags := 25, slot := 4, constantValue := 0 }, { name := "LATIN1", type := .byte, accessFlags := 24, slot := 5, constantValue := 0 }, { name := "UTF16", type := .byte, accessFlags := 24, slot := 6, constantValue := 0 }]
  methods := #[k7m0, k7m1, k7m2, k7m3, k7m4, k7m5, k7m6, k7m7]
  instanceTypes := #[(.array .byte), .byte, .int, .boolean]
  staticTypes := #[.long, .boolean, (.array (.object "java/io/ObjectStreamField")), .char, (.object "java/util/Comparator"), .byte, .byte]
  resolved := Array.replicate 1451 none
  statics := some 0 }

def pool8 : Array CpInfo := pool [(1, .methodref 2 3), (0, .class_ 4), (0, .nameAndType 5 6), (0, u "java/lang/Object"), (0, u "<init>"), (0, u "()V"), (0, .fieldref 8 9), (0, .class_ 10), (0, .nameAndType 11 12), (0, u "com/example/pathloom/pathloom/web/MediaType$Reader"), (0, u "text"), (0, u "Ljava/lang/String;"), (0, .fieldref 8 14), (0, .nameAndType 15 16), (0, u "position"), (0, u "I"), (0, .methodref 18 19), (0, .class_ 20), (0, .nameAndType 21 22), (0, u "java/lang/String"), (0, u "length"), (0, u "()I"), (0, .methodref 8 24), (0, .nameAndType 25 26), (0, u "atEnd"), (0, u "()Z"), (0, .methodref 18 28), (0, .nameAndType 29 30), (0, u "charAt"), (0, u "(I)C"), (0, .methodref 8 32), (0, .nameAndType 33 34), (0, u "at"), (0, u "(C)Z"), (11, u "take"), (14, u "(Ljava/lang/String;)V"), (9, .class_ 72), (0, u "com/example/pathloom/pathloom/web/MediaType")] 2

def k8c0 : Code := { maxStack := 2, maxLocals := 2, code := prog_35_method_1_code, exceptionTable := #[], attributes := #[] }
def k8m0 : Method := { name := "<init>", desc := "(Ljava/lang/String;)V", sig := { parameters := [(.object "java/lang/String")], returnType := none }, accessFlags := 0, code := some k8c0 }
def k8c1 : Code := { maxStack := 2, maxLocals := 1, code := prog_35_method_2_code, exceptionTable := #[], attributes := #[] }
def k8m1 : Method := { name := "atEnd", desc := "()Z", sig := { parameters := [], returnType := some .boolean }, accessFlags := 0, code := some k8c1 }
def k8c2 : Code := { maxStack := 2, maxLocals := 2, code := prog_35_method_4_code, exceptionTable := #[], attributes := #[] }
def k8m2 : Method := { name := "at", desc := "(C)Z", sig := { parameters := [.char], returnType := some .boolean }, accessFlags := 0, code := some k8c2 }
def k8c3 : Code := { maxStack := 3, maxLocals := 3, code := prog_35_method_5_code, exceptionTable := #[], attributes := #[] }
def k8m3 : Method := { name := "take", desc := "(C)Z", sig := { parameters := [.char], returnType := some .boolean }, accessFlags := 0, code := some k8c3 }
/-- com/example/pathloom/pathloom/web/MediaType$Reader -/
def k8 : Class := { plain "com/example/pathloom/pathloom/web/MediaType$Reader" (some 0) with
  accessFlags := 48
  interfaces := #[]
  cf := some (fileOf pool8 8 #[.nestHost 71] #[{ accessFlags := 0, nameIndex := 5, descriptorIndex := 61, attributes := #[] }, { accessFlags := 0, nameIndex := 25, descriptorIndex := 26, attributes := #[] }, { accessFlags := 0, nameIndex := 33, descriptorIndex := 34, attributes := #[] }, { accessFlags := 0, nameIndex := 46, descriptorIndex := 34, attributes := #[] }] 48 2 #[] #[{ accessFlags := 18, nameIndex := 11, descriptorIndex := 12, attributes := #[] }, { accessFlags := 2, nameIndex := 15, descriptorIndex := 16, attributes := #[] }])
  fields := #[{ name := "text", type := (.object "java/lang/String"), accessFlags := 18, slot := 0, constantValue := 0 }, { name := "position", type := .int, accessFlags := 2, slot := 1, constantValue := 0 }]
  methods := #[k8m0, k8m1, k8m2, k8m3]
  instanceTypes := #[(.object "java/lang/String"), .int]
  staticTypes := #[]
  resolved := Array.replicate 75 none
  statics := none }

def pool9 : Array CpInfo := pool [(1, .class_ 2), (0, u "java/lang/Math"), (1, .class_ 6), (1, u "java/lang/Object"), (0, u "<init>"), (0, u "()V"), (89, .class_ 100), (1, u "java/lang/Math$RandomNumberGeneratorHolder"), (71, u "negativeZeroFloatBits"), (0, u "J"), (2, u "negativeZeroDoubleBits"), (24, u "min"), (43, u "$assertionsDisabled"), (0, u "Z"), (88, u "(II)I"), (2, u "twoToTheDoubleScaleDown"), (0, u "D"), (4, u "twoToTheDoubleScaleUp"), (9, u "E"), (3, u "PI"), (2, u "TAU"), (2, u "DEGREES_TO_RADIANS"), (0, u "RADIANS_TO_DEGREES")] 94

def k9m0 : Method := { name := "<init>", desc := "()V", sig := { parameters := [], returnType := none }, accessFlags := 2, code := none }
def k9c1 : Code := { maxStack := 2, maxLocals := 2, code := jdk_29_method_69_code, exceptionTable := #[], attributes := #[] }
def k9m1 : Method := { name := "min", desc := "(II)I", sig := { parameters := [.int, .int], returnType := some .int }, accessFlags := 9, code := some k9c1 }
/-- java/lang/Math -/
def k9 : Class := { plain "java/lang/Math" (some 0) with
  accessFlags := 49
  interfaces := #[]
  cf := some (fileOf pool9 1 #[.nestMembers #[98]] #[{ accessFlags := 2, nameIndex := 7, descriptorIndex := 8, attributes := #[] }, { accessFlags := 9, nameIndex := 201, descriptorIndex := 335, attributes := #[] }] 49 4 #[] #[{ accessFlags := 25, nameIndex := 354, descriptorIndex := 339, attributes := #[] }, { accessFlags := 25, nameIndex := 358, descriptorIndex := 339, attributes := #[] }, { accessFlags := 25, nameIndex := 361, descriptorIndex := 339, attributes := #[] }, { accessFlags := 26, nameIndex := 364, descriptorIndex := 339, attributes := #[] }, { accessFlags := 26, nameIndex := 365, descriptorIndex := 339, attributes := #[] }, { accessFlags := 26, nameIndex := 172, descriptorIndex := 173, attributes := #[] }, { accessFlags := 26, nameIndex := 176, descriptorIndex := 173, attributes := #[] }, { accessFlags := 8, nameIndex := 344, descriptorIndex := 339, attributes := #[] }, { accessFlags := 8, nameIndex := 338, descriptorIndex := 339, attributes := #[] }, { accessFlags := 4120, nameIndex := 245, descriptorIndex := 246, attributes := #[] }])
  fields := #[{ name := "E", type := .double, accessFlags := 25, slot := 0, constantValue := 0 }, { name := "PI", type := .double, accessFlags := 25, slot := 1, constantValue := 0 }, { name := "TAU", type := .double, accessFlags := 25, slot := 2, constantValue := 0 }, { name := "DEGREES_TO_RADIANS", type := .double, accessFlags := 26, slot := 3, constantValue := 0 }, { name := "RADIANS_TO_DEGREES", type := .double, accessFlags := 26, slot := 4, constantValue := 0 }, { name := "negativeZeroFloatBits", type := .long, accessFlags := 26, slot := 5, constantValue := 0 }, { name := "negativeZeroDoubleBits", type := .long, accessFlags := 26, slot := 6, constantValue := 0 }, { name := "twoToTheDoubleScaleUp", type := .double, accessFlags := 8, slot := 7, constantValue := 0 }, { name := "twoToTheDoubleScaleDown", type := .double, accessFlags := 8, slot := 8, constantValue := 0 }, { name := "$assertionsDisabled", type := .boolean, accessFlags := 4120, slot := 9, constantValue := 0 }]
  methods := #[k9m0, k9m1]
  instanceTypes := #[]
  staticTypes := #[.double, .double, .double, .double, .double, .long, .long, .double, .double, .boolean]
  resolved := Array.replicate 460 none
  statics := none }

def pool10 : Array CpInfo := pool [(6, .class_ 8), (1, u "java/lang/Object"), (0, u "<init>"), (0, u "()V"), (1, .class_ 14), (1, u "java/lang/StringUTF16"), (31, u "$assertionsDisabled"), (0, u "Z"), (13, u "HI_BYTE_SHIFT"), (0, u "I"), (2, u "LO_BYTE_SHIFT"), (49, .methodref 12 116), (0, .nameAndType 117 118), (0, u "compress"), (0, u "([CI[BII)I"), (3, u "([CII)[B"), (138, u "coderFromArrayLen"), (0, u "([BI)B"), (106, .class_ 371), (1, u "java/lang/StringUTF16$LinesSpliterator"), (58, u "MAX_LENGTH"), (196, .class_ 628), (0, u "java/lang/StringUTF16$CodePointsSpliterator"), (0, .class_ 630), (0, u "java/lang/StringUTF16$CharsSpliterator")] 4

def k10m0 : Method := { name := "<init>", desc := "()V", sig := { parameters := [], returnType := none }, accessFlags := 0, code := none }
def k10c1 : Code := { maxStack := 2, maxLocals := 2, code := jdk_52_method_15_code, exceptionTable := #[], attributes := #[] }
def k10m1 : Method := { name := "coderFromArrayLen", desc := "([BI)B", sig := { parameters := [(.array .byte), .int], returnType := some .byte }, accessFlags := 8, code := some k10c1 }
def k10c2 : Code := { maxStack := 5, maxLocals := 6, code := jdk_52_method_16_code, exceptionTable := #[], attributes := #[] }
def k10m2 : Method := { name := "compress", desc := "([CII)[B", sig := { parameters := [(.array .char), .int, .int], returnType := some (.array .byte) }, accessFlags := 9, code := some k10c2 }
def k10c3 : Code := { maxStack := 3, maxLocals := 7, code := jdk_52_method_21_code, exceptionTable := #[], attributes := #[] }
def k10m3 : Method := { name := "compress", desc := "([CI[BII)I", sig := { parameters := [(.array .char), .int, (.array .byte), .int, .int], returnType := some .int }, accessFlags := 9, code := some k10c3 }
/-- java/lang/StringUTF16 -/
def k10 : Class := { plain "java/lang/StringUTF16" (some 0) with
  accessFlags := 48
  interfaces := #[]
  cf := some (fileOf pool10 12 #[.nestMembers #[627, 629, 369]] #[{ accessFlags := 0, nameIndex := 9, descriptorIndex := 10, attributes := #[] }, { accessFlags := 8, nameIndex := 261, descriptorIndex := 262, attributes := #[] }, { accessFlags := 9, nameIndex := 117, descriptorIndex := 122, attributes := #[] }, { accessFlags := 9, nameIndex := 117, descriptorIndex := 118, attributes := #[] }] 48 6 #[] #[{ accessFlags := 26, nameIndex := 61, descriptorIndex := 62, attributes := #[] }, { accessFlags := 26, nameIndex := 65, descriptorIndex := 62, attributes := #[] }, { accessFlags := 24, nameIndex := 430, descriptorIndex := 62, attributes := #[] }, { accessFlags := 4120, nameIndex := 46, descriptorIndex := 47, attributes := #[] }])
  fields := #[{ name := "HI_BYTE_SHIFT", type := .int, accessFlags := 26, slot := 0, constantValue := 0 }, { name := "LO_BYTE_SHIFT", type := .int, accessFlags := 26, slot := 1, constantValue := 0 }, { name := "MAX_LENGTH", type := .int, accessFlags := 24, slot := 2, constantValue := 0 }, { name := "$assertionsDisabled", type := .boolean, accessFlags := 4120, slot := 3, constantValue := 0 }]
  methods := #[k10m0, k10m1, k10m2, k10m3]
  instanceTypes := #[]
  staticTypes := #[.int, .int, .int, .boolean]
  resolved := Array.replicate 635 none
  statics := none }

def pool11 : Array CpInfo := pool [(1, .class_ 2), (0, u "java/lang/String"), (1, .class_ 6), (1, u "java/lang/Object"), (0, u "<init>"), (0, u "()V"), (0, .methodref 1 10), (0, .nameAndType 11 12), (0, u "checkIndex"), (0, u "(II)V"), (1, .class_ 16), (1, u "java/lang/StringLatin1"), (36, u "([BI)C"), (67, u "$assertionsDisabled"), (0, u "Z"), (98, .class_ 223), (1, u "java/lang/StringLatin1$LinesSpliterator"), (28, u "charAt"), (137, .class_ 391), (0, u "java/lang/StringLatin1$CharsSpliterator")] 3

def k11m0 : Method := { name := "<init>", desc := "()V", sig := { parameters := [], returnType := none }, accessFlags := 0, code := none }
def k11c1 : Code := { maxStack := 2, maxLocals := 2, code := jdk_43_method_2_code, exceptionTable := #[], attributes := #[] }
def k11m1 : Method := { name := "charAt", desc := "([BI)C", sig := { parameters := [(.array .byte), .int], returnType := some .char }, accessFlags := 9, code := some k11c1 }
/-- java/lang/StringLatin1 -/
def k11 : Class := { plain "java/lang/StringLatin1" (some 0) with
  accessFlags := 48
  interfaces := #[]
  cf := some (fileOf pool11 14 #[.nestMembers #[390, 221]] #[{ accessFlags := 0, nameIndex := 7, descriptorIndex := 8, attributes := #[] }, { accessFlags := 9, nameIndex := 252, descriptorIndex := 53, attributes := #[] }] 48 4 #[] #[{ accessFlags := 4120, nameIndex := 121, descriptorIndex := 122, attributes := #[] }])
  fields := #[{ name := "$assertionsDisabled", type := .boolean, accessFlags := 4120, slot := 0, constantValue := 0 }]
  methods := #[k11m0, k11m1]
  instanceTypes := #[]
  staticTypes := #[.boolean]
  resolved := Array.replicate 395 none
  statics := none }

def pool12 : Array CpInfo := pool [(2, .class_ 4), (1, u "java/lang/Object"), (0, u "<init>"), (0, u "()V"), (17, .class_ 26), (1, u "jdk/internal/util/Preconditions"), (6, u "checkIndex"), (21, .class_ 56), (0, u "jdk/internal/util/Preconditions$4"), (57, .class_ 115), (0, u "jdk/internal/util/Preconditions$1"), (7, u "SIOOBE_FORMATTER"), (0, u "Ljava/util/function/BiFunction;"), (0, .class_ 126), (0, u "jdk/internal/util/Preconditions$2"), (3, u "AIOOBE_FORMATTER"), (0, .class_ 132), (0, u "jdk/internal/util/Preconditions$3"), (3, u "IOOBE_FORMATTER"), (41, u "(IILjava/util/function/BiFunction;)I")] 15

def k12m0 : Method := { name := "<init>", desc := "()V", sig := { parameters := [], returnType := none }, accessFlags := 1, code := none }
def k12c1 : Code := { maxStack := 3, maxLocals := 3, code := jdk_41_method_11_code, exceptionTable := #[], attributes := #[] }
def k12m1 : Method := { name := "checkIndex", desc := "(IILjava/util/function/BiFunction;)I", sig := { parameters := [.int, .int, (.object "java/util/function/BiFunction")], returnType := some .int }, accessFlags := 9, code := some k12c1 }
/-- jdk/internal/util/Preconditions -/
def k12 : Class := { plain "jdk/internal/util/Preconditions" (some 0) with
  accessFlags := 33
  interfaces := #[]
  cf := some (fileOf pool12 24 #[.nestMembers #[55, 131, 125, 114]] #[{ accessFlags := 1, nameIndex := 5, descriptorIndex := 6, attributes := #[] }, { accessFlags := 9, nameIndex := 33, descriptorIndex := 178, attributes := #[] }] 33 2 #[] #[{ accessFlags := 25, nameIndex := 123, descriptorIndex := 124, attributes := #[] }, { accessFlags := 25, nameIndex := 130, descriptorIndex := 124, attributes := #[] }, { accessFlags := 25, nameIndex := 136, descriptorIndex := 124, attributes := #[] }])
  fields := #[{ name := "SIOOBE_FORMATTER", type := (.object "java/util/function/BiFunction"), accessFlags := 25, slot := 0, constantValue := 0 }, { name := "AIOOBE_FORMATTER", type := (.object "java/util/function/BiFunction"), accessFlags := 25, slot := 1, constantValue := 0 }, { name := "IOOBE_FORMATTER", type := (.object "java/util/function/BiFunction"), accessFlags := 25, slot := 2, constantValue := 0 }]
  methods := #[k12m0, k12m1]
  instanceTypes := #[]
  staticTypes := #[(.object "java/util/function/BiFunction"), (.object "java/util/function/BiFunction"), (.object "java/util/function/BiFunction")]
  resolved := Array.replicate 194 none
  statics := some 1 }

def pool13 : Array CpInfo := pool [(9, u "<init>"), (6, .class_ 18), (1, u "java/lang/Object"), (0, u "()V"), (1, .class_ 23), (1, u "jdk/internal/util/ArraysSupport"), (0, u "LOG2_ARRAY_LONG_INDEX_SCALE"), (0, u "I"), (2, u "U"), (0, u "Ljdk/internal/misc/Unsafe;"), (8, u "BIG_ENDIAN"), (0, u "Z"), (8, u "LOG2_BYTE_BIT_SIZE"), (4, u "LOG2_ARRAY_INT_INDEX_SCALE"), (54, u "JLA"), (0, u "Ljdk/internal/access/JavaLangAccess;"), (11, u "LOG2_ARRAY_BOOLEAN_INDEX_SCALE"), (9, u "LOG2_ARRAY_BYTE_INDEX_SCALE"), (5, u "LOG2_ARRAY_CHAR_INDEX_SCALE"), (5, u "LOG2_ARRAY_SHORT_INDEX_SCALE"), (18, u "LOG2_ARRAY_FLOAT_INDEX_SCALE"), (24, u "LOG2_ARRAY_DOUBLE_INDEX_SCALE"), (89, u "T_BOOLEAN"), (2, u "T_CHAR"), (1, u "T_FLOAT"), (1, u "T_DOUBLE"), (1, u "T_BYTE"), (1, u "T_SHORT"), (1, u "T_INT"), (1, u "T_LONG"), (1, u "SOFT_MAX_ARRAY_LENGTH")] 83

def k13m0 : Method := { name := "<init>", desc := "()V", sig := { parameters := [], returnType := none }, accessFlags := 2, code := none }
/-- jdk/internal/util/ArraysSupport -/
def k13 : Class := { plain "jdk/internal/util/ArraysSupport" (some 0) with
  accessFlags := 33
  interfaces := #[]
  cf := some (fileOf pool13 21 #[] #[{ accessFlags := 2, nameIndex := 9, descriptorIndex := 19, attributes := #[] }] 33 16 #[] #[{ accessFlags := 24, nameIndex := 28, descriptorIndex := 29, attributes := #[] }, { accessFlags := 26, nameIndex := 38, descriptorIndex := 39, attributes := #[] }, { accessFlags := 25, nameIndex := 121, descriptorIndex := 25, attributes := #[] }, { accessFlags := 25, nameIndex := 131, descriptorIndex := 25, attributes := #[] }, { accessFlags := 25, nameIndex := 137, descriptorIndex := 25, attributes := #[] }, { accessFlags := 25, nameIndex := 143, descriptorIndex := 25, attributes := #[] }, { accessFlags := 25, nameIndex := 53, descriptorIndex := 25, attributes := #[] }, { accessFlags := 25, nameIndex := 24, descriptorIndex := 25, attributes := #[] }, { accessFlags := 25, nameIndex := 162, descriptorIndex := 25, attributes := #[] }, { accessFlags := 25, nameIndex := 187, descriptorIndex := 25, attributes := #[] }, { accessFlags := 26, nameIndex := 48, descriptorIndex := 25, attributes := #[] }, { accessFlags := 25, nameIndex := 277, descriptorIndex := 25, attributes := #[] }, { accessFlags := 25, nameIndex := 280, descriptorIndex := 25, attributes := #[] }, { accessFlags := 25, nameIndex := 282, descriptorIndex := 25, attributes := #[] }, { accessFlags := 25, nameIndex := 284, descriptorIndex := 25, attributes := #[] }, { accessFlags := 25, nameIndex := 286, descriptorIndex := 25, attributes := #[] }, { accessFlags := 25, nameIndex := 288, descriptorIndex := 25, attributes := #[] }, { accessFlags := 25, nameIndex := 290, descriptorIndex := 25, attributes := #[] }, { accessFlags := 25, nameIndex := 292, descriptorIndex := 25, attributes := #[] }, { accessFlags := 26, nameIndex := 108, descriptorIndex := 109, attributes := #[] }, { accessFlags := 25, nameIndex := 294, descriptorIndex := 25, attributes := #[] }])
  fields := #[{ name := "U", type := (.object "jdk/internal/misc/Unsafe"), accessFlags := 24, slot := 0, constantValue := 0 }, { name := "BIG_ENDIAN", type := .boolean, accessFlags := 26, slot := 1, constantValue := 0 }, { name := "LOG2_ARRAY_BOOLEAN_INDEX_SCALE", type := .int, accessFlags := 25, slot := 2, constantValue := 0 }, { name := "LOG2_ARRAY_BYTE_INDEX_SCALE", type := .int, accessFlags := 25, slot := 3, constantValue := 0 }, { name := "LOG2_ARRAY_CHAR_INDEX_SCALE", type := .int, accessFlags := 25, slot := 4, constantValue := 0 }, { name := "LOG2_ARRAY_SHORT_INDEX_SCALE", type := .int, accessFlags := 25, slot := 5, constantValue := 0 }, { name := "LOG2_ARRAY_INT_INDEX_SCALE", type := .int, accessFlags := 25, slot := 6, constantValue := 0 }, { name := "LOG2_ARRAY_LONG_INDEX_SCALE", type := .int, accessFlags := 25, slot := 7, constantValue := 0 }, { name := "LOG2_ARRAY_FLOAT_INDEX_SCALE", type := .int, accessFlags := 25, slot := 8, constantValue := 0 }, { name := "LOG2_ARRAY_DOUBLE_INDEX_SCALE", type := .int, accessFlags := 25, slot := 9, constantValue := 0 }, { name := "LOG2_BYTE_BIT_SIZE", type := .int, accessFlags := 26, slot := 10, constantValue := 0 }, { name := "T_BOOLEAN", type := .int, accessFlags := 25, slot := 11, constantValue := 0 }, { name := "T_CHAR", type := .int, accessFlags := 25, slot := 12, constantValue := 0 }, { name := "T_FLOAT", type := .int, accessFlags := 25, slot := 13, constantValue := 0 }, { name := "T_DOUBLE", type := .int, accessFlags := 25, slot := 14, constantValue := 0 }, { name := "T_BYTE", type := .int, accessFlags := 25, slot := 15, constantValue := 0 }, { name := "T_SHORT", type := .int, accessFlags := 25, slot := 16, constantValue := 0 }, { name := "T_INT", type := .int, accessFlags := 25, slot := 17, constantValue := 0 }, { name := "T_LONG", type := .int, accessFlags := 25, slot := 18, constantValue := 0 }, { name := "JLA", type := (.object "jdk/internal/access/JavaLangAccess"), accessFlags := 26, slot := 19, constantValue := 0 }, { name := "SOFT_MAX_ARRAY_LENGTH", type := .int, accessFlags := 25, slot := 20, constantValue := 0 }]
  methods := #[k13m0]
  instanceTypes := #[]
  staticTypes := #[(.object "jdk/internal/misc/Unsafe"), .boolean, .int, .int, .int, .int, .int, .int, .int, .int, .int, .int, .int, .int, .int, .int, .int, .int, .int, (.object "jdk/internal/access/JavaLangAccess"), .int]
  resolved := Array.replicate 378 none
  statics := none }

def pool14 : Array CpInfo := pool [(1, u "java/lang/Cloneable"), (0, .class_ 1), (0, u "java/lang/Object"), (0, .class_ 3)] 3

/-- java/lang/Cloneable -/
def k14 : Class := { plain "java/lang/Cloneable" (some 0) with
  accessFlags := 1537
  interfaces := #[]
  cf := some (fileOf pool14 2 #[] #[] 1537 4 #[] #[])
  fields := #[]
  methods := #[]
  instanceTypes := #[]
  staticTypes := #[]
  resolved := Array.replicate 8 none
  statics := none }

/-- the primitive byte -/
def k15 : Class := { plain "byte" none with kind := .primitive 'B', accessFlags := 0x411 }
/-- [B -/
def k16 : Class := { plain "[B" (some 0) with kind := .array 15 .byte, interfaces := #[14, 2], accessFlags := 1041 }

/-- the primitive char -/
def k17 : Class := { plain "char" none with kind := .primitive 'C', accessFlags := 0x411 }
/-- [C -/
def k18 : Class := { plain "[C" (some 0) with kind := .array 17 .char, interfaces := #[14, 2], accessFlags := 1041 }

/-- the primitive int -/
def k19 : Class := { plain "int" none with kind := .primitive 'I', accessFlags := 0x411 }
/-- [I -/
def k20 : Class := { plain "[I" (some 0) with kind := .array 19 .int, interfaces := #[14, 2], accessFlags := 1041 }

def heap : Heap := #[{ cls := 7, slots := #[.long 0, .int 1, .null, .int 0, .null, .int 0, .int 0], vm := .statics 7 },
  { cls := 12, slots := #[.null, .null, .null], vm := .statics 12 }]
def classes : Array Class := #[k0, k1, k2, k3, k4, k5, k6, k7, k8, k9, k10, k11, k12, k13, k14, k15, k16, k17, k18, k19, k20]
def interned : List (Array UInt16 × Addr) := []
def slotsUsed : Nat := 10
def theMethod : MethodId := ⟨1, 1⟩
def args0 : Array Value := #[.int 5, .int 1, .int 3, .int 4]
def aboutOver (below : List Frame) : State where
  vm := { classes := classes, interned := interned.toArray }
  heap := heap
  slotsUsed := slotsUsed
  threads := #[{ frames := .invoking theMethod args0 :: below }]
def below0 : List Frame := [.native { method := ⟨0, 0⟩, args := #[] }]
def about1 : State := aboutOver below0
def p0 : Program := .bare "" "" ""
def e0 : Env := launch0.env 0 0 0
theorem w_frames : about1.frames = Frame.invoking theMethod args0 :: below0 := rfl
set_option maxRecDepth 65536 in
theorem w_args : argsFit about1.vm theMethod args0 = true := by decide +kernel
set_option maxRecDepth 65536 in
theorem w_heap : heapFits about1 = true := by decide +kernel
set_option maxRecDepth 65536 in
theorem w_runnable : about1.curStatus? = some .runnable := by decide +kernel
set_option maxRecDepth 65536 in
theorem w_alone : about1.alone = true := by decide +kernel
set_option maxRecDepth 65536 in
theorem w_named : about1.methodNamed? x = some theMethod := by decide +kernel
set_option maxRecDepth 65536 in
theorem w_hears : about1.hears theMethod below0 = true := by decide +kernel
set_option maxRecDepth 65536 in
theorem w_ripe : about1.ripe theMethod args0 below0 = true := by decide +kernel
theorem w_running : about1.status = .running := rfl
set_option maxRecDepth 65536 in
theorem w_room : about1.hasRoom e0.platform room_1 = true :=
  launch0.hasRoom_least _ room_1 (by decide +kernel) (by decide +kernel) (by decide +kernel) (by decide +kernel) (by decide +kernel) (by decide +kernel)
theorem allAtoms_all (ts : List Jvm.Cond) (a : Array Jvm.Value) (st : Jvm.State) : (allAtoms ts).before a st = ts.all (fun c => c.before a st) := by
  induction ts with
  | nil => rfl
  | cons c t ih =>
    show (Jvm.Cond.and c (allAtoms t)).before a st = _
    rw [Jvm.Cond.before_and, ih, List.all_cons]
def words1 : List Jvm.Cond := Jvm.Cond.code x code maxLocals ret :: tables_1
/-- a 'code' word, met by the world's own term for the bytes: nothing is compared byte by byte -/
theorem code_word {y : MethodName} {bytes : ByteArray} {mx : Nat} {rt : Option FieldType} {a : Array Value} {s : State} {m : MethodId} {meth : Method} {c : Code} (h1 : s.methodNamed? y = some m) (h2 : s.vm.method? m = some meth) (h3 : meth.code = some c) (h4 : c.code = bytes)
    (h5 : (c.maxLocals == mx && c.exceptionTable.isEmpty && decide (c.maxStack ≤ mostOperands) && decide (meth.sig.returnType = rt) && !meth.locks && decide (parseMethodDescriptor y.desc = some meth.sig)) = true) : (Jvm.Cond.code y bytes mx rt).before a s = true := by
  simp only [Bool.and_eq_true, beq_iff_eq, Bool.not_eq_true', decide_eq_true_eq] at h5
  obtain ⟨⟨⟨⟨⟨g1, g2⟩, g3⟩, g4⟩, g5⟩, g6⟩ := h5
  simp [Cond.before, Cond.holds, Cond.value, h1, h2, h3, h4, g1, g2, g3, g4, g5, g6]
def isCode : Jvm.Cond → Bool
  | .code _ _ _ _ => true
  | _ => false
theorem all_split {L : List Jvm.Cond} {P : Jvm.Cond → Bool} (h1 : L.all (fun c => isCode c || P c) = true) (h2 : ∀ c ∈ L.filter isCode, P c = true) : L.all P = true := by
  refine List.all_eq_true.mpr fun c hc => ?_
  have h := List.all_eq_true.mp h1 c hc
  rcases Bool.eq_false_or_eq_true (isCode c) with hi | hi
  · exact h2 c (List.mem_filter.mpr ⟨hc, hi⟩)
  · simpa [hi] using h
set_option maxRecDepth 65536 in
theorem w_c0 : (Jvm.Cond.code x code maxLocals ret).before args0 about1 = true := code_word (m := ⟨1, 1⟩) (meth := k1m1) (c := k1c1) (by decide +kernel) rfl rfl rfl (by decide +kernel)
set_option maxRecDepth 65536 in
theorem w_c1 : (Jvm.Cond.code ({ cls := "com/example/pathloom/pathloom/web/ReaderAtEndPinLaw", name := "text", desc := "(I[C)Ljava/lang/String;" } : Jvm.MethodName) method_3_code (2 : Nat) (Option.some (Jvm.ClassFile.FieldType.object "java/lang/String"))).before args0 about1 = true := code_word (m := ⟨1, 2⟩) (meth := k1m2) (c := k1c2) (by decide +kernel) rfl rfl rfl (by decide +kernel)
set_option maxRecDepth 65536 in
theorem w_c2 : (Jvm.Cond.code ({ cls := "java/lang/String", name := "<init>", desc := "([C)V" } : Jvm.MethodName) jdk_42_method_3_code (2 : Nat) (Option.none : Option Jvm.ClassFile.FieldType)).before args0 about1 = true := code_word (m := ⟨7, 1⟩) (meth := k7m1) (c := k7c1) (by decide +kernel) rfl rfl rfl (by decide +kernel)
set_option maxRecDepth 65536 in
theorem w_c3 : (Jvm.Cond.code ({ cls := "java/lang/String", name := "<init>", desc := "([CIILjava/lang/Void;)V" } : Jvm.MethodName) jdk_42_method_149_code (6 : Nat) (Option.none : Option Jvm.ClassFile.FieldType)).before args0 about1 = true := code_word (m := ⟨7, 4⟩) (meth := k7m4) (c := k7c4) (by decide +kernel) rfl rfl rfl (by decide +kernel)
set_option maxRecDepth 65536 in
theorem w_c4 : (Jvm.Cond.code ({ cls := "java/lang/Object", name := "<init>", desc := "()V" } : Jvm.MethodName) object_method_1_code (1 : Nat) (Option.none : Option Jvm.ClassFile.FieldType)).before args0 about1 = true := code_word (m := ⟨0, 0⟩) (meth := k0m0) (c := k0c0) (by decide +kernel) rfl rfl rfl (by decide +kernel)
set_option maxRecDepth 65536 in
theorem w_c5 : (Jvm.Cond.code ({ cls := "com/example/pathloom/pathloom/web/MediaType$Reader", name := "<init>", desc := "(Ljava/lang/String;)V" } : Jvm.MethodName) prog_35_method_1_code (2 : Nat) (Option.none : Option Jvm.ClassFile.FieldType)).before args0 about1 = true := code_word (m := ⟨8, 0⟩) (meth := k8m0) (c := k8c0) (by decide +kernel) rfl rfl rfl (by decide +kernel)
set_option maxRecDepth 65536 in
theorem w_c6 : (Jvm.Cond.code ({ cls := "com/example/pathloom/pathloom/web/MediaType$Reader", name := "atEnd", desc := "()Z" } : Jvm.MethodName) prog_35_method_2_code (1 : Nat) (Option.some Jvm.ClassFile.FieldType.boolean)).before args0 about1 = true := code_word (m := ⟨8, 1⟩) (meth := k8m1) (c := k8c1) (by decide +kernel) rfl rfl rfl (by decide +kernel)
set_option maxRecDepth 65536 in
theorem w_c7 : (Jvm.Cond.code ({ cls := "java/lang/String", name := "length", desc := "()I" } : Jvm.MethodName) jdk_42_method_54_code (1 : Nat) (Option.some Jvm.ClassFile.FieldType.int)).before args0 about1 = true := code_word (m := ⟨7, 2⟩) (meth := k7m2) (c := k7c2) (by decide +kernel) rfl rfl rfl (by decide +kernel)
set_option maxRecDepth 65536 in
theorem w_c8 : (Jvm.Cond.code ({ cls := "java/lang/String", name := "coder", desc := "()B" } : Jvm.MethodName) jdk_42_method_152_code (1 : Nat) (Option.some Jvm.ClassFile.FieldType.byte)).before args0 about1 = true := code_word (m := ⟨7, 5⟩) (meth := k7m5) (c := k7c5) (by decide +kernel) rfl rfl rfl (by decide +kernel)
set_option maxRecDepth 65536 in
theorem w_c9 : (Jvm.Cond.code ({ cls := "com/example/pathloom/pathloom/web/ReaderAtEndPinLaw", name := "step", desc := "(Lcom/example/pathloom/pathloom/web/MediaType$Reader;II[C)Z" } : Jvm.MethodName) method_4_code (6 : Nat) (Option.some Jvm.ClassFile.FieldType.boolean)).before args0 about1 = true := code_word (m := ⟨1, 3⟩) (meth := k1m3) (c := k1c3) (by decide +kernel) rfl rfl rfl (by decide +kernel)
set_option maxRecDepth 65536 in
theorem w_c10 : (Jvm.Cond.code ({ cls := "com/example/pathloom/pathloom/web/MediaType$Reader", name := "take", desc := "(C)Z" } : Jvm.MethodName) prog_35_method_5_code (3 : Nat) (Option.some Jvm.ClassFile.FieldType.boolean)).before args0 about1 = true := code_word (m := ⟨8, 3⟩) (meth := k8m3) (c := k8c3) (by decide +kernel) rfl rfl rfl (by decide +kernel)
set_option maxRecDepth 65536 in
theorem w_c11 : (Jvm.Cond.code ({ cls := "com/example/pathloom/pathloom/web/MediaType$Reader", name := "at", desc := "(C)Z" } : Jvm.MethodName) prog_35_method_4_code (2 : Nat) (Option.some Jvm.ClassFile.FieldType.boolean)).before args0 about1 = true := code_word (m := ⟨8, 2⟩) (meth := k8m2) (c := k8c2) (by decide +kernel) rfl rfl rfl (by decide +kernel)
set_option maxRecDepth 65536 in
theorem w_c12 : (Jvm.Cond.code ({ cls := "java/lang/Math", name := "min", desc := "(II)I" } : Jvm.MethodName) jdk_29_method_69_code (2 : Nat) (Option.some Jvm.ClassFile.FieldType.int)).before args0 about1 = true := code_word (m := ⟨9, 1⟩) (meth := k9m1) (c := k9c1) (by decide +kernel) rfl rfl rfl (by decide +kernel)
set_option maxRecDepth 65536 in
theorem w_c13 : (Jvm.Cond.code ({ cls := "java/lang/StringUTF16", name := "compress", desc := "([CII)[B" } : Jvm.MethodName) jdk_52_method_16_code (6 : Nat) (Option.some (Jvm.ClassFile.FieldType.array Jvm.ClassFile.FieldType.byte))).before args0 about1 = true := code_word (m := ⟨10, 2⟩) (meth := k10m2) (c := k10c2) (by decide +kernel) rfl rfl rfl (by decide +kernel)
set_option maxRecDepth 65536 in
theorem w_c14 : (Jvm.Cond.code ({ cls := "java/lang/StringUTF16", name := "compress", desc := "([CI[BII)I" } : Jvm.MethodName) jdk_52_method_21_code (7 : Nat) (Option.some Jvm.ClassFile.FieldType.int)).before args0 about1 = true := code_word (m := ⟨10, 3⟩) (meth := k10m3) (c := k10c3) (by decide +kernel) rfl rfl rfl (by decide +kernel)
set_option maxRecDepth 65536 in
theorem w_c15 : (Jvm.Cond.code ({ cls := "java/lang/StringUTF16", name := "coderFromArrayLen", desc := "([BI)B" } : Jvm.MethodName) jdk_52_method_15_code (2 : Nat) (Option.some Jvm.ClassFile.FieldType.byte)).before args0 about1 = true := code_word (m := ⟨10, 1⟩) (meth := k10m1) (c := k10c1) (by decide +kernel) rfl rfl rfl (by decide +kernel)
set_option maxRecDepth 65536 in
theorem w_c16 : (Jvm.Cond.code ({ cls := "java/lang/String", name := "charAt", desc := "(I)C" } : Jvm.MethodName) jdk_42_method_56_code (2 : Nat) (Option.some Jvm.ClassFile.FieldType.char)).before args0 about1 = true := code_word (m := ⟨7, 3⟩) (meth := k7m3) (c := k7c3) (by decide +kernel) rfl rfl rfl (by decide +kernel)
set_option maxRecDepth 65536 in
theorem w_c17 : (Jvm.Cond.code ({ cls := "java/lang/String", name := "isLatin1", desc := "()Z" } : Jvm.MethodName) jdk_42_method_154_code (1 : Nat) (Option.some Jvm.ClassFile.FieldType.boolean)).before args0 about1 = true := code_word (m := ⟨7, 6⟩) (meth := k7m6) (c := k7c6) (by decide +kernel) rfl rfl rfl (by decide +kernel)
set_option maxRecDepth 65536 in
theorem w_c18 : (Jvm.Cond.code ({ cls := "java/lang/StringLatin1", name := "charAt", desc := "([BI)C" } : Jvm.MethodName) jdk_43_method_2_code (2 : Nat) (Option.some Jvm.ClassFile.FieldType.char)).before args0 about1 = true := code_word (m := ⟨11, 1⟩) (meth := k11m1) (c := k11c1) (by decide +kernel) rfl rfl rfl (by decide +kernel)
set_option maxRecDepth 65536 in
theorem w_c19 : (Jvm.Cond.code ({ cls := "java/lang/String", name := "checkIndex", desc := "(II)V" } : Jvm.MethodName) jdk_42_method_155_code (2 : Nat) (Option.none : Option Jvm.ClassFile.FieldType)).before args0 about1 = true := code_word (m := ⟨7, 7⟩) (meth := k7m7) (c := k7c7) (by decide +kernel) rfl rfl rfl (by decide +kernel)
set_option maxRecDepth 65536 in
theorem w_c20 : (Jvm.Cond.code ({ cls := "jdk/internal/util/Preconditions", name := "checkIndex", desc := "(IILjava/util/function/BiFunction;)I" } : Jvm.MethodName) jdk_41_method_11_code (3 : Nat) (Option.some Jvm.ClassFile.FieldType.int)).before args0 about1 = true := code_word (m := ⟨12, 1⟩) (meth := k12m1) (c := k12c1) (by decide +kernel) rfl rfl rfl (by decide +kernel)
def codes1 : List Jvm.Cond := [Jvm.Cond.code x code maxLocals ret, Jvm.Cond.code ({ cls := "com/example/pathloom/pathloom/web/ReaderAtEndPinLaw", name := "text", desc := "(I[C)Ljava/lang/String;" } : Jvm.MethodName) method_3_code (2 : Nat) (Option.some (Jvm.ClassFile.FieldType.object "java/lang/String")), Jvm.Cond.code ({ cls := "java/lang/String", name := "<init>", desc := "([C)V" } : Jvm.MethodName) jdk_42_method_3_code (2 : Nat) (Option.none : Option Jvm.ClassFile.FieldType), Jvm.Cond.code ({ cls := "java/lang/String", name := "<init>", desc := "([CIILjava/lang/Void;)V" } : Jvm.MethodName) jdk_42_method_149_code (6 : Nat) (Option.none : Option Jvm.ClassFile.FieldType), Jvm.Cond.code ({ cls := "java/lang/Object", name := "<init>", desc := "()V" } : Jvm.MethodName) object_method_1_code (1 : Nat) (Option.none : Option Jvm.ClassFile.FieldType), Jvm.Cond.code ({ cls := "com/example/pathloom/pathloom/web/MediaType$Reader", name := "<init>", desc := "(Ljava/lang/String;)V" } : Jvm.MethodName) prog_35_method_1_code (2 : Nat) (Option.none : Option Jvm.ClassFile.FieldType), Jvm.Cond.code ({ cls := "com/example/pathloom/pathloom/web/MediaType$Reader", name := "atEnd", desc := "()Z" } : Jvm.MethodName) prog_35_method_2_code (1 : Nat) (Option.some Jvm.ClassFile.FieldType.boolean), Jvm.Cond.code ({ cls := "java/lang/String", name := "length", desc := "()I" } : Jvm.MethodName) jdk_42_method_54_code (1 : Nat) (Option.some Jvm.ClassFile.FieldType.int), Jvm.Cond.code ({ cls := "java/lang/String", name := "coder", desc := "()B" } : Jvm.MethodName) jdk_42_method_152_code (1 : Nat) (Option.some Jvm.ClassFile.FieldType.byte), Jvm.Cond.code ({ cls := "com/example/pathloom/pathloom/web/ReaderAtEndPinLaw", name := "step", desc := "(Lcom/example/pathloom/pathloom/web/MediaType$Reader;II[C)Z" } : Jvm.MethodName) method_4_code (6 : Nat) (Option.some Jvm.ClassFile.FieldType.boolean), Jvm.Cond.code ({ cls := "com/example/pathloom/pathloom/web/MediaType$Reader", name := "take", desc := "(C)Z" } : Jvm.MethodName) prog_35_method_5_code (3 : Nat) (Option.some Jvm.ClassFile.FieldType.boolean), Jvm.Cond.code ({ cls := "com/example/pathloom/pathloom/web/MediaType$Reader", name := "at", desc := "(C)Z" } : Jvm.MethodName) prog_35_method_4_code (2 : Nat) (Option.some Jvm.ClassFile.FieldType.boolean), Jvm.Cond.code ({ cls := "java/lang/Math", name := "min", desc := "(II)I" } : Jvm.MethodName) jdk_29_method_69_code (2 : Nat) (Option.some Jvm.ClassFile.FieldType.int), Jvm.Cond.code ({ cls := "java/lang/StringUTF16", name := "compress", desc := "([CII)[B" } : Jvm.MethodName) jdk_52_method_16_code (6 : Nat) (Option.some (Jvm.ClassFile.FieldType.array Jvm.ClassFile.FieldType.byte)), Jvm.Cond.code ({ cls := "java/lang/StringUTF16", name := "compress", desc := "([CI[BII)I" } : Jvm.MethodName) jdk_52_method_21_code (7 : Nat) (Option.some Jvm.ClassFile.FieldType.int), Jvm.Cond.code ({ cls := "java/lang/StringUTF16", name := "coderFromArrayLen", desc := "([BI)B" } : Jvm.MethodName) jdk_52_method_15_code (2 : Nat) (Option.some Jvm.ClassFile.FieldType.byte), Jvm.Cond.code ({ cls := "java/lang/String", name := "charAt", desc := "(I)C" } : Jvm.MethodName) jdk_42_method_56_code (2 : Nat) (Option.some Jvm.ClassFile.FieldType.char), Jvm.Cond.code ({ cls := "java/lang/String", name := "isLatin1", desc := "()Z" } : Jvm.MethodName) jdk_42_method_154_code (1 : Nat) (Option.some Jvm.ClassFile.FieldType.boolean), Jvm.Cond.code ({ cls := "java/lang/StringLatin1", name := "charAt", desc := "([BI)C" } : Jvm.MethodName) jdk_43_method_2_code (2 : Nat) (Option.some Jvm.ClassFile.FieldType.char), Jvm.Cond.code ({ cls := "java/lang/String", name := "checkIndex", desc := "(II)V" } : Jvm.MethodName) jdk_42_method_155_code (2 : Nat) (Option.none : Option Jvm.ClassFile.FieldType), Jvm.Cond.code ({ cls := "jdk/internal/util/Preconditions", name := "checkIndex", desc := "(IILjava/util/function/BiFunction;)I" } : Jvm.MethodName) jdk_41_method_11_code (3 : Nat) (Option.some Jvm.ClassFile.FieldType.int)]
set_option maxRecDepth 65536 in
theorem codes_eq : words1.filter isCode = codes1 := rfl
theorem w_codes : ∀ c ∈ words1.filter isCode, c.before args0 about1 = true := by
  rw [codes_eq]
  intro c hc
  simp only [codes1, List.mem_cons, List.not_mem_nil, or_false] at hc
  rcases hc with rfl | rfl | rfl | rfl | rfl | rfl | rfl | rfl | rfl | rfl | rfl | rfl | rfl | rfl | rfl | rfl | rfl | rfl | rfl | rfl | rfl
  · exact w_c0
  · exact w_c1
  · exact w_c2
  · exact w_c3
  · exact w_c4
  · exact w_c5
  · exact w_c6
  · exact w_c7
  · exact w_c8
  · exact w_c9
  · exact w_c10
  · exact w_c11
  · exact w_c12
  · exact w_c13
  · exact w_c14
  · exact w_c15
  · exact w_c16
  · exact w_c17
  · exact w_c18
  · exact w_c19
  · exact w_c20
set_option maxRecDepth 65536 in
theorem w_t1 : (words1.take 24).all (fun c => isCode c || c.before args0 about1) = true := by decide +kernel
set_option maxRecDepth 65536 in
theorem w_t2 : ((words1.drop 24).take 24).all (fun c => isCode c || c.before args0 about1) = true := by decide +kernel
set_option maxRecDepth 65536 in
theorem w_t3 : (((words1.drop 24).drop 24).take 24).all (fun c => isCode c || c.before args0 about1) = true := by decide +kernel
set_option maxRecDepth 65536 in
theorem w_t4 : ((((words1.drop 24).drop 24).drop 24).take 24).all (fun c => isCode c || c.before args0 about1) = true := by decide +kernel
set_option maxRecDepth 65536 in
theorem w_t5 : ((((words1.drop 24).drop 24).drop 24).drop 24).all (fun c => isCode c || c.before args0 about1) = true := by decide +kernel
theorem w_tables : (allAtoms (Jvm.Cond.code x code maxLocals ret :: tables_1)).before args0 about1 = true := by
  rw [allAtoms_all]
  show words1.all (fun c => c.before args0 about1) = true
  refine all_split ?_ w_codes
  rw [← List.take_append_drop 24 words1, List.all_append, w_t1, ← List.take_append_drop 24 (words1.drop 24), List.all_append, w_t2, ← List.take_append_drop 24 ((words1.drop 24).drop 24), List.all_append, w_t3, ← List.take_append_drop 24 (((words1.drop 24).drop 24).drop 24), List.all_append, w_t4, w_t5]
  rfl
set_option maxRecDepth 65536 in
theorem w_rest : rest_1_c.before args0 about1 = true := by decide +kernel
set_option maxRecDepth 65536 in
theorem w_case : (Jvm.Cond.and given_1 narrow_1).before args0 about1 = true := by decide +kernel
set_option maxRecDepth 65536 in
theorem w_consts : constsHeld consts_1 about1 := Jvm.Lit.constsHeldB_iff.mp (by decide +kernel)
theorem w_applies : (headSpec (Jvm.Cond.code x code maxLocals ret :: tables_1) room_1).applies x e0.platform about1 = true :=
  (Spec.applies_iff w_frames).mpr ⟨w_running, w_runnable, w_alone, w_named, w_hears, w_ripe, w_room, w_tables⟩
theorem atStart : AtStart classFile x code maxLocals ret World_1 tables_1 room_1 Calls_1 rest_1 Pre_1 launch0 p0 e0 about1 theMethod args0 below0 :=
  ⟨lists_1, trivial, launch0.admits_env _ _ _, launch0.least_env, fairChoices_fair.cas, fairChoices_fair.clock, w_frames, w_args, w_heap, w_applies, ⟨w_consts, trivial⟩, w_rest, w_case⟩
end start1
theorem witness_1 : WitnessClaimed_1 := ⟨start1.p0, start1.e0, start1.about1, start1.theMethod, start1.args0, start1.below0, start1.atStart⟩
end Jvm.Pilot.@@N@@
