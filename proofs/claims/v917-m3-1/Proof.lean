import JvmDerived
import JvmDerived.Pilot.@@N@@Statement
import JvmDerived.Pilot.@@N@@Code
set_option linter.unusedVariables false
set_option linter.unusedSimpArgs false

namespace Jvm.Own
open Sem ClassFile Op Lib Jvm.Stand Jvm.Free Jvm.LawKit Jvm.RoadKit
def Go (p : Program) (e : Env) (below : List Frame) (G : State → Outcome → Prop) (σ : State) : Prop := ∃ s₂ o, Steps p.tables e below σ s₂ ∧ s₂.status = .running ∧ Ended s₂ below o ∧ G s₂ o
theorem Go.step {p : Program} {e : Env} {below : List Frame} {G : State → Outcome → Prop} {σ σ' : State} (h : ∀ t, Steps p.tables e below σ' t → Steps p.tables e below σ t) (k : Go p e below G σ') : Go p e below G σ := by
  obtain ⟨s₂, o, h1, h2⟩ := k
  exact ⟨s₂, o, h _ h1, h2⟩
def RetG (s : State) (Q : Option Value → Heap → List Loc → Prop) (cells slots : Nat) (s₂ : State) (o : Outcome) : Prop := ∃ v L, o = .returned v ∧ Q v s₂.heap L ∧ FrameEnd s o s₂ L cells slots
section
variable {p : Program} {l : Launch} {e : Env} {R : Room} {s : State} {m : MethodId} {args : Array Value} {below : List Frame} {meth : Method} {c : Code} {T : State} {locs : List Loc} {k n : Nat} {G : State → Outcome → Prop} {code : ByteArray} {pc : Nat} {Ls : Array Slot} {st : List Value} {Z : State} {a0 : Array Value} {h : Heap} {n0 : Nat}
theorem Go.leave (X : Stand p l e R s m args below meth c T locs k n) {v : Option Value} (hv : meth.sig.returnType = none → v = none) (hlocks : meth.locks = false) {Q : Option Value → Heap → List Loc → Prop} {cells slots : Nat} {σ : State} (eT : T.heap = h) (hq : Q v h locs) (hk : k ≤ cells) (hn : n ≤ slots)
    (st : ∀ fs, (∀ (f : JFrame) (acts : List Action), f.method = m → f.locked = none → f.entered = [] → (doReturn e (T.setTop f) acts v).1 = T.setFrames fs) → Steps p.tables e below σ (T.setFrames fs)) : Go p e below (RetG s Q cells slots) σ := by
  obtain ⟨fs, hr, hrun, hended, hW, hsame⟩ := X.leave (v := v) hv hlocks
  subst eT
  exact ⟨_, _, st fs hr, hrun, hended, _, _, rfl, hq, ⟨_, rfl⟩, hW, hsame.mono hk hn⟩
/-- null or some object -/
def Rf (v : Value) : Prop := v = .null ∨ ∃ a, v = .ref a
theorem Rf.is {v : Value} (r : Rf v) : v.isRef = true := by rcases r with rfl | ⟨a, rfl⟩ <;> rfl
theorem Rf.cat {v : Value} (r : Rf v) : v.category = 1 := by rcases r with rfl | ⟨a, rfl⟩ <;> rfl
theorem Rf.nar {v : Value} (r : Rf v) {c : String} : narrow (.object c) v = v := by rcases r with rfl | ⟨a, rfl⟩ <;> rfl
theorem Rf.fit {v : Value} (r : Rf v) {c : String} : fits (.object c) v = true := by rcases r with rfl | ⟨a, rfl⟩ <;> rfl
theorem Rf.store {v : Value} (r : Rf v) {ls ls' : Array Slot} {i : Nat} {o : Slot} (hold : ls[i]? = some o) (ho : One o) (hl : ls.setIfInBounds i (.val v) = ls') : storeLocals ls i v = some ls' := by rw [XS.store1 hold ho r.cat, hl]
theorem Rf.of {v : Value} (h : v.isRef = true) : Rf v := ref_cases h
theorem selOf {U : State} {as : Array Value} {y : MethodName} {n : Nat} (wi : (Cond.instantiable y.cls n).before as U = true) (wp : (Cond.privateMethod y).before #[] U = true) (wm : (Cond.instanceMethod y).before as U = true) (hy : y.cls ≠ "java/lang/invoke/MethodHandle" ∧ y.cls ≠ "java/lang/invoke/VarHandle") : (Cond.selects y.cls y y).before as U = true := by
  obtain ⟨c, k, h1, h2, -, h4, -⟩ := Cond.instantiable_spec wi
  exact selects_self_of_private h1 h2 (Bool.or_eq_false_iff.mp h4).1 (Cond.privateMethod_at wp) wm hy
theorem g_iload (X : Stand p l e R s m args below meth c T locs k n) (hx : p.tables.exec = Jvm.exec) (hby : c.code = code) {j : Nat} {v : Int32} (hd : decode code pc = .ok (.iload j, 2)) (hl : Ls[j]? = some (.val (.int v))) (K : Go p e below G (T.setTop (mkF m (pc + 2) Ls (.int v :: st)))) : Go p e below G (T.setTop (mkF m pc Ls st)) := Go.step (fun t q => XS.iload X.here hx rfl (hb hby hd) hl q) K
theorem g_iloadN (X : Stand p l e R s m args below meth c T locs k n) (hx : p.tables.exec = Jvm.exec) (hby : c.code = code) {j : Fin 4} {v : Int32} (hd : decode code pc = .ok (.iload_n j, 1)) (hl : Ls[j.val]? = some (.val (.int v))) (K : Go p e below G (T.setTop (mkF m (pc + 1) Ls (.int v :: st)))) : Go p e below G (T.setTop (mkF m pc Ls st)) := Go.step (fun t q => XS.iloadN X.here hx rfl (hb hby hd) hl q) K
theorem g_lload (X : Stand p l e R s m args below meth c T locs k n) (hx : p.tables.exec = Jvm.exec) (hby : c.code = code) {j : Nat} {v : Int64} (hd : decode code pc = .ok (.lload j, 2)) (hl : Ls[j]? = some (.val (.long v))) (K : Go p e below G (T.setTop (mkF m (pc + 2) Ls (.long v :: st)))) : Go p e below G (T.setTop (mkF m pc Ls st)) := Go.step (fun t q => XS.lload X.here hx rfl (hb hby hd) hl q) K
theorem g_lloadN (X : Stand p l e R s m args below meth c T locs k n) (hx : p.tables.exec = Jvm.exec) (hby : c.code = code) {j : Fin 4} {v : Int64} (hd : decode code pc = .ok (.lload_n j, 1)) (hl : Ls[j.val]? = some (.val (.long v))) (K : Go p e below G (T.setTop (mkF m (pc + 1) Ls (.long v :: st)))) : Go p e below G (T.setTop (mkF m pc Ls st)) := Go.step (fun t q => XS.lloadN X.here hx rfl (hb hby hd) hl q) K
theorem g_aload (X : Stand p l e R s m args below meth c T locs k n) (hx : p.tables.exec = Jvm.exec) (hby : c.code = code) {j : Nat} {v : Value} (hd : decode code pc = .ok (.aload j, 2)) (hl : Ls[j]? = some (.val v)) (hv : v.isRef = true) (K : Go p e below G (T.setTop (mkF m (pc + 2) Ls (v :: st)))) : Go p e below G (T.setTop (mkF m pc Ls st)) := Go.step (fun t q => XS.aload X.here hx rfl (hb hby hd) hl hv q) K
theorem g_aloadN (X : Stand p l e R s m args below meth c T locs k n) (hx : p.tables.exec = Jvm.exec) (hby : c.code = code) {j : Fin 4} {v : Value} (hd : decode code pc = .ok (.aload_n j, 1)) (hl : Ls[j.val]? = some (.val v)) (hv : v.isRef = true) (K : Go p e below G (T.setTop (mkF m (pc + 1) Ls (v :: st)))) : Go p e below G (T.setTop (mkF m pc Ls st)) := Go.step (fun t q => XS.aloadN X.here hx rfl (hb hby hd) hl hv q) K
theorem g_istore (X : Stand p l e R s m args below meth c T locs k n) (hx : p.tables.exec = Jvm.exec) (hby : c.code = code) {j : Nat} {x : Int32} {rest : List Value} {l' : Array Slot} (hd : decode code pc = .ok (.istore j, 2)) (hl : storeLocals Ls j (.int x) = some l') (K : Go p e below G (T.setTop (mkF m (pc + 2) l' rest))) : Go p e below G (T.setTop (mkF m pc Ls (.int x :: rest))) := Go.step (fun t q => XS.istore X.here hx rfl (hb hby hd) rfl hl q) K
theorem g_istoreN (X : Stand p l e R s m args below meth c T locs k n) (hx : p.tables.exec = Jvm.exec) (hby : c.code = code) {j : Fin 4} {x : Int32} {rest : List Value} {l' : Array Slot} (hd : decode code pc = .ok (.istore_n j, 1)) (hl : storeLocals Ls j.val (.int x) = some l') (K : Go p e below G (T.setTop (mkF m (pc + 1) l' rest))) : Go p e below G (T.setTop (mkF m pc Ls (.int x :: rest))) := Go.step (fun t q => XS.istoreN X.here hx rfl (hb hby hd) rfl hl q) K
theorem g_lstore (X : Stand p l e R s m args below meth c T locs k n) (hx : p.tables.exec = Jvm.exec) (hby : c.code = code) {j : Nat} {x : Int64} {rest : List Value} {l' : Array Slot} (hd : decode code pc = .ok (.lstore j, 2)) (hl : storeLocals Ls j (.long x) = some l') (K : Go p e below G (T.setTop (mkF m (pc + 2) l' rest))) : Go p e below G (T.setTop (mkF m pc Ls (.long x :: rest))) := Go.step (fun t q => XS.lstore X.here hx rfl (hb hby hd) rfl hl q) K
theorem g_lstoreN (X : Stand p l e R s m args below meth c T locs k n) (hx : p.tables.exec = Jvm.exec) (hby : c.code = code) {j : Fin 4} {x : Int64} {rest : List Value} {l' : Array Slot} (hd : decode code pc = .ok (.lstore_n j, 1)) (hl : storeLocals Ls j.val (.long x) = some l') (K : Go p e below G (T.setTop (mkF m (pc + 1) l' rest))) : Go p e below G (T.setTop (mkF m pc Ls (.long x :: rest))) := Go.step (fun t q => XS.lstoreN X.here hx rfl (hb hby hd) rfl hl q) K
theorem g_astore (X : Stand p l e R s m args below meth c T locs k n) (hx : p.tables.exec = Jvm.exec) (hby : c.code = code) {j : Nat} {x : Value} {rest : List Value} {l' : Array Slot} (hd : decode code pc = .ok (.astore j, 2)) (hv : x.isRef = true) (hl : storeLocals Ls j x = some l') (K : Go p e below G (T.setTop (mkF m (pc + 2) l' rest))) : Go p e below G (T.setTop (mkF m pc Ls (x :: rest))) := Go.step (fun t q => XS.astore X.here hx rfl (hb hby hd) rfl hv hl q) K
theorem g_astoreN (X : Stand p l e R s m args below meth c T locs k n) (hx : p.tables.exec = Jvm.exec) (hby : c.code = code) {j : Fin 4} {x : Value} {rest : List Value} {l' : Array Slot} (hd : decode code pc = .ok (.astore_n j, 1)) (hv : x.isRef = true) (hl : storeLocals Ls j.val x = some l') (K : Go p e below G (T.setTop (mkF m (pc + 1) l' rest))) : Go p e below G (T.setTop (mkF m pc Ls (x :: rest))) := Go.step (fun t q => XS.astoreN X.here hx rfl (hb hby hd) rfl hv hl q) K
theorem g_iconst (X : Stand p l e R s m args below meth c T locs k n) (hx : p.tables.exec = Jvm.exec) (hby : c.code = code) {i : Int} (v : Int32) (hd : decode code pc = .ok (.iconst i, 1)) (hv : Int32.ofInt i = v) (K : Go p e below G (T.setTop (mkF m (pc + 1) Ls (.int v :: st)))) : Go p e below G (T.setTop (mkF m pc Ls st)) := Go.step (fun t q => XS.iconst X.here hx rfl (hb hby hd) (by rw [hv]; exact q)) K
theorem g_bipush (X : Stand p l e R s m args below meth c T locs k n) (hx : p.tables.exec = Jvm.exec) (hby : c.code = code) {i : Int} (v : Int32) (hd : decode code pc = .ok (.bipush i, 2)) (hv : (Int8.ofInt i).toInt32 = v) (K : Go p e below G (T.setTop (mkF m (pc + 2) Ls (.int v :: st)))) : Go p e below G (T.setTop (mkF m pc Ls st)) := Go.step (fun t q => XS.bipush X.here hx rfl (hb hby hd) (by rw [hv]; exact q)) K
theorem g_sipush (X : Stand p l e R s m args below meth c T locs k n) (hx : p.tables.exec = Jvm.exec) (hby : c.code = code) {i : Int} (v : Int32) (hd : decode code pc = .ok (.sipush i, 3)) (hv : (Int16.ofInt i).toInt32 = v) (K : Go p e below G (T.setTop (mkF m (pc + 3) Ls (.int v :: st)))) : Go p e below G (T.setTop (mkF m pc Ls st)) := Go.step (fun t q => XS.sipush X.here hx rfl (hb hby hd) (by rw [hv]; exact q)) K
theorem g_lconst (X : Stand p l e R s m args below meth c T locs k n) (hx : p.tables.exec = Jvm.exec) (hby : c.code = code) {j : Fin 2} (v : Int64) (hd : decode code pc = .ok (.lconst j, 1)) (hv : Int64.ofNat j = v) (K : Go p e below G (T.setTop (mkF m (pc + 1) Ls (.long v :: st)))) : Go p e below G (T.setTop (mkF m pc Ls st)) := Go.step (fun t q => XS.lconst X.here hx rfl (hb hby hd) (by rw [hv]; exact q)) K
theorem g_topI {x : Int32} (y : Int32) (q : x = y) {rest : List Value} (K : Go p e below G (T.setTop (mkF m pc Ls (.int y :: rest)))) : Go p e below G (T.setTop (mkF m pc Ls (.int x :: rest))) := q ▸ K
theorem g_topJ {x : Int64} (y : Int64) (q : x = y) {rest : List Value} (K : Go p e below G (T.setTop (mkF m pc Ls (.long y :: rest)))) : Go p e below G (T.setTop (mkF m pc Ls (.long x :: rest))) := q ▸ K
theorem g_at {ls ls' : Array Slot} {st' : List Value} (pc' : Nat) (h1 : pc = pc') (h2 : ls = ls') (h3 : st = st') (K : Go p e below G (T.setTop (mkF m pc' ls' st'))) : Go p e below G (T.setTop (mkF m pc ls st)) := h1 ▸ h2 ▸ h3 ▸ K
theorem g_aconst_null (X : Stand p l e R s m args below meth c T locs k n) (hx : p.tables.exec = Jvm.exec) (hby : c.code = code)  (hd : decode code pc = .ok (.aconst_null, 1)) (K : Go p e below G (T.setTop (mkF m (pc + 1) Ls (.null :: st)))) : Go p e below G (T.setTop (mkF m pc Ls st)) := Go.step (fun t q => XS.aconstNull X.here hx rfl (hb hby hd)  q) K
theorem g_iadd (X : Stand p l e R s m args below meth c T locs k n) (hx : p.tables.exec = Jvm.exec) (hby : c.code = code) {x y : Int32} {rest : List Value} (hd : decode code pc = .ok (.iadd, 1)) (K : Go p e below G (T.setTop (mkF m (pc + 1) Ls (.int (x + y) :: rest)))) : Go p e below G (T.setTop (mkF m pc Ls (.int y :: .int x :: rest))) := Go.step (fun t q => XS.iadd X.here hx rfl (hb hby hd) rfl q) K
theorem g_ladd (X : Stand p l e R s m args below meth c T locs k n) (hx : p.tables.exec = Jvm.exec) (hby : c.code = code) {x y : Int64} {rest : List Value} (hd : decode code pc = .ok (.ladd, 1)) (K : Go p e below G (T.setTop (mkF m (pc + 1) Ls (.long (x + y) :: rest)))) : Go p e below G (T.setTop (mkF m pc Ls (.long y :: .long x :: rest))) := Go.step (fun t q => XS.ladd X.here hx rfl (hb hby hd) rfl q) K
theorem g_isub (X : Stand p l e R s m args below meth c T locs k n) (hx : p.tables.exec = Jvm.exec) (hby : c.code = code) {x y : Int32} {rest : List Value} (hd : decode code pc = .ok (.isub, 1)) (K : Go p e below G (T.setTop (mkF m (pc + 1) Ls (.int (x - y) :: rest)))) : Go p e below G (T.setTop (mkF m pc Ls (.int y :: .int x :: rest))) := Go.step (fun t q => XS.isub X.here hx rfl (hb hby hd) rfl q) K
theorem g_lsub (X : Stand p l e R s m args below meth c T locs k n) (hx : p.tables.exec = Jvm.exec) (hby : c.code = code) {x y : Int64} {rest : List Value} (hd : decode code pc = .ok (.lsub, 1)) (K : Go p e below G (T.setTop (mkF m (pc + 1) Ls (.long (x - y) :: rest)))) : Go p e below G (T.setTop (mkF m pc Ls (.long y :: .long x :: rest))) := Go.step (fun t q => XS.lsub X.here hx rfl (hb hby hd) rfl q) K
theorem g_imul (X : Stand p l e R s m args below meth c T locs k n) (hx : p.tables.exec = Jvm.exec) (hby : c.code = code) {x y : Int32} {rest : List Value} (hd : decode code pc = .ok (.imul, 1)) (K : Go p e below G (T.setTop (mkF m (pc + 1) Ls (.int (x * y) :: rest)))) : Go p e below G (T.setTop (mkF m pc Ls (.int y :: .int x :: rest))) := Go.step (fun t q => XS.imul X.here hx rfl (hb hby hd) rfl q) K
theorem g_lmul (X : Stand p l e R s m args below meth c T locs k n) (hx : p.tables.exec = Jvm.exec) (hby : c.code = code) {x y : Int64} {rest : List Value} (hd : decode code pc = .ok (.lmul, 1)) (K : Go p e below G (T.setTop (mkF m (pc + 1) Ls (.long (x * y) :: rest)))) : Go p e below G (T.setTop (mkF m pc Ls (.long y :: .long x :: rest))) := Go.step (fun t q => XS.lmul X.here hx rfl (hb hby hd) rfl q) K
theorem g_iand (X : Stand p l e R s m args below meth c T locs k n) (hx : p.tables.exec = Jvm.exec) (hby : c.code = code) {x y : Int32} {rest : List Value} (hd : decode code pc = .ok (.iand, 1)) (K : Go p e below G (T.setTop (mkF m (pc + 1) Ls (.int (x &&& y) :: rest)))) : Go p e below G (T.setTop (mkF m pc Ls (.int y :: .int x :: rest))) := Go.step (fun t q => XS.iand X.here hx rfl (hb hby hd) rfl q) K
theorem g_land (X : Stand p l e R s m args below meth c T locs k n) (hx : p.tables.exec = Jvm.exec) (hby : c.code = code) {x y : Int64} {rest : List Value} (hd : decode code pc = .ok (.land, 1)) (K : Go p e below G (T.setTop (mkF m (pc + 1) Ls (.long (x &&& y) :: rest)))) : Go p e below G (T.setTop (mkF m pc Ls (.long y :: .long x :: rest))) := Go.step (fun t q => XS.land X.here hx rfl (hb hby hd) rfl q) K
theorem g_ior (X : Stand p l e R s m args below meth c T locs k n) (hx : p.tables.exec = Jvm.exec) (hby : c.code = code) {x y : Int32} {rest : List Value} (hd : decode code pc = .ok (.ior, 1)) (K : Go p e below G (T.setTop (mkF m (pc + 1) Ls (.int (x ||| y) :: rest)))) : Go p e below G (T.setTop (mkF m pc Ls (.int y :: .int x :: rest))) := Go.step (fun t q => XS.ior X.here hx rfl (hb hby hd) rfl q) K
theorem g_lor (X : Stand p l e R s m args below meth c T locs k n) (hx : p.tables.exec = Jvm.exec) (hby : c.code = code) {x y : Int64} {rest : List Value} (hd : decode code pc = .ok (.lor, 1)) (K : Go p e below G (T.setTop (mkF m (pc + 1) Ls (.long (x ||| y) :: rest)))) : Go p e below G (T.setTop (mkF m pc Ls (.long y :: .long x :: rest))) := Go.step (fun t q => XS.lor X.here hx rfl (hb hby hd) rfl q) K
theorem g_ixor (X : Stand p l e R s m args below meth c T locs k n) (hx : p.tables.exec = Jvm.exec) (hby : c.code = code) {x y : Int32} {rest : List Value} (hd : decode code pc = .ok (.ixor, 1)) (K : Go p e below G (T.setTop (mkF m (pc + 1) Ls (.int (x ^^^ y) :: rest)))) : Go p e below G (T.setTop (mkF m pc Ls (.int y :: .int x :: rest))) := Go.step (fun t q => XS.ixor X.here hx rfl (hb hby hd) rfl q) K
theorem g_lxor (X : Stand p l e R s m args below meth c T locs k n) (hx : p.tables.exec = Jvm.exec) (hby : c.code = code) {x y : Int64} {rest : List Value} (hd : decode code pc = .ok (.lxor, 1)) (K : Go p e below G (T.setTop (mkF m (pc + 1) Ls (.long (x ^^^ y) :: rest)))) : Go p e below G (T.setTop (mkF m pc Ls (.long y :: .long x :: rest))) := Go.step (fun t q => XS.lxor X.here hx rfl (hb hby hd) rfl q) K
theorem g_ishl (X : Stand p l e R s m args below meth c T locs k n) (hx : p.tables.exec = Jvm.exec) (hby : c.code = code) {x y : Int32} {rest : List Value} (hd : decode code pc = .ok (.ishl, 1)) (K : Go p e below G (T.setTop (mkF m (pc + 1) Ls (.int (x <<< (y &&& 31)) :: rest)))) : Go p e below G (T.setTop (mkF m pc Ls (.int y :: .int x :: rest))) := Go.step (fun t q => XS.ishl X.here hx rfl (hb hby hd) rfl q) K
theorem g_ishr (X : Stand p l e R s m args below meth c T locs k n) (hx : p.tables.exec = Jvm.exec) (hby : c.code = code) {x y : Int32} {rest : List Value} (hd : decode code pc = .ok (.ishr, 1)) (K : Go p e below G (T.setTop (mkF m (pc + 1) Ls (.int (x >>> (y &&& 31)) :: rest)))) : Go p e below G (T.setTop (mkF m pc Ls (.int y :: .int x :: rest))) := Go.step (fun t q => XS.ishr X.here hx rfl (hb hby hd) rfl q) K
theorem g_iushr (X : Stand p l e R s m args below meth c T locs k n) (hx : p.tables.exec = Jvm.exec) (hby : c.code = code) {x y : Int32} {rest : List Value} (hd : decode code pc = .ok (.iushr, 1)) (K : Go p e below G (T.setTop (mkF m (pc + 1) Ls (.int ((x.toUInt32 >>> (y &&& 31).toUInt32).toInt32) :: rest)))) : Go p e below G (T.setTop (mkF m pc Ls (.int y :: .int x :: rest))) := Go.step (fun t q => XS.iushr X.here hx rfl (hb hby hd) rfl q) K
theorem g_lshl (X : Stand p l e R s m args below meth c T locs k n) (hx : p.tables.exec = Jvm.exec) (hby : c.code = code) {x : Int64} {y : Int32} {rest : List Value} (hd : decode code pc = .ok (.lshl, 1)) (K : Go p e below G (T.setTop (mkF m (pc + 1) Ls (.long (x <<< (y &&& 0x3f).toInt64) :: rest)))) : Go p e below G (T.setTop (mkF m pc Ls (.int y :: .long x :: rest))) := Go.step (fun t q => XS.lshl X.here hx rfl (hb hby hd) rfl q) K
theorem g_lshr (X : Stand p l e R s m args below meth c T locs k n) (hx : p.tables.exec = Jvm.exec) (hby : c.code = code) {x : Int64} {y : Int32} {rest : List Value} (hd : decode code pc = .ok (.lshr, 1)) (K : Go p e below G (T.setTop (mkF m (pc + 1) Ls (.long (x >>> (y &&& 0x3f).toInt64) :: rest)))) : Go p e below G (T.setTop (mkF m pc Ls (.int y :: .long x :: rest))) := Go.step (fun t q => XS.lshr X.here hx rfl (hb hby hd) rfl q) K
theorem g_lushr (X : Stand p l e R s m args below meth c T locs k n) (hx : p.tables.exec = Jvm.exec) (hby : c.code = code) {x : Int64} {y : Int32} {rest : List Value} (hd : decode code pc = .ok (.lushr, 1)) (K : Go p e below G (T.setTop (mkF m (pc + 1) Ls (.long ((x.toUInt64 >>> (y &&& 0x3f).toInt64.toUInt64).toInt64) :: rest)))) : Go p e below G (T.setTop (mkF m pc Ls (.int y :: .long x :: rest))) := Go.step (fun t q => XS.lushr X.here hx rfl (hb hby hd) rfl q) K
theorem g_ineg (X : Stand p l e R s m args below meth c T locs k n) (hx : p.tables.exec = Jvm.exec) (hby : c.code = code) {x : Int32} {rest : List Value} (hd : decode code pc = .ok (.ineg, 1)) (K : Go p e below G (T.setTop (mkF m (pc + 1) Ls (.int (-x) :: rest)))) : Go p e below G (T.setTop (mkF m pc Ls (.int x :: rest))) := Go.step (fun t q => XS.ineg X.here hx rfl (hb hby hd) rfl q) K
theorem g_lneg (X : Stand p l e R s m args below meth c T locs k n) (hx : p.tables.exec = Jvm.exec) (hby : c.code = code) {x : Int64} {rest : List Value} (hd : decode code pc = .ok (.lneg, 1)) (K : Go p e below G (T.setTop (mkF m (pc + 1) Ls (.long (-x) :: rest)))) : Go p e below G (T.setTop (mkF m pc Ls (.long x :: rest))) := Go.step (fun t q => XS.lneg X.here hx rfl (hb hby hd) rfl q) K
theorem g_i2l (X : Stand p l e R s m args below meth c T locs k n) (hx : p.tables.exec = Jvm.exec) (hby : c.code = code) {x : Int32} {rest : List Value} (hd : decode code pc = .ok (.i2l, 1)) (K : Go p e below G (T.setTop (mkF m (pc + 1) Ls (.long (x.toInt64) :: rest)))) : Go p e below G (T.setTop (mkF m pc Ls (.int x :: rest))) := Go.step (fun t q => XS.i2l X.here hx rfl (hb hby hd) rfl q) K
theorem g_l2i (X : Stand p l e R s m args below meth c T locs k n) (hx : p.tables.exec = Jvm.exec) (hby : c.code = code) {x : Int64} {rest : List Value} (hd : decode code pc = .ok (.l2i, 1)) (K : Go p e below G (T.setTop (mkF m (pc + 1) Ls (.int (x.toInt32) :: rest)))) : Go p e below G (T.setTop (mkF m pc Ls (.long x :: rest))) := Go.step (fun t q => XS.l2i X.here hx rfl (hb hby hd) rfl q) K
theorem g_i2b (X : Stand p l e R s m args below meth c T locs k n) (hx : p.tables.exec = Jvm.exec) (hby : c.code = code) {x : Int32} {rest : List Value} (hd : decode code pc = .ok (.i2b, 1)) (K : Go p e below G (T.setTop (mkF m (pc + 1) Ls (.int (x.toInt8.toInt32) :: rest)))) : Go p e below G (T.setTop (mkF m pc Ls (.int x :: rest))) := Go.step (fun t q => XS.i2b X.here hx rfl (hb hby hd) rfl q) K
theorem g_i2s (X : Stand p l e R s m args below meth c T locs k n) (hx : p.tables.exec = Jvm.exec) (hby : c.code = code) {x : Int32} {rest : List Value} (hd : decode code pc = .ok (.i2s, 1)) (K : Go p e below G (T.setTop (mkF m (pc + 1) Ls (.int (x.toInt16.toInt32) :: rest)))) : Go p e below G (T.setTop (mkF m pc Ls (.int x :: rest))) := Go.step (fun t q => XS.i2s X.here hx rfl (hb hby hd) rfl q) K
theorem g_i2c (X : Stand p l e R s m args below meth c T locs k n) (hx : p.tables.exec = Jvm.exec) (hby : c.code = code) {x : Int32} {rest : List Value} (hd : decode code pc = .ok (.i2c, 1)) (K : Go p e below G (T.setTop (mkF m (pc + 1) Ls (.int (x.toUInt32.toUInt16.toUInt32.toInt32) :: rest)))) : Go p e below G (T.setTop (mkF m pc Ls (.int x :: rest))) := Go.step (fun t q => XS.i2c X.here hx rfl (hb hby hd) rfl q) K
theorem g_lcmp (X : Stand p l e R s m args below meth c T locs k n) (hx : p.tables.exec = Jvm.exec) (hby : c.code = code) {x y : Int64} {rest : List Value} (hd : decode code pc = .ok (.lcmp, 1)) (K : Go p e below G (T.setTop (mkF m (pc + 1) Ls (.int (lcmpW x y) :: rest)))) : Go p e below G (T.setTop (mkF m pc Ls (.long y :: .long x :: rest))) := Go.step (fun t q => XS.lcmp X.here hx rfl (hb hby hd) rfl q) K
theorem g_idiv (X : Stand p l e R s m args below meth c T locs k n) (hx : p.tables.exec = Jvm.exec) (hby : c.code = code) {x y : Int32} {rest : List Value} (hd : decode code pc = .ok (.idiv, 1)) (hy : y ≠ 0) (K : Go p e below G (T.setTop (mkF m (pc + 1) Ls (.int (x / y) :: rest)))) : Go p e below G (T.setTop (mkF m pc Ls (.int y :: .int x :: rest))) := Go.step (fun t q => XS.idiv X.here hx rfl (hb hby hd) rfl hy q) K
theorem g_irem (X : Stand p l e R s m args below meth c T locs k n) (hx : p.tables.exec = Jvm.exec) (hby : c.code = code) {x y : Int32} {rest : List Value} (hd : decode code pc = .ok (.irem, 1)) (hy : y ≠ 0) (K : Go p e below G (T.setTop (mkF m (pc + 1) Ls (.int (x % y) :: rest)))) : Go p e below G (T.setTop (mkF m pc Ls (.int y :: .int x :: rest))) := Go.step (fun t q => iremM X hx rfl (hb hby hd) rfl hy q) K
theorem g_iinc (X : Stand p l e R s m args below meth c T locs k n) (hx : p.tables.exec = Jvm.exec) (hby : c.code = code) {j : Nat} {cst : Int} {x : Int32} {l' : Array Slot} (v : Int32) (hd : decode code pc = .ok (.iinc j cst, 3)) (hl : Ls[j]? = some (.val (.int x))) (hv : x + Int32.ofInt cst = v) (hl' : storeLocals Ls j (.int v) = some l') (K : Go p e below G (T.setTop (mkF m (pc + 3) l' st))) : Go p e below G (T.setTop (mkF m pc Ls st)) := Go.step (fun t q => XS.iinc X.here hx rfl (hb hby hd) hl (by rw [hv]; exact hl') q) K
theorem g_dup (X : Stand p l e R s m args below meth c T locs k n) (hx : p.tables.exec = Jvm.exec) (hby : c.code = code) {x : Value} {rest : List Value} (hd : decode code pc = .ok (.dup, 1)) (hc : x.category = 1) (K : Go p e below G (T.setTop (mkF m (pc + 1) Ls (x :: x :: rest)))) : Go p e below G (T.setTop (mkF m pc Ls (x :: rest))) := Go.step (fun t q => XS.dup X.here hx rfl (hb hby hd) rfl hc q) K
theorem g_dup_x1 (X : Stand p l e R s m args below meth c T locs k n) (hx : p.tables.exec = Jvm.exec) (hby : c.code = code) {x y : Value} {rest : List Value} (hd : decode code pc = .ok (.dup_x1, 1)) (hc : x.category = 1) (hc2 : y.category = 1) (K : Go p e below G (T.setTop (mkF m (pc + 1) Ls (x :: y :: x :: rest)))) : Go p e below G (T.setTop (mkF m pc Ls (x :: y :: rest))) := Go.step (fun t q => XS.dupX1 X.here hx rfl (hb hby hd) rfl hc hc2 q) K
theorem g_pop (X : Stand p l e R s m args below meth c T locs k n) (hx : p.tables.exec = Jvm.exec) (hby : c.code = code) {x : Value} {rest : List Value} (hd : decode code pc = .ok (.pop, 1)) (hc : x.category = 1) (K : Go p e below G (T.setTop (mkF m (pc + 1) Ls rest))) : Go p e below G (T.setTop (mkF m pc Ls (x :: rest))) := Go.step (fun t q => XS.pop X.here hx rfl (hb hby hd) rfl hc q) K
theorem g_dup2 (X : Stand p l e R s m args below meth c T locs k n) (hx : p.tables.exec = Jvm.exec) (hby : c.code = code) {x y : Value} {rest : List Value} (hd : decode code pc = .ok (.dup2, 1)) (hc : x.category = 1) (hc2 : y.category = 1) (K : Go p e below G (T.setTop (mkF m (pc + 1) Ls (x :: y :: x :: y :: rest)))) : Go p e below G (T.setTop (mkF m pc Ls (x :: y :: rest))) := Go.step (fun t q => XT.dup2 X.here hx rfl (hb hby hd) rfl hc hc2 q) K
theorem g_dup2L (X : Stand p l e R s m args below meth c T locs k n) (hx : p.tables.exec = Jvm.exec) (hby : c.code = code) {x : Int64} {rest : List Value} (hd : decode code pc = .ok (.dup2, 1)) (K : Go p e below G (T.setTop (mkF m (pc + 1) Ls (.long x :: .long x :: rest)))) : Go p e below G (T.setTop (mkF m pc Ls (.long x :: rest))) := Go.step (fun t q => XT.dup2L X.here hx rfl (hb hby hd) rfl q) K
theorem g_pop2J (X : Stand p l e R s m args below meth c T locs k n) (hx : p.tables.exec = Jvm.exec) (hby : c.code = code) {x : Int64} {rest : List Value} (hd : decode code pc = .ok (.pop2, 1)) (K : Go p e below G (T.setTop (mkF m (pc + 1) Ls rest))) : Go p e below G (T.setTop (mkF m pc Ls (.long x :: rest))) := Go.step (fun t q => by
  have hd' := hb hby hd
  show Steps p.tables e below (T.setTop { method := m, pc := pc, locals := Ls, stack := .long x :: rest, locked := none }) t
  jvm_step X.here [X.here.top, hx, hd', Value.category]
  exact q) K
theorem g_goto (X : Stand p l e R s m args below meth c T locs k n) (hx : p.tables.exec = Jvm.exec) (hby : c.code = code) {d : Int} (pc' : Nat) (hd : decode code pc = .ok (.goto d, 3)) (ho : 0 ≤ (pc : Int) + d) (hp : ((pc : Int) + d).toNat = pc') (K : Go p e below G (T.setTop (mkF m pc' Ls st))) : Go p e below G (T.setTop (mkF m pc Ls st)) := Go.step (fun t q => XS.goto X.here hx rfl (pc0 := pc) (pc' := pc') rfl (hb hby hd) ho hp q) K
theorem g_ifY (X : Stand p l e R s m args below meth c T locs k n) (hx : p.tables.exec = Jvm.exec) (hby : c.code = code) {cd : ClassFile.Cond} {x : Int32} {rest : List Value} {d : Int} (pc' : Nat) (hd : decode code pc = .ok (.ifCond cd d, 3)) (hc : if_icmp.holds cd x 0 = true) (ho : 0 ≤ (pc : Int) + d) (hp : ((pc : Int) + d).toNat = pc') (K : Go p e below G (T.setTop (mkF m pc' Ls rest))) : Go p e below G (T.setTop (mkF m pc Ls (.int x :: rest))) := Go.step (fun t q => XS.ifYes X.here hx rfl (pc0 := pc) (pc' := pc') rfl (hb hby hd) rfl ((if0 _ _).trans hc) ho hp q) K
theorem g_ifN (X : Stand p l e R s m args below meth c T locs k n) (hx : p.tables.exec = Jvm.exec) (hby : c.code = code) {cd : ClassFile.Cond} {x : Int32} {rest : List Value} {d : Int} (hd : decode code pc = .ok (.ifCond cd d, 3)) (hc : if_icmp.holds cd x 0 = false) (K : Go p e below G (T.setTop (mkF m (pc + 3) Ls rest))) : Go p e below G (T.setTop (mkF m pc Ls (.int x :: rest))) := Go.step (fun t q => XS.ifNo X.here hx rfl (hb hby hd) rfl ((if0 _ _).trans hc) q) K
theorem g_icY (X : Stand p l e R s m args below meth c T locs k n) (hx : p.tables.exec = Jvm.exec) (hby : c.code = code) {cd : ClassFile.Cond} {x y : Int32} {rest : List Value} {d : Int} (pc' : Nat) (hd : decode code pc = .ok (.if_icmp cd d, 3)) (hc : if_icmp.holds cd x y = true) (ho : 0 ≤ (pc : Int) + d) (hp : ((pc : Int) + d).toNat = pc') (K : Go p e below G (T.setTop (mkF m pc' Ls rest))) : Go p e below G (T.setTop (mkF m pc Ls (.int y :: .int x :: rest))) := Go.step (fun t q => XS.icmpYes X.here hx rfl (pc0 := pc) (pc' := pc') rfl (hb hby hd) rfl hc ho hp q) K
theorem g_icN (X : Stand p l e R s m args below meth c T locs k n) (hx : p.tables.exec = Jvm.exec) (hby : c.code = code) {cd : ClassFile.Cond} {x y : Int32} {rest : List Value} {d : Int} (hd : decode code pc = .ok (.if_icmp cd d, 3)) (hc : if_icmp.holds cd x y = false) (K : Go p e below G (T.setTop (mkF m (pc + 3) Ls rest))) : Go p e below G (T.setTop (mkF m pc Ls (.int y :: .int x :: rest))) := Go.step (fun t q => XS.icmpNo X.here hx rfl (hb hby hd) rfl hc q) K
theorem g_acmp (X : Stand p l e R s m args below meth c T locs k n) (hx : p.tables.exec = Jvm.exec) (hby : c.code = code) {cd : ACond} {x y : Value} (h1 : x.isRef = true) (h2 : y.isRef = true) {rest : List Value} {d : Int} (pc' : Nat) (same : Bool) (hd : decode code pc = .ok (.if_acmp cd d, 3)) (hq : decide (x = y) = same) (ho : 0 ≤ (pc : Int) + d) (hp : pc' = if acV cd same = true then ((pc : Int) + d).toNat else pc + 3) (K : Go p e below G (T.setTop (mkF m pc' Ls rest))) : Go p e below G (T.setTop (mkF m pc Ls (y :: x :: rest))) := Go.step (fun t q => Jvm.RoadKit.acmp (g := mkF m pc Ls (y :: x :: rest)) X hx rfl h1 h2 (pc0 := pc) (pc' := pc') (same := same) rfl (hb hby hd) rfl hq ho hp q) K
theorem g_ifnullY (X : Stand p l e R s m args below meth c T locs k n) (hx : p.tables.exec = Jvm.exec) (hby : c.code = code) {rest : List Value} {d : Int} (pc' : Nat) (hd : decode code pc = .ok (.ifnull d, 3)) (ho : 0 ≤ (pc : Int) + d) (hp : ((pc : Int) + d).toNat = pc') (K : Go p e below G (T.setTop (mkF m pc' Ls rest))) : Go p e below G (T.setTop (mkF m pc Ls (.null :: rest))) := Go.step (fun t q => XS.ifnullYes X.here hx rfl (pc0 := pc) (pc' := pc') rfl (hb hby hd) rfl ho hp q) K
theorem g_ifnullN (X : Stand p l e R s m args below meth c T locs k n) (hx : p.tables.exec = Jvm.exec) (hby : c.code = code) {b : Addr} {rest : List Value} {d : Int} (hd : decode code pc = .ok (.ifnull d, 3)) (K : Go p e below G (T.setTop (mkF m (pc + 3) Ls rest))) : Go p e below G (T.setTop (mkF m pc Ls (.ref b :: rest))) := Go.step (fun t q => XS.ifnullNo X.here hx rfl (hb hby hd) rfl q) K
theorem g_ifnonnullY (X : Stand p l e R s m args below meth c T locs k n) (hx : p.tables.exec = Jvm.exec) (hby : c.code = code) {b : Addr} {rest : List Value} {d : Int} (pc' : Nat) (hd : decode code pc = .ok (.ifnonnull d, 3)) (ho : 0 ≤ (pc : Int) + d) (hp : ((pc : Int) + d).toNat = pc') (K : Go p e below G (T.setTop (mkF m pc' Ls rest))) : Go p e below G (T.setTop (mkF m pc Ls (.ref b :: rest))) := Go.step (fun t q => XS.ifnonnullYes X.here hx rfl (pc0 := pc) (pc' := pc') rfl (hb hby hd) rfl ho hp q) K
theorem g_ifnonnullN (X : Stand p l e R s m args below meth c T locs k n) (hx : p.tables.exec = Jvm.exec) (hby : c.code = code) {rest : List Value} {d : Int} (hd : decode code pc = .ok (.ifnonnull d, 3)) (K : Go p e below G (T.setTop (mkF m (pc + 3) Ls rest))) : Go p e below G (T.setTop (mkF m pc Ls (.null :: rest))) := Go.step (fun t q => XS.ifnonnullNo X.here hx rfl (hb hby hd) rfl q) K
theorem g_ldcI (X : Stand p l e R s m args below meth c T locs k n) (hx : p.tables.exec = Jvm.exec) (hby : c.code = code) (hZ : Z.Warmed39 s.vm) {own : String} (hown : s.vm.findClass own = some m.cls) {index : Nat} {v : Int32} (w : (Cond.constant own index v).before a0 Z = true) (hd : decode code pc = .ok (.ldc index, 2)) (K : Go p e below G (T.setTop (mkF m (pc + 2) Ls (.int v :: st)))) : Go p e below G (T.setTop (mkF m pc Ls st)) := Go.step (fun t q => X.ldcInt hx hown (mvT hZ w) (g := mkF m pc Ls st) rfl (hb hby hd) t q) K
theorem g_ldcwI (X : Stand p l e R s m args below meth c T locs k n) (hx : p.tables.exec = Jvm.exec) (hby : c.code = code) (hZ : Z.Warmed39 s.vm) {own : String} (hown : s.vm.findClass own = some m.cls) {index : Nat} {v : Int32} (w : (Cond.constant own index v).before a0 Z = true) (hd : decode code pc = .ok (.ldc_w index, 3)) (K : Go p e below G (T.setTop (mkF m (pc + 3) Ls (.int v :: st)))) : Go p e below G (T.setTop (mkF m pc Ls st)) := Go.step (fun t q => X.ldcwInt hx hown (mvT hZ w) (g := mkF m pc Ls st) rfl (hb hby hd) t q) K
theorem g_ldc2J (X : Stand p l e R s m args below meth c T locs k n) (hx : p.tables.exec = Jvm.exec) (hby : c.code = code) (hZ : Z.Warmed39 s.vm) {own : String} (hown : s.vm.findClass own = some m.cls) {index : Nat} {v : Int64} (w : (Cond.constantLong own index v).before a0 Z = true) (hd : decode code pc = .ok (.ldc2_w index, 3)) (K : Go p e below G (T.setTop (mkF m (pc + 3) Ls (.long v :: st)))) : Go p e below G (T.setTop (mkF m pc Ls st)) := Go.step (fun t q => X.ldc2Long hx hown (mvT hZ w) (g := mkF m pc Ls st) rfl (hb hby hd) t q) K
theorem g_getF (X : Stand p l e R s m args below meth c T locs k n) (hx : p.tables.exec = Jvm.exec) (hby : c.code = code) (hZ : Z.Warmed39 s.vm) {own : String} (hown : s.vm.findClass own = some m.cls) {R0 O f d host : String} {index : Nat} (w : (Cond.fieldLink own index R0 f d).before a0 Z = true ∨ (Cond.fieldLinkNest own index R0 f d host).before a0 Z = true) (via : Via Z R0 O f d) (eT : T.heap = h) {a : Addr} {v : Value} (F : Fld Z h a O f d v) {rest : List Value} (hd : decode code pc = .ok (.getfield index, 3)) (K : ∀ T', Stand p l e R s m args below meth c T' locs k n → T'.heap = h → Go p e below G (T'.setTop (mkF m (pc + 3) Ls (v :: rest)))) : Go p e below G (T.setTop (mkF m pc Ls (.ref a :: rest))) := by
  obtain ⟨T', X', e', q⟩ := getF X hx hZ hown w via eT F (g := mkF m pc Ls (.ref a :: rest)) rfl rfl (hb hby hd)
  exact Go.step q (K T' X' e')
theorem g_getS (X : Stand p l e R s m args below meth c T locs k n) (hx : p.tables.exec = Jvm.exec) (hby : c.code = code) (hZ : Z.Warmed39 s.vm) {own : String} (hown : s.vm.findClass own = some m.cls) {R0 O f d host : String} {index : Nat} (w : (Cond.fieldLink own index R0 f d).before a0 Z = true ∨ (Cond.fieldLinkNest own index R0 f d host).before a0 Z = true) (via : Via Z R0 O f d) (eT : T.heap = h) {v : Value} (F : Sta Z h O f d v) (hd : decode code pc = .ok (.getstatic index, 3)) (K : ∀ T', Stand p l e R s m args below meth c T' locs k n → T'.heap = h → Go p e below G (T'.setTop (mkF m (pc + 3) Ls (v :: st)))) : Go p e below G (T.setTop (mkF m pc Ls st)) := by
  obtain ⟨T', X', e', q⟩ := getS2 X hx hZ hown w via eT F (g := mkF m pc Ls st) rfl (hb hby hd)
  exact Go.step q (K T' X' e')
theorem g_putF (X : Stand p l e R s m args below meth c T locs k n) (hx : p.tables.exec = Jvm.exec) (hby : c.code = code) (hZ : Z.Warmed39 s.vm) {own : String} (hown : s.vm.findClass own = some m.cls) {R0 O f d host : String} {index : Nat} (w : (Cond.fieldLink own index R0 f d).before a0 Z = true ∨ (Cond.fieldLinkNest own index R0 f d host).before a0 Z = true) (via : Via Z R0 O f d) (eT : T.heap = h) {C : String} {kk : Nat} {a : Addr} {v old : Value} (F : Fld Z h a O f d old) (E : Exa Z h a C) (L : (Cond.lays C O f d).before a0 Z = true ∨ ((Cond.laysFinal C O f d).before a0 Z = true ∧ own = O ∧ meth.name = "<init>")) (wi : (Cond.instantiable C kk).before a0 Z = true) (ty : FieldType) (hty : parseFieldDescriptor d = some ty) (hn : narrow ty v = v) (hf : fits ty v = true) (N : Fr n0 locs) (ga : n0 ≤ a) {rest : List Value} (hd : decode code pc = .ok (.putfield index, 3)) (K : ∀ T' h', Stand p l e R s m args below meth c T' (locs ++ [⟨a, Jvm.RoadKit.slotOf Z O f d⟩]) k n → T'.heap = h' → Wr h h' a (Jvm.RoadKit.slotOf Z O f d) v → Fld Z h' a O f d v → Fr n0 (locs ++ [⟨a, Jvm.RoadKit.slotOf Z O f d⟩]) → Go p e below G (T'.setTop (mkF m (pc + 3) Ls rest))) : Go p e below G (T.setTop (mkF m pc Ls (v :: .ref a :: rest))) := by
  obtain ⟨T', h', X', e', W, q⟩ := putF X hx hZ hown w via eT F E L wi hty hn hf (g := mkF m pc Ls (v :: .ref a :: rest)) rfl rfl (hb hby hd)
  exact Go.step q (K T' h' X' e' W (F.same W) (Fr.snoc X' N ga))
theorem g_putFN (X : Stand p l e R s m args below meth c T locs k n) (hx : p.tables.exec = Jvm.exec) (hby : c.code = code) (hZ : Z.Warmed39 s.vm) {own : String} (hown : s.vm.findClass own = some m.cls) {R0 O f d : String} {index : Nat} (w : (Cond.fieldLink own index R0 f d).before a0 Z = true) (via : Via Z R0 O f d) (eT : T.heap = h) {C : String} {kk : Nat} {a : Addr} {v old : Value} (F : Fld Z h a O f d old) (E : Exa Z h a C) (L : (Cond.lays C O f d).before a0 Z = true ∨ ((Cond.laysFinal C O f d).before a0 Z = true ∧ own = O ∧ meth.name = "<init>")) (wi : (Cond.instantiable C kk).before a0 Z = true) (ty : FieldType) (hty : parseFieldDescriptor d = some ty) (v' : Value) (hn : narrow ty v = v') (hf : fits ty v' = true) (N : Fr n0 locs) (ga : n0 ≤ a) {rest : List Value} (hd : decode code pc = .ok (.putfield index, 3)) (K : ∀ T' h', Stand p l e R s m args below meth c T' (locs ++ [⟨a, Jvm.RoadKit.slotOf Z O f d⟩]) k n → T'.heap = h' → Wr h h' a (Jvm.RoadKit.slotOf Z O f d) v' → Fld Z h' a O f d v' → Fr n0 (locs ++ [⟨a, Jvm.RoadKit.slotOf Z O f d⟩]) → Go p e below G (T'.setTop (mkF m (pc + 3) Ls rest))) : Go p e below G (T.setTop (mkF m pc Ls (v :: .ref a :: rest))) := by
  obtain ⟨T', h', X', e', W, q⟩ := putFN X hx hZ hown w via eT F E L wi hty hn hf (g := mkF m pc Ls (v :: .ref a :: rest)) rfl rfl (hb hby hd)
  exact Go.step q (K T' h' X' e' W (F.same W) (Fr.snoc X' N ga))
theorem g_new (X : Stand p l e R s m args below meth c T locs k n) (hx : p.tables.exec = Jvm.exec) (hby : c.code = code) (hZ : Z.Warmed39 s.vm) {own : String} (hown : s.vm.findClass own = some m.cls) {C : String} {index j : Nat} (w : (Cond.classLink own index C).before a0 Z = true) (wi : (Cond.instantiable C j).before a0 Z = true) (wz : (Cond.initialized C).before a0 Z = true) (eT : T.heap = h) (hc : k + 1 ≤ R.cells) (hl : n + j ≤ R.slots) (hd : decode code pc = .ok (.new index, 3)) (K : ∀ T' h' x, h.size = x → Stand p l e R s m args below meth c T' locs (k + 1) (n + j) → T'.heap = h' → Ext h h' → Exa Z h' x C → (∀ {O nm d : String} {ty : FieldType}, Laid Z a0 C O nm d → parseFieldDescriptor d = some ty → Fld Z h' x O nm d (defaultValue ty)) → Go p e below G (T'.setTop (mkF m (pc + 3) Ls (.ref x :: st)))) : Go p e below G (T.setTop (mkF m pc Ls st)) := by
  obtain ⟨T', h', X', e', E, A, D, -, q⟩ := newO X hx hZ hown w wi wz eT (g := mkF m pc Ls st) rfl (hb hby hd) hc hl
  exact Go.step q (K T' h' _ rfl X' e' E A D)
theorem g_newarray (X : Stand p l e R s m args below meth c T locs k n) (hx : p.tables.exec = Jvm.exec) (hby : c.code = code) (hZ : Z.Warmed39 s.vm) (aty : ArrayType) (ty : FieldType) (dv : Value) (vs : List Value) (hty : newarray.typeOf aty = ty) (hdv : defaultValue ty = dv) (w : (Cond.arrayClass ty).before a0 Z = true) (eT : T.heap = h) {z : Int32} {rest : List Value} (hn : ¬ z < 0) (cap : Nat) (hvs : List.replicate cap dv = vs) (hcap : z.toNatClampNeg ≤ cap) (hbig : cap * 8 ≤ 536870912) (hc : k + 1 ≤ R.cells) (hl : n + cap ≤ R.slots) (hd : decode code pc = .ok (.newarray aty, 2)) (K : ∀ T' h' kc x, h.size = x → Stand p l e R s m args below meth c T' locs (k + 1) (n + cap) → T'.heap = h' → Ext h h' → Arv Z h' x kc ty z vs dv → Go p e below G (T'.setTop (mkF m (pc + 2) Ls (.ref x :: rest)))) : Go p e below G (T.setTop (mkF m pc Ls (.int z :: rest))) := by
  subst hty hdv hvs
  obtain ⟨T', h', kc, X', e', E, A, q⟩ := newP X hx hZ w eT (g := mkF m pc Ls (.int z :: rest)) rfl (hb hby hd) rfl hn (cap := cap) hcap hbig hc hl
  exact Go.step q (K T' h' kc _ rfl X' e' E ((Arv.new A hn).pad (pad_rep [] _ cap)))
theorem g_anewarray (X : Stand p l e R s m args below meth c T locs k n) (hx : p.tables.exec = Jvm.exec) (hby : c.code = code) (hZ : Z.Warmed39 s.vm) {own : String} (hown : s.vm.findClass own = some m.cls) {C ad : String} {index : Nat} (w1 : (Cond.classLink own index C).before a0 Z = true) (w2 : (Cond.arrayOver (.object C)).before a0 Z = true) (had : "[" ++ (FieldType.object C).toString = ad) (vs : List Value) (eT : T.heap = h) {z : Int32} {rest : List Value} (hn : ¬ z < 0) (cap : Nat) (hvs : List.replicate cap Value.null = vs) (hcap : z.toNatClampNeg ≤ cap) (hbig : cap * 8 ≤ 536870912) (hc : k + 1 ≤ R.cells) (hl : n + cap ≤ R.slots) (hd : decode code pc = .ok (.anewarray index, 3)) (K : ∀ T' h' kc x, h.size = x → Stand p l e R s m args below meth c T' locs (k + 1) (n + cap) → T'.heap = h' → Ext h h' → Arv Z h' x kc (.object C) z vs .null → Exa Z h' x ad → Ovr Z kc C → Go p e below G (T'.setTop (mkF m (pc + 3) Ls (.ref x :: rest)))) : Go p e below G (T.setTop (mkF m pc Ls (.int z :: rest))) := by
  subst hvs
  obtain ⟨T', h', kc, X', e', E, A, Ex, O, q⟩ := newRE X hx hZ hown w1 w2 eT (g := mkF m pc Ls (.int z :: rest)) rfl (hb hby hd) rfl hn (cap := cap) hcap hbig hc hl had
  exact Go.step q (K T' h' kc _ rfl X' e' E ((Arv.new A hn).pad (pad_rep [] _ cap)) Ex O)
theorem g_aastore (X : Stand p l e R s m args below meth c T locs k n) (hx : p.tables.exec = Jvm.exec) (hby : c.code = code) (hZ : Z.Warmed39 s.vm) (eT : T.heap = h) {a : Addr} {kc : ClassId} {C : String} {z : Int32} {vs : List Value} {dv : Value} (V : Arv Z h a kc (.object C) z vs dv) (O : Ovr Z kc C) {j : Int32} {x : Value} (hst : x = .null ∨ ∃ y, x = .ref y ∧ Ins Z h y C true) (i : Nat) (vs' : List Value) (hvs : vs.set i x = vs') (hj : ¬ j < 0 ∧ j < z) (hi : j.toNatClampNeg = i) (hlen : i < vs.length) (N : Fr n0 locs) (ga : n0 ≤ a) {rest : List Value} (hd : decode code pc = .ok (.aastore, 1)) (K : ∀ T' h', Stand p l e R s m args below meth c T' (locs ++ [⟨a, j.toNatClampNeg⟩]) k n → T'.heap = h' → Wr h h' a j.toNatClampNeg x → Arv Z h' a kc (.object C) z vs' dv → Fr n0 (locs ++ [⟨a, j.toNatClampNeg⟩]) → Go p e below G (T'.setTop (mkF m (pc + 1) Ls rest))) : Go p e below G (T.setTop (mkF m pc Ls (x :: .int j :: .ref a :: rest))) := by
  subst hvs
  obtain ⟨cl, Ar, q1, S, M, H, F⟩ := V
  have So : Sto Z h a x := by
    rcases hst with rfl | ⟨y, rfl, I⟩
    · exact Or.inl rfl
    · exact Sto.ofV Ar q1 O I
  have fi : fits (.object C) x = true := by rcases hst with rfl | ⟨y, rfl, I⟩ <;> rfl
  obtain ⟨T', h', X', e', W, q⟩ := stR X hx hZ eT Ar (j := j) (inb_of S hj) rfl So (g := mkF m pc Ls (x :: .int j :: .ref a :: rest)) rfl rfl (hb hby hd)
  exact Go.step q (K T' h' X' e' W (Arv.set Ar q1 S M H F fi W i hi hlen) (Fr.snoc X' N ga))
theorem g_arraycopy (X : Stand p l e R s m args below meth c T locs k n) (hx : p.tables.exec = Jvm.exec) (hby : c.code = code) (hZ : Z.Warmed39 s.vm) {own : String} (hown : s.vm.findClass own = some m.cls) {index : Nat} (w1 : (Cond.methodLink own index Jvm.Stand.acN).before a0 Z = true) (w2 : (Cond.native Jvm.Stand.acN).before a0 Z = true) (w3 : (Cond.static Jvm.Stand.acN).before a0 Z = true) (w4 : (Cond.initialized "java/lang/System").before a0 Z = true) (eT : T.heap = h) {a b : Addr} {ka kb : ClassId} {ty ty' : FieldType} {z z' sp dp nn : Int32} {vs vd us : List Value} {dv dd : Value} (A : Arv Z h a ka ty z vs dv) (B : Arv Z h b kb ty' z' vd dd) (hty : (ty = ty' ∧ refKind ty = false) ∨ (refKind ty = true ∧ refKind ty' = true ∧ StoL Z h b us)) (h1 : ¬ sp < 0) (h2 : ¬ dp < 0) (h3 : ¬ nn < 0) (h4 : sp.toNatClampNeg + nn.toNatClampNeg ≤ z.toNatClampNeg) (h5 : dp.toNatClampNeg + nn.toNatClampNeg ≤ z'.toNatClampNeg) (hus : us = (List.range nn.toNatClampNeg).map fun i => vs.getD (sp.toNatClampNeg + i) dv) (hl : dp.toNatClampNeg + nn.toNatClampNeg ≤ vd.length) (N : Fr n0 locs) (ge : n0 ≤ b) (hsize : Ls.size = c.maxLocals) {rest : List Value} (hd : decode code pc = .ok (.invokestatic index, 3)) (hf : 1 ≤ R.frames) (hlo : (rest.map fun v => v.category).sum + 18 ≤ R.locals) (K : ∀ T' h' L, Stand p l e R s m args below meth c T' L k n → T'.heap = h' → Fr n0 L → Keep h h' [b] → Arv Z h' b kb ty' z' (vd.take dp.toNatClampNeg ++ us ++ vd.drop (dp.toNatClampNeg + nn.toNatClampNeg)) dd → Go p e below G (T'.setTop (mkF m (pc + 3) Ls rest))) : Go p e below G (T.setTop (mkF m pc Ls (.int nn :: .int dp :: .ref b :: .int sp :: .ref a :: rest))) := by
  obtain ⟨T', h', L, X', e', N', K', V', q⟩ := cpA X hx hZ hown w1 w2 w3 w4 eT A B hty h1 h2 h3 h4 h5 hus hl N ge (g := mkF m pc Ls (.int nn :: .int dp :: .ref b :: .int sp :: .ref a :: rest)) rfl hsize rfl (hb hby hd) hf (W := (rest.map fun v => v.category).sum) (by show 2 * 0 + _ ≤ _; omega) (by show _ + (7 + 11) ≤ _; omega)
  exact Go.step q (K T' h' L X' e' N' K' V')
theorem g_iastore (X : Stand p l e R s m args below meth c T locs k n) (hx : p.tables.exec = Jvm.exec) (hby : c.code = code) (hZ : Z.Warmed39 s.vm) (eT : T.heap = h) {a : Addr} {kc : ClassId} {z : Int32} {vs : List Value} {dv : Value} (V : Arv Z h a kc .int z vs dv) {j : Int32} {x : Int32} (i : Nat) (vs' : List Value) (hvs : vs.set i (.int x) = vs') (hj : ¬ j < 0 ∧ j < z) (hi : j.toNatClampNeg = i) (hlen : i < vs.length) (N : Fr n0 locs) (ga : n0 ≤ a) {rest : List Value} (hd : decode code pc = .ok (.iastore, 1)) (K : ∀ T' h', Stand p l e R s m args below meth c T' (locs ++ [⟨a, j.toNatClampNeg⟩]) k n → T'.heap = h' → Wr h h' a j.toNatClampNeg (.int x) → Arv Z h' a kc .int z vs' dv → Fr n0 (locs ++ [⟨a, j.toNatClampNeg⟩]) → Go p e below G (T'.setTop (mkF m (pc + 1) Ls rest))) : Go p e below G (T.setTop (mkF m pc Ls (.int x :: .int j :: .ref a :: rest))) := by
  subst hvs
  obtain ⟨cl, Ar, q1, S, M, H, F⟩ := V
  obtain ⟨T', h', X', e', W, q⟩ := stI X hx hZ eT Ar (j := j) (inb_of S hj) (g := mkF m pc Ls (.int x :: .int j :: .ref a :: rest)) rfl rfl (hb hby hd)
  exact Go.step q (K T' h' X' e' W (Arv.set Ar q1 S M H F rfl W i hi hlen) (Fr.snoc X' N ga))
theorem g_castore (X : Stand p l e R s m args below meth c T locs k n) (hx : p.tables.exec = Jvm.exec) (hby : c.code = code) (hZ : Z.Warmed39 s.vm) (eT : T.heap = h) {a : Addr} {kc : ClassId} {z : Int32} {vs : List Value} {dv : Value} (V : Arv Z h a kc .char z vs dv) {j : Int32} {x : Int32} (i : Nat) (vs' : List Value) (hvs : vs.set i (.int (nar .char x)) = vs') (hj : ¬ j < 0 ∧ j < z) (hi : j.toNatClampNeg = i) (hlen : i < vs.length) (N : Fr n0 locs) (ga : n0 ≤ a) {rest : List Value} (hd : decode code pc = .ok (.castore, 1)) (K : ∀ T' h', Stand p l e R s m args below meth c T' (locs ++ [⟨a, j.toNatClampNeg⟩]) k n → T'.heap = h' → Wr h h' a j.toNatClampNeg (.int (nar .char x)) → Arv Z h' a kc .char z vs' dv → Fr n0 (locs ++ [⟨a, j.toNatClampNeg⟩]) → Go p e below G (T'.setTop (mkF m (pc + 1) Ls rest))) : Go p e below G (T.setTop (mkF m pc Ls (.int x :: .int j :: .ref a :: rest))) := by
  subst hvs
  obtain ⟨cl, Ar, q1, S, M, H, F⟩ := V
  obtain ⟨T', h', X', e', W, q⟩ := stC X hx hZ eT Ar (j := j) (inb_of S hj) (g := mkF m pc Ls (.int x :: .int j :: .ref a :: rest)) rfl rfl (hb hby hd)
  exact Go.step q (K T' h' X' e' W (Arv.set Ar q1 S M H F (fits_nar_char _) W i hi hlen) (Fr.snoc X' N ga))
theorem g_sastore (X : Stand p l e R s m args below meth c T locs k n) (hx : p.tables.exec = Jvm.exec) (hby : c.code = code) (hZ : Z.Warmed39 s.vm) (eT : T.heap = h) {a : Addr} {kc : ClassId} {z : Int32} {vs : List Value} {dv : Value} (V : Arv Z h a kc .short z vs dv) {j : Int32} {x : Int32} (i : Nat) (vs' : List Value) (hvs : vs.set i (.int (nar .short x)) = vs') (hj : ¬ j < 0 ∧ j < z) (hi : j.toNatClampNeg = i) (hlen : i < vs.length) (N : Fr n0 locs) (ga : n0 ≤ a) {rest : List Value} (hd : decode code pc = .ok (.sastore, 1)) (K : ∀ T' h', Stand p l e R s m args below meth c T' (locs ++ [⟨a, j.toNatClampNeg⟩]) k n → T'.heap = h' → Wr h h' a j.toNatClampNeg (.int (nar .short x)) → Arv Z h' a kc .short z vs' dv → Fr n0 (locs ++ [⟨a, j.toNatClampNeg⟩]) → Go p e below G (T'.setTop (mkF m (pc + 1) Ls rest))) : Go p e below G (T.setTop (mkF m pc Ls (.int x :: .int j :: .ref a :: rest))) := by
  subst hvs
  obtain ⟨cl, Ar, q1, S, M, H, F⟩ := V
  obtain ⟨T', h', X', e', W, q⟩ := stS X hx hZ eT Ar (j := j) (inb_of S hj) (g := mkF m pc Ls (.int x :: .int j :: .ref a :: rest)) rfl rfl (hb hby hd)
  exact Go.step q (K T' h' X' e' W (Arv.set Ar q1 S M H F (fits_nar_short _) W i hi hlen) (Fr.snoc X' N ga))
theorem g_bastore (X : Stand p l e R s m args below meth c T locs k n) (hx : p.tables.exec = Jvm.exec) (hby : c.code = code) (hZ : Z.Warmed39 s.vm) (eT : T.heap = h) {a : Addr} {kc : ClassId} {z : Int32} {vs : List Value} {dv : Value} (V : Arv Z h a kc .byte z vs dv) {j : Int32} {x : Int32} (i : Nat) (vs' : List Value) (hvs : vs.set i (.int (nar .byte x)) = vs') (hj : ¬ j < 0 ∧ j < z) (hi : j.toNatClampNeg = i) (hlen : i < vs.length) (N : Fr n0 locs) (ga : n0 ≤ a) {rest : List Value} (hd : decode code pc = .ok (.bastore, 1)) (K : ∀ T' h', Stand p l e R s m args below meth c T' (locs ++ [⟨a, j.toNatClampNeg⟩]) k n → T'.heap = h' → Wr h h' a j.toNatClampNeg (.int (nar .byte x)) → Arv Z h' a kc .byte z vs' dv → Fr n0 (locs ++ [⟨a, j.toNatClampNeg⟩]) → Go p e below G (T'.setTop (mkF m (pc + 1) Ls rest))) : Go p e below G (T.setTop (mkF m pc Ls (.int x :: .int j :: .ref a :: rest))) := by
  subst hvs
  obtain ⟨cl, Ar, q1, S, M, H, F⟩ := V
  obtain ⟨T', h', X', e', W, q⟩ := stB X hx hZ eT Ar (j := j) (inb_of S hj) (g := mkF m pc Ls (.int x :: .int j :: .ref a :: rest)) rfl rfl (hb hby hd)
  exact Go.step q (K T' h' X' e' W (Arv.set Ar q1 S M H F (fits_nar_byte _) W i hi hlen) (Fr.snoc X' N ga))
theorem g_lastore (X : Stand p l e R s m args below meth c T locs k n) (hx : p.tables.exec = Jvm.exec) (hby : c.code = code) (hZ : Z.Warmed39 s.vm) (eT : T.heap = h) {a : Addr} {kc : ClassId} {z : Int32} {vs : List Value} {dv : Value} (V : Arv Z h a kc .long z vs dv) {j : Int32} {x : Int64} (i : Nat) (vs' : List Value) (hvs : vs.set i (.long x) = vs') (hj : ¬ j < 0 ∧ j < z) (hi : j.toNatClampNeg = i) (hlen : i < vs.length) (N : Fr n0 locs) (ga : n0 ≤ a) {rest : List Value} (hd : decode code pc = .ok (.lastore, 1)) (K : ∀ T' h', Stand p l e R s m args below meth c T' (locs ++ [⟨a, j.toNatClampNeg⟩]) k n → T'.heap = h' → Wr h h' a j.toNatClampNeg (.long x) → Arv Z h' a kc .long z vs' dv → Fr n0 (locs ++ [⟨a, j.toNatClampNeg⟩]) → Go p e below G (T'.setTop (mkF m (pc + 1) Ls rest))) : Go p e below G (T.setTop (mkF m pc Ls (.long x :: .int j :: .ref a :: rest))) := by
  subst hvs
  obtain ⟨cl, Ar, q1, S, M, H, F⟩ := V
  obtain ⟨T', h', X', e', W, q⟩ := stJ X hx hZ eT Ar (j := j) (inb_of S hj) (g := mkF m pc Ls (.long x :: .int j :: .ref a :: rest)) rfl rfl (hb hby hd)
  exact Go.step q (K T' h' X' e' W (Arv.set Ar q1 S M H F rfl W i hi hlen) (Fr.snoc X' N ga))
theorem g_iaload (X : Stand p l e R s m args below meth c T locs k n) (hx : p.tables.exec = Jvm.exec) (hby : c.code = code) (hZ : Z.Warmed39 s.vm) (eT : T.heap = h) {a : Addr} {kc : ClassId} {z : Int32} {vs : List Value} {dv : Value} (V : Arv Z h a kc .int z vs dv) {j : Int32} (v : Value) (hj : ¬ j < 0 ∧ j < z) (hv : vs.getD j.toNatClampNeg dv = v) {rest : List Value} (hd : decode code pc = .ok (.iaload, 1)) (K : Go p e below G (T.setTop (mkF m (pc + 1) Ls (v :: rest)))) : Go p e below G (T.setTop (mkF m pc Ls (.int j :: .ref a :: rest))) := by
  obtain ⟨cl, Ar, q1, S, M, H, F⟩ := V
  have hin := inb_of S hj
  exact Go.step (fun t q => X.iaload hx (j := j) (v := v) (by rw [eT]; exact Ar.1) (State.isArrayOf_alike hZ.alike Ar.2.1) Ar.2.2 hin (H.at hin hv) (g := mkF m pc Ls (.int j :: .ref a :: rest)) rfl rfl (hb hby hd) t q) K
theorem g_caload (X : Stand p l e R s m args below meth c T locs k n) (hx : p.tables.exec = Jvm.exec) (hby : c.code = code) (hZ : Z.Warmed39 s.vm) (eT : T.heap = h) {a : Addr} {kc : ClassId} {z : Int32} {vs : List Value} {dv : Value} (V : Arv Z h a kc .char z vs dv) {j : Int32} (v : Value) (hj : ¬ j < 0 ∧ j < z) (hv : vs.getD j.toNatClampNeg dv = v) {rest : List Value} (hd : decode code pc = .ok (.caload, 1)) (K : Go p e below G (T.setTop (mkF m (pc + 1) Ls (v :: rest)))) : Go p e below G (T.setTop (mkF m pc Ls (.int j :: .ref a :: rest))) := by
  obtain ⟨cl, Ar, q1, S, M, H, F⟩ := V
  have hin := inb_of S hj
  exact Go.step (fun t q => X.caload hx (j := j) (v := v) (by rw [eT]; exact Ar.1) (State.isArrayOf_alike hZ.alike Ar.2.1) Ar.2.2 hin (H.at hin hv) (g := mkF m pc Ls (.int j :: .ref a :: rest)) rfl rfl (hb hby hd) t q) K
theorem g_saload (X : Stand p l e R s m args below meth c T locs k n) (hx : p.tables.exec = Jvm.exec) (hby : c.code = code) (hZ : Z.Warmed39 s.vm) (eT : T.heap = h) {a : Addr} {kc : ClassId} {z : Int32} {vs : List Value} {dv : Value} (V : Arv Z h a kc .short z vs dv) {j : Int32} (v : Value) (hj : ¬ j < 0 ∧ j < z) (hv : vs.getD j.toNatClampNeg dv = v) {rest : List Value} (hd : decode code pc = .ok (.saload, 1)) (K : Go p e below G (T.setTop (mkF m (pc + 1) Ls (v :: rest)))) : Go p e below G (T.setTop (mkF m pc Ls (.int j :: .ref a :: rest))) := by
  obtain ⟨cl, Ar, q1, S, M, H, F⟩ := V
  have hin := inb_of S hj
  exact Go.step (fun t q => X.saload hx (j := j) (v := v) (by rw [eT]; exact Ar.1) (State.isArrayOf_alike hZ.alike Ar.2.1) Ar.2.2 hin (H.at hin hv) (g := mkF m pc Ls (.int j :: .ref a :: rest)) rfl rfl (hb hby hd) t q) K
theorem g_baload (X : Stand p l e R s m args below meth c T locs k n) (hx : p.tables.exec = Jvm.exec) (hby : c.code = code) (hZ : Z.Warmed39 s.vm) (eT : T.heap = h) {a : Addr} {kc : ClassId} {z : Int32} {vs : List Value} {dv : Value} (V : Arv Z h a kc .byte z vs dv) {j : Int32} (v : Value) (hj : ¬ j < 0 ∧ j < z) (hv : vs.getD j.toNatClampNeg dv = v) {rest : List Value} (hd : decode code pc = .ok (.baload, 1)) (K : Go p e below G (T.setTop (mkF m (pc + 1) Ls (v :: rest)))) : Go p e below G (T.setTop (mkF m pc Ls (.int j :: .ref a :: rest))) := by
  obtain ⟨cl, Ar, q1, S, M, H, F⟩ := V
  have hin := inb_of S hj
  exact Go.step (fun t q => X.baloadBytes hx (j := j) (v := v) (by rw [eT]; exact Ar.1) (State.isArrayOf_alike hZ.alike Ar.2.1) Ar.2.2 hin (H.at hin hv) (g := mkF m pc Ls (.int j :: .ref a :: rest)) rfl rfl (hb hby hd) t q) K
theorem g_laload (X : Stand p l e R s m args below meth c T locs k n) (hx : p.tables.exec = Jvm.exec) (hby : c.code = code) (hZ : Z.Warmed39 s.vm) (eT : T.heap = h) {a : Addr} {kc : ClassId} {z : Int32} {vs : List Value} {dv : Value} (V : Arv Z h a kc .long z vs dv) {j : Int32} (v : Value) (hj : ¬ j < 0 ∧ j < z) (hv : vs.getD j.toNatClampNeg dv = v) {rest : List Value} (hd : decode code pc = .ok (.laload, 1)) (K : Go p e below G (T.setTop (mkF m (pc + 1) Ls (v :: rest)))) : Go p e below G (T.setTop (mkF m pc Ls (.int j :: .ref a :: rest))) := by
  obtain ⟨cl, Ar, q1, S, M, H, F⟩ := V
  have hin := inb_of S hj
  exact Go.step (fun t q => X.laload hx (j := j) (v := v) (by rw [eT]; exact Ar.1) (State.isArrayOf_alike hZ.alike Ar.2.1) Ar.2.2 hin (H.at hin hv) (g := mkF m pc Ls (.int j :: .ref a :: rest)) rfl rfl (hb hby hd) t q) K
theorem g_aaload (X : Stand p l e R s m args below meth c T locs k n) (hx : p.tables.exec = Jvm.exec) (hby : c.code = code) (hZ : Z.Warmed39 s.vm) (eT : T.heap = h) {a : Addr} {kc : ClassId} {ty : FieldType} {z : Int32} {vs : List Value} {dv : Value} (V : Arv Z h a kc ty z vs dv) (hty : ty.isReference = true) {j : Int32} (v : Value) (hj : ¬ j < 0 ∧ j < z) (hv : vs.getD j.toNatClampNeg dv = v) {rest : List Value} (hd : decode code pc = .ok (.aaload, 1)) (K : Go p e below G (T.setTop (mkF m (pc + 1) Ls (v :: rest)))) : Go p e below G (T.setTop (mkF m pc Ls (.int j :: .ref a :: rest))) := by
  obtain ⟨cl, Ar, q1, S, M, H, F⟩ := V
  have hin := inb_of S hj
  exact Go.step (fun t q => X.aaload hx (j := j) (v := v) (by rw [eT]; exact Ar.1) (State.isArrayOf_alike hZ.alike Ar.2.1) hty Ar.2.2 hin (H.at hin hv) (g := mkF m pc Ls (.int j :: .ref a :: rest)) rfl rfl (hb hby hd) t q) K
theorem g_arraylength (X : Stand p l e R s m args below meth c T locs k n) (hx : p.tables.exec = Jvm.exec) (hby : c.code = code) (hZ : Z.Warmed39 s.vm) (eT : T.heap = h) {a : Addr} {kc : ClassId} {ty : FieldType} {z : Int32} {vs : List Value} {dv : Value} (V : Arv Z h a kc ty z vs dv) {rest : List Value} (hd : decode code pc = .ok (.arraylength, 1)) (K : Go p e below G (T.setTop (mkF m (pc + 1) Ls (.int z :: rest)))) : Go p e below G (T.setTop (mkF m pc Ls (.ref a :: rest))) := by
  obtain ⟨cl, Ar, q1, S, M, H, F⟩ := V
  refine Go.step (fun t q => X.arraylength hx (by rw [eT]; exact Ar.1) (State.isArrayOf_alike hZ.alike Ar.2.1) (g := mkF m pc Ls (.ref a :: rest)) rfl rfl (hb hby hd) t q) ?_
  rw [len_of S M]
  exact K
theorem g_checkcast (X : Stand p l e R s m args below meth c T locs k n) (hx : p.tables.exec = Jvm.exec) (hby : c.code = code) (hZ : Z.Warmed39 s.vm) {own : String} (hown : s.vm.findClass own = some m.cls) {C : String} {index : Nat} (w : (Cond.classLink own index C).before a0 Z = true) (eT : T.heap = h) {a : Addr} (I : Ins Z h a C true) {rest : List Value} (hd : decode code pc = .ok (.checkcast index, 3)) (K : ∀ T', Stand p l e R s m args below meth c T' locs k n → T'.heap = h → Go p e below G (T'.setTop (mkF m (pc + 3) Ls (.ref a :: rest)))) : Go p e below G (T.setTop (mkF m pc Ls (.ref a :: rest))) := by
  obtain ⟨T', X', e', q⟩ := castY X hx hZ hown w eT I (g := mkF m pc Ls (.ref a :: rest)) rfl rfl (hb hby hd)
  exact Go.step q (K T' X' e')
theorem g_instanceof (X : Stand p l e R s m args below meth c T locs k n) (hx : p.tables.exec = Jvm.exec) (hby : c.code = code) (hZ : Z.Warmed39 s.vm) {own : String} (hown : s.vm.findClass own = some m.cls) {C : String} {index : Nat} (w : (Cond.classLink own index C).before a0 Z = true) (eT : T.heap = h) {a : Addr} (I : Ins Z h a C true) {rest : List Value} (hd : decode code pc = .ok (.instanceof index, 3)) (K : ∀ T', Stand p l e R s m args below meth c T' locs k n → T'.heap = h → Go p e below G (T'.setTop (mkF m (pc + 3) Ls (.int 1 :: rest)))) : Go p e below G (T.setTop (mkF m pc Ls (.ref a :: rest))) := by
  obtain ⟨T', X', e', q⟩ := instY X hx hZ hown w eT I (g := mkF m pc Ls (.ref a :: rest)) rfl rfl (hb hby hd)
  exact Go.step q (K T' X' e')
theorem g_instNo (X : Stand p l e R s m args below meth c T locs k n) (hx : p.tables.exec = Jvm.exec) (hby : c.code = code) (hZ : Z.Warmed39 s.vm) {own : String} (hown : s.vm.findClass own = some m.cls) {C K : String} {index : Nat} (w : (Cond.classLink own index K).before a0 Z = true) (eT : T.heap = h) {a : Addr} (E : Exa Z h a C) (F : ∃ c t, Z.vm.findClass C = some c ∧ Z.vm.findClass K = some t ∧ Z.vm.assignable c t = false) {rest : List Value} (hd : decode code pc = .ok (.instanceof index, 3)) (K' : ∀ T', Stand p l e R s m args below meth c T' locs k n → T'.heap = h → Go p e below G (T'.setTop (mkF m (pc + 3) Ls (.int 0 :: rest)))) : Go p e below G (T.setTop (mkF m pc Ls (.ref a :: rest))) := by
  obtain ⟨T', X', e', q⟩ := instNo X hx hZ hown w eT E F (g := mkF m pc Ls (.ref a :: rest)) rfl rfl (hb hby hd)
  exact Go.step q (K' T' X' e')
theorem g_instanceofNull (X : Stand p l e R s m args below meth c T locs k n) (hx : p.tables.exec = Jvm.exec) (hby : c.code = code) {index : Nat} {rest : List Value} (hd : decode code pc = .ok (.instanceof index, 3)) (K : Go p e below G (T.setTop (mkF m (pc + 3) Ls (.int 0 :: rest)))) : Go p e below G (T.setTop (mkF m pc Ls (.null :: rest))) := Go.step (fun t q => X.instanceofNull hx (g := mkF m pc Ls (.null :: rest)) rfl rfl (hb hby hd) t q) K
theorem g_checkcastNull (X : Stand p l e R s m args below meth c T locs k n) (hx : p.tables.exec = Jvm.exec) (hby : c.code = code) {index : Nat} {rest : List Value} (hd : decode code pc = .ok (.checkcast index, 3)) (K : Go p e below G (T.setTop (mkF m (pc + 3) Ls (.null :: rest)))) : Go p e below G (T.setTop (mkF m pc Ls (.null :: rest))) := Go.step (fun t q => X.checkcastNull hx (g := mkF m pc Ls (.null :: rest)) rfl rfl (hb hby hd) t q) K
theorem g_initO (X : Stand p l e R s m args below meth c T locs k n) (hx : p.tables.exec = Jvm.exec) (hby : c.code = code) (hZ : Z.Warmed39 s.vm) {own : String} (hown : s.vm.findClass own = some m.cls) {idx : Nat} (w1 : (Cond.methodLink own idx Lib.objectInit).before a0 Z = true) (w2 : (Cond.instanceMethod Lib.objectInit).before a0 Z = true) (w3 : (Cond.code Lib.objectInit ⟨#[0xb1]⟩ 1 none).before a0 Z = true) (eT : T.heap = h) (hsize : Ls.size = c.maxLocals) {a : Addr} {rest : List Value} (hf : 1 ≤ R.frames) (hl : (rest.map fun v => v.category).sum + 12 ≤ R.locals) (hd : decode code pc = .ok (.invokespecial idx, 3)) (K : ∀ T', Stand p l e R s m args below meth c T' locs k n → T'.heap = h → Go p e below G (T'.setTop (mkF m (pc + 3) Ls rest))) : Go p e below G (T.setTop (mkF m pc Ls (.ref a :: rest))) := by
  obtain ⟨T', X', e', q⟩ := initO X hx hZ hown w1 w2 w3 eT (g := mkF m pc Ls (.ref a :: rest)) rfl hsize rfl (hb hby hd) hf (W := (rest.map fun v => v.category).sum) (by show 2 * 0 + _ ≤ _; omega) hl
  exact Go.step q (K T' X' e')
theorem g_static (X : Stand p l e R s m args below meth c T locs k n) (hx : p.tables.exec = Jvm.exec) (hby : c.code = code) (hZ : Z.Warmed39 s.vm) {own : String} (hown : s.vm.findClass own = some m.cls) {index : Nat} {y : MethodName} {bytes : ByteArray} {maxL : Nat} {ret : Option FieldType} {rm : Room} {as' : Array Value} {Q : Option Value → Heap → List Loc → Prop} (hM : MetFree l y (head1 [Cond.code y bytes maxL ret] rm) (fun a U => a = as' ∧ Z.Warmed39 U.vm ∧ U.heap = h) (fun _ _ _ _ _ => True) (fun _ U o U' => RetG U Q rm.cells rm.slots U' o)) (wl : (Cond.methodLink own index y).before a0 Z = true) (ws : (Cond.static y).before a0 Z = true) (wz : (Cond.initialized y.cls).before a0 Z = true) (wc : (Cond.code y bytes maxL ret).before a0 Z = true) (hy : y.cls ≠ "java/lang/invoke/MethodHandle" ∧ y.cls ≠ "java/lang/invoke/VarHandle") (eT : T.heap = h) (hsize : Ls.size = c.maxLocals) (argsL : List Value) {rest : List Value} (hlen : ∀ sig, parseMethodDescriptor y.desc = some sig → argsL.length = sig.parameters.length) (has : argsL.toArray = as') (hst : st = argsL.reverse ++ rest) (hf : rm.frames + 1 ≤ R.frames) (hl : (rest.map fun v => v.category).sum + (maxL + 11) + rm.locals ≤ R.locals) (hc : k + rm.cells ≤ R.cells) (hs : n + rm.slots ≤ R.slots) (hd : decode code pc = .ok (.invokestatic index, 3)) (K : ∀ v T' L, Stand p l e R s m args below meth c T' (locs ++ L) (k + rm.cells) (n + rm.slots) → Q v T'.heap L → Go p e below G (T'.setTop (mkF m (pc + 3) Ls (v.toList ++ rest)))) : Go p e below G (T.setTop (mkF m pc Ls st)) := by
  obtain ⟨v, _, ⟨T', L', k', n'⟩, -, X', ⟨L, hq, l1, l2, l3⟩, q⟩ := Jvm.LawKit.callS X hx (y := y) hown (mvT hZ wl) (mvT hZ ws) (mvT hZ wz) (mvT hZ wc) hy (backOf (W := (rest.map fun v => v.category).sum) hM hZ wc wz hf hl) (g := mkF m pc Ls st) rfl hsize (argsL := argsL) (rest := rest) hlen hst (by show 2 * 0 + _ ≤ _; omega) (hb hby hd) (fun _ _ => ⟨has, eT, hc, hs⟩)
  dsimp only [Pt.U, Pt.locs, Pt.cells, Pt.slots] at X' l1 l2 l3 q hq
  subst l1 l2 l3
  exact Go.step q (K v T' L X' hq)
theorem g_special (X : Stand p l e R s m args below meth c T locs k n) (hx : p.tables.exec = Jvm.exec) (hby : c.code = code) (hZ : Z.Warmed39 s.vm) {own : String} (hown : s.vm.findClass own = some m.cls) {index : Nat} {y : MethodName} {bytes : ByteArray} {maxL : Nat} {ret : Option FieldType} {rm : Room} {as' : Array Value} {Q : Option Value → Heap → List Loc → Prop} (hM : MetFree l y (head1 [Cond.code y bytes maxL ret] rm) (fun a U => a = as' ∧ Z.Warmed39 U.vm ∧ U.heap = h) (fun _ _ _ _ _ => True) (fun _ U o U' => RetG U Q rm.cells rm.slots U' o)) (hy1 : y.name = "<init>") (hret : ret = none) (wl : (Cond.methodLink own index y).before a0 Z = true) (ws : (Cond.instanceMethod y).before a0 Z = true) (wz : (Cond.initialized y.cls).before a0 Z = true) (wc : (Cond.code y bytes maxL ret).before a0 Z = true) (hy : y.cls ≠ "java/lang/invoke/MethodHandle" ∧ y.cls ≠ "java/lang/invoke/VarHandle") (eT : T.heap = h) (hsize : Ls.size = c.maxLocals) {a : Addr} (argsL : List Value) {rest : List Value} (hlen : ∀ sig, parseMethodDescriptor y.desc = some sig → argsL.length = sig.parameters.length) (has : (.ref a :: argsL).toArray = as') (hst : st = argsL.reverse ++ .ref a :: rest) (hf : rm.frames + 1 ≤ R.frames) (hl : (rest.map fun v => v.category).sum + (maxL + 11) + rm.locals ≤ R.locals) (hc : k + rm.cells ≤ R.cells) (hs : n + rm.slots ≤ R.slots) (hd : decode code pc = .ok (.invokespecial index, 3)) (K : ∀ v T' L, Stand p l e R s m args below meth c T' (locs ++ L) (k + rm.cells) (n + rm.slots) → Q v T'.heap L → Go p e below G (T'.setTop (mkF m (pc + 3) Ls (v.toList ++ rest)))) : Go p e below G (T.setTop (mkF m pc Ls st)) := by
  subst hret
  obtain ⟨v, _, ⟨T', L', k', n'⟩, -, X', ⟨L, hq, l1, l2, l3⟩, q⟩ := X.specialBack hx (y := y) hy1 hown (mvT hZ wl) (mvT hZ ws) (mvT hZ wc) hy (backOf (W := (rest.map fun v => v.category).sum) hM hZ wc wz hf hl) (g := mkF m pc Ls st) rfl hsize (Steps.refl _) (a := a) (argsL := argsL) (rest := rest) hlen hst (by show 2 * 0 + _ ≤ _; omega) (hb hby hd) (fun _ _ => ⟨has, eT, hc, hs⟩)
  dsimp only [Pt.U, Pt.locs, Pt.cells, Pt.slots] at X' l1 l2 l3 q hq
  subst l1 l2 l3
  exact Go.step (fun t r => q.trans r) (K v T' L X' hq)
theorem g_virtual (X : Stand p l e R s m args below meth c T locs k n) (hx : p.tables.exec = Jvm.exec) (hby : c.code = code) (hZ : Z.Warmed39 s.vm) {own : String} (hown : s.vm.findClass own = some m.cls) {C : String} {index : Nat} {z : MethodName} {y : MethodName} {bytes : ByteArray} {maxL : Nat} {ret : Option FieldType} {rm : Room} {as' : Array Value} {Q : Option Value → Heap → List Loc → Prop} (hM : MetFree l y (head1 [Cond.code y bytes maxL ret] rm) (fun a U => a = as' ∧ Z.Warmed39 U.vm ∧ U.heap = h) (fun _ _ _ _ _ => True) (fun _ U o U' => RetG U Q rm.cells rm.slots U' o)) (wl : (Cond.methodLink own index z).before a0 Z = true) (wd : (Cond.declares z).before a0 Z = true) (hnf : NotFace s z) (wsel : (Cond.selects C z y).before a0 Z = true) (ws : (Cond.instanceMethod y).before a0 Z = true) (wz : (Cond.initialized y.cls).before a0 Z = true) (wc : (Cond.code y bytes maxL ret).before a0 Z = true) (hy : z.cls ≠ "java/lang/invoke/MethodHandle" ∧ z.cls ≠ "java/lang/invoke/VarHandle") (eT : T.heap = h) {a : Addr} (E : Exa Z h a C) (hsize : Ls.size = c.maxLocals) (argsL : List Value) {rest : List Value} (hlen : ∀ sig, parseMethodDescriptor z.desc = some sig → argsL.length = sig.parameters.length) (has : (.ref a :: argsL).toArray = as') (hst : st = argsL.reverse ++ .ref a :: rest) (hf : rm.frames + 1 ≤ R.frames) (hl : (rest.map fun v => v.category).sum + (maxL + 11) + rm.locals ≤ R.locals) (hc : k + rm.cells ≤ R.cells) (hs : n + rm.slots ≤ R.slots) (hd : decode code pc = .ok (.invokevirtual index, 3)) (K : ∀ v T' L, Stand p l e R s m args below meth c T' (locs ++ L) (k + rm.cells) (n + rm.slots) → Q v T'.heap L → Go p e below G (T'.setTop (mkF m (pc + 3) Ls (v.toList ++ rest)))) : Go p e below G (T.setTop (mkF m pc Ls st)) := by
  obtain ⟨cq, kq, qa, qb, qc⟩ := isOf hZ eT E
  obtain ⟨v, _, ⟨T', L', k', n'⟩, -, X', ⟨L, hq, l1, l2, l3⟩, q⟩ := X.virtualBack hx (y := z) (z := y) hown (mvT hZ wl) (mvT hZ wd) hnf (mvT hZ wsel) (mvT hZ ws) hy (backOf (W := (rest.map fun v => v.category).sum) hM hZ wc wz hf hl) qa qc (g := mkF m pc Ls st) rfl hsize (Steps.refl _) (argsL := argsL) (rest := rest) hlen hst (by show 2 * 0 + _ ≤ _; omega) (hb hby hd) (fun _ _ => ⟨has, eT, hc, hs⟩)
  dsimp only [Pt.U, Pt.locs, Pt.cells, Pt.slots] at X' l1 l2 l3 q hq
  subst l1 l2 l3
  exact Go.step (fun t r => q.trans r) (K v T' L X' hq)
theorem g_private (X : Stand p l e R s m args below meth c T locs k n) (hx : p.tables.exec = Jvm.exec) (hby : c.code = code) (hZ : Z.Warmed39 s.vm) {own : String} (hown : s.vm.findClass own = some m.cls) {index j : Nat} {y : MethodName} {bytes : ByteArray} {maxL : Nat} {ret : Option FieldType} {rm : Room} {as' : Array Value} {Q : Option Value → Heap → List Loc → Prop} (hM : MetFree l y (head1 [Cond.code y bytes maxL ret] rm) (fun a U => a = as' ∧ Z.Warmed39 U.vm ∧ U.heap = h) (fun _ _ _ _ _ => True) (fun _ U o U' => RetG U Q rm.cells rm.slots U' o)) (wl : (Cond.methodLink own index y).before a0 Z = true) (ws : (Cond.instanceMethod y).before a0 Z = true) (wi : (Cond.instantiable y.cls j).before a0 Z = true) (wp : (Cond.privateMethod y).before a0 Z = true) (wz : (Cond.initialized y.cls).before a0 Z = true) (wc : (Cond.code y bytes maxL ret).before a0 Z = true) (hy : y.cls ≠ "java/lang/invoke/MethodHandle" ∧ y.cls ≠ "java/lang/invoke/VarHandle") (eT : T.heap = h) {a : Addr} {C : String} (E : Exa Z h a C) (hsize : Ls.size = c.maxLocals) (argsL : List Value) {rest : List Value} (hlen : ∀ sig, parseMethodDescriptor y.desc = some sig → argsL.length = sig.parameters.length) (has : (.ref a :: argsL).toArray = as') (hst : st = argsL.reverse ++ .ref a :: rest) (hf : rm.frames + 1 ≤ R.frames) (hl : (rest.map fun v => v.category).sum + (maxL + 11) + rm.locals ≤ R.locals) (hc : k + rm.cells ≤ R.cells) (hs : n + rm.slots ≤ R.slots) (hd : decode code pc = .ok (.invokevirtual index, 3)) (K : ∀ v T' L, Stand p l e R s m args below meth c T' (locs ++ L) (k + rm.cells) (n + rm.slots) → Q v T'.heap L → Go p e below G (T'.setTop (mkF m (pc + 3) Ls (v.toList ++ rest)))) : Go p e below G (T.setTop (mkF m pc Ls st)) := by
  obtain ⟨cq, q1, q2⟩ := E.cell
  obtain ⟨v, _, ⟨T', L', k', n'⟩, -, X', ⟨L, hq, l1, l2, l3⟩, q⟩ := X.privateBack hx (y := y) hown (mvT hZ wl) (mvT hZ ws) (selOf (mvT hZ wi) (mvP hZ wp) (mvT hZ ws) hy) (Cond.privateMethod_at (mvP hZ wp (args := #[]))) (mvT hZ wc) hy (backOf (W := (rest.map fun v => v.category).sum) hM hZ wc wz hf hl) (g := mkF m pc Ls st) rfl hsize (Steps.refl _) (a := a) (by rw [eT]; exact q1) q2 (argsL := argsL) (rest := rest) hlen hst (by show 2 * 0 + _ ≤ _; omega) (hb hby hd) (fun _ _ => ⟨has, eT, hc, hs⟩)
  dsimp only [Pt.U, Pt.locs, Pt.cells, Pt.slots] at X' l1 l2 l3 q hq
  subst l1 l2 l3
  exact Go.step (fun t r => q.trans r) (K v T' L X' hq)
theorem g_interface (X : Stand p l e R s m args below meth c T locs k n) (hx : p.tables.exec = Jvm.exec) (hby : c.code = code) (hZ : Z.Warmed39 s.vm) {own : String} (hown : s.vm.findClass own = some m.cls) {C : String} {index count : Nat} {z : MethodName} {y : MethodName} {bytes : ByteArray} {maxL : Nat} {ret : Option FieldType} {rm : Room} {as' : Array Value} {Q : Option Value → Heap → List Loc → Prop} (hM : MetFree l y (head1 [Cond.code y bytes maxL ret] rm) (fun a U => a = as' ∧ Z.Warmed39 U.vm ∧ U.heap = h) (fun _ _ _ _ _ => True) (fun _ U o U' => RetG U Q rm.cells rm.slots U' o)) (wl : (Cond.methodLink own index z).before a0 Z = true) (wd : (Cond.declares z).before a0 Z = true) (wf : (Cond.interfaceMethod z.cls z.cls z.name z.desc).before a0 Z = true) (wsel : (Cond.selects C z y).before a0 Z = true) (ws : (Cond.instanceMethod y).before a0 Z = true) (wp : (Cond.publicMethod y).before a0 Z = true) (wu : (Cond.unhidden C z.name z.desc).before a0 Z = true) (wca : (Cond.castable C z.cls).before a0 Z = true) (wz : (Cond.initialized y.cls).before a0 Z = true) (wc : (Cond.code y bytes maxL ret).before a0 Z = true) (hy : z.cls ≠ "java/lang/invoke/MethodHandle" ∧ z.cls ≠ "java/lang/invoke/VarHandle") (eT : T.heap = h) {a : Addr} (E : Exa Z h a C) (hsize : Ls.size = c.maxLocals) (argsL : List Value) {rest : List Value} (hlen : ∀ sig, parseMethodDescriptor z.desc = some sig → argsL.length = sig.parameters.length) (has : (.ref a :: argsL).toArray = as') (hst : st = argsL.reverse ++ .ref a :: rest) (hf : rm.frames + 1 ≤ R.frames) (hl : (rest.map fun v => v.category).sum + (maxL + 11) + rm.locals ≤ R.locals) (hc : k + rm.cells ≤ R.cells) (hs : n + rm.slots ≤ R.slots) (hd : decode code pc = .ok (.invokeinterface index count, 5)) (K : ∀ v T' L, Stand p l e R s m args below meth c T' (locs ++ L) (k + rm.cells) (n + rm.slots) → Q v T'.heap L → Go p e below G (T'.setTop (mkF m (pc + 5) Ls (v.toList ++ rest)))) : Go p e below G (T.setTop (mkF m pc Ls st)) := by
  obtain ⟨cq, kq, qa, qb, qc⟩ := isOf hZ eT E
  obtain ⟨v, _, ⟨T', L', k', n'⟩, -, X', ⟨L, hq, l1, l2, l3⟩, q⟩ := X.interfaceBack hx (xi := z) (y := y) hown (mvT hZ wl) (mvT hZ wd) (mvT hZ wf (by simp [Cond.onTables, Cond.keepsFace, Cond.keeps, Cond.steady, Cond.faceAtom, hy.1, hy.2])) (mvT hZ wsel) (mvT hZ ws) (mvT hZ wp) (mvT hZ wu) (mvT hZ wca) hy (backOf (W := (rest.map fun v => v.category).sum) hM hZ wc wz hf hl) qa qb qc (g := mkF m pc Ls st) rfl hsize (Steps.refl _) (argsL := argsL) (rest := rest) hlen hst (by show 2 * 0 + _ ≤ _; omega) (hb hby hd) (fun _ _ => ⟨has, eT, hc, hs⟩)
  dsimp only [Pt.U, Pt.locs, Pt.cells, Pt.slots] at X' l1 l2 l3 q hq
  subst l1 l2 l3
  exact Go.step (fun t r => q.trans r) (K v T' L X' hq)
theorem g_ret (X : Stand p l e R s m args below meth c T locs k n) (hx : p.tables.exec = Jvm.exec) (hby : c.code = code) (hret : meth.sig.returnType = none) (hlocks : meth.locks = false) {Q : Option Value → Heap → List Loc → Prop} {cells slots : Nat} (hd : decode code pc = .ok (.return_, 1)) (eT : T.heap = h) (hk : k ≤ cells) (hn : n ≤ slots) (hq : Q none h locs) : Go p e below (RetG s Q cells slots) (T.setTop (mkF m pc Ls [])) := Go.leave X (v := none) (fun _ => rfl) hlocks eT hq hk hn (fun fs hr => X.returnOut hx hret (hb hby hd) hr)
theorem g_iret (X : Stand p l e R s m args below meth c T locs k n) (hx : p.tables.exec = Jvm.exec) (hby : c.code = code) {z : Int32} {rest : List Value} (hret : meth.sig.returnType = some .int) (hlocks : meth.locks = false) {Q : Option Value → Heap → List Loc → Prop} {cells slots : Nat} (hd : decode code pc = .ok (.ireturn, 1)) (eT : T.heap = h) (hk : k ≤ cells) (hn : n ≤ slots) (hq : Q (some (.int z)) h locs) : Go p e below (RetG s Q cells slots) (T.setTop (mkF m pc Ls (.int z :: rest))) := Go.leave X (v := some (.int z)) (fun q => by rw [hret] at q; cases q) hlocks eT hq hk hn (fun fs hr => retOut X hx (t := .int) hret rfl (Or.inl ⟨rfl, Or.inl rfl, z, rfl⟩) (hb hby hd) hr)
theorem g_nret (X : Stand p l e R s m args below meth c T locs k n) (hx : p.tables.exec = Jvm.exec) (hby : c.code = code) {z : Int32} {rest : List Value} {t : FieldType} (ht : t = .boolean ∨ t = .byte ∨ t = .char ∨ t = .short) (hret : meth.sig.returnType = some t) (hlocks : meth.locks = false) {Q : Option Value → Heap → List Loc → Prop} {cells slots : Nat} (hd : decode code pc = .ok (.ireturn, 1)) (eT : T.heap = h) (hk : k ≤ cells) (hn : n ≤ slots) (hq : Q (some (.int (nar t z))) h locs) : Go p e below (RetG s Q cells slots) (T.setTop (mkF m pc Ls (.int z :: rest))) := Go.leave X (v := some (.int (nar t z))) (fun q => by rw [hret] at q; cases q) hlocks eT hq hk hn (fun fs hr => retN X hx (t := t) hret ht (hb hby hd) hr)
theorem g_lret (X : Stand p l e R s m args below meth c T locs k n) (hx : p.tables.exec = Jvm.exec) (hby : c.code = code) {z : Int64} {rest : List Value} (hret : meth.sig.returnType = some .long) (hlocks : meth.locks = false) {Q : Option Value → Heap → List Loc → Prop} {cells slots : Nat} (hd : decode code pc = .ok (.lreturn, 1)) (eT : T.heap = h) (hk : k ≤ cells) (hn : n ≤ slots) (hq : Q (some (.long z)) h locs) : Go p e below (RetG s Q cells slots) (T.setTop (mkF m pc Ls (.long z :: rest))) := Go.leave X (v := some (.long z)) (fun q => by rw [hret] at q; cases q) hlocks eT hq hk hn (fun fs hr => retOut X hx (t := .long) hret rfl (Or.inr (Or.inl ⟨rfl, rfl, z, rfl⟩)) (hb hby hd) hr)
theorem g_aret (X : Stand p l e R s m args below meth c T locs k n) (hx : p.tables.exec = Jvm.exec) (hby : c.code = code) {z : Value} {rest : List Value} {t : FieldType} (ht : t.isReference = true) (hz : z.isRef = true) (hnar : narrow t z = z) (hret : meth.sig.returnType = some t) (hlocks : meth.locks = false) {Q : Option Value → Heap → List Loc → Prop} {cells slots : Nat} (hd : decode code pc = .ok (.areturn, 1)) (eT : T.heap = h) (hk : k ≤ cells) (hn : n ≤ slots) (hq : Q (some z) h locs) : Go p e below (RetG s Q cells slots) (T.setTop (mkF m pc Ls (z :: rest))) := Go.leave X (v := some z) (fun q => by rw [hret] at q; cases q) hlocks eT hq hk hn (fun fs hr => retOut X hx (t := t) hret hnar (Or.inr (Or.inr (Or.inr (Or.inr ⟨rfl, ht, hz⟩)))) (hb hby hd) hr)
end
end Jvm.Own

namespace Jvm.Own
open Sem ClassFile Op Lib Jvm.Stand Jvm.Free Jvm.LawKit Jvm.RoadKit
def RetW (s : State) (Q : Option Value → Heap → List Loc → Prop) (cells slots : Nat) (s₂ : State) (o : Outcome) : Prop := ∃ v L, o = .returned v ∧ Q v s₂.heap L ∧ ReturnedEndW s o s₂ L cells slots
theorem own_widen {s u : State} {o : Outcome} {L L' : List Loc} {a b c d : Nat} (hq : ReturnedEndW s o u L a b) (N : Fr s.heap.size L) (hc : a ≤ c) (hd : b ≤ d) : ReturnedEndW s o u L' c d :=
  ⟨hq.1, hq.2.1, hq.2.2.1, (hq.2.2.2.sift fun y hy => Or.inr (N y hy)).mono hc hd⟩
section
variable {p : Program} {l : Launch} {e : Env} {R : Room} {s : State} {vm0 : Vm} {m : MethodId} {args : Array Value} {below : List Frame} {meth : Method} {c : Code} {T : State} {locs : List Loc} {k n k0 : Nat} {G : State → Outcome → Prop} {code : ByteArray} {pc : Nat} {Ls : Array Slot} {st : List Value} {Z : State} {a0 : Array Value} {h : Heap} {n0 : Nat}
theorem Go.leaveW (X : Stand p l e R (s.setVm vm0) m args below meth c T locs k n) {v : Option Value} (hv : meth.sig.returnType = none → v = none) (hlocks : meth.locks = false) {Q : Option Value → Heap → List Loc → Prop} {cells slots : Nat} {σ : State} (hS : s.Since vm0 k0) (eT : T.heap = h) (hkk : k0 ≤ h.size) (hq : Q v h locs) (hk : k ≤ cells) (hn : n ≤ slots)
    (st : ∀ fs, (∀ (f : JFrame) (acts : List Action), f.method = m → f.locked = none → f.entered = [] → (doReturn e (T.setTop f) acts v).1 = T.setFrames fs) → Steps p.tables e below σ (T.setFrames fs)) : Go p e below (RetW s Q cells slots) σ := by
  subst eT
  obtain ⟨fs, hr, hrun, hended, h1, h2, h3, h4⟩ := X.leaveW hS hkk (v := v) hv hlocks
  exact ⟨_, _, st fs hr, hrun, hended, _, _, rfl, hq, h1, h2, h3, h4.mono hk hn⟩
theorem g_retW (X : Stand p l e R (s.setVm vm0) m args below meth c T locs k n) (hx : p.tables.exec = Jvm.exec) (hby : c.code = code) (hret : meth.sig.returnType = none) (hlocks : meth.locks = false) {Q : Option Value → Heap → List Loc → Prop} {cells slots : Nat} (hS : s.Since vm0 k0) (hd : decode code pc = .ok (.return_, 1)) (eT : T.heap = h) (hkk : k0 ≤ h.size) (hk : k ≤ cells) (hn : n ≤ slots) (hq : Q none h locs) : Go p e below (RetW s Q cells slots) (T.setTop (mkF m pc Ls [])) := Go.leaveW X (v := none) (fun _ => rfl) hlocks hS eT hkk hq hk hn (fun fs hr => X.returnOut hx hret (hb hby hd) hr)
theorem g_iretW (X : Stand p l e R (s.setVm vm0) m args below meth c T locs k n) (hx : p.tables.exec = Jvm.exec) (hby : c.code = code) {z : Int32} {rest : List Value} (hret : meth.sig.returnType = some .int) (hlocks : meth.locks = false) {Q : Option Value → Heap → List Loc → Prop} {cells slots : Nat} (hS : s.Since vm0 k0) (hd : decode code pc = .ok (.ireturn, 1)) (eT : T.heap = h) (hkk : k0 ≤ h.size) (hk : k ≤ cells) (hn : n ≤ slots) (hq : Q (some (.int z)) h locs) : Go p e below (RetW s Q cells slots) (T.setTop (mkF m pc Ls (.int z :: rest))) := Go.leaveW X (v := some (.int z)) (fun q => by rw [hret] at q; cases q) hlocks hS eT hkk hq hk hn (fun fs hr => retOut X hx (t := .int) hret rfl (Or.inl ⟨rfl, Or.inl rfl, z, rfl⟩) (hb hby hd) hr)
theorem g_nretW (X : Stand p l e R (s.setVm vm0) m args below meth c T locs k n) (hx : p.tables.exec = Jvm.exec) (hby : c.code = code) {z : Int32} {rest : List Value} {t : FieldType} (ht : t = .boolean ∨ t = .byte ∨ t = .char ∨ t = .short) (hret : meth.sig.returnType = some t) (hlocks : meth.locks = false) {Q : Option Value → Heap → List Loc → Prop} {cells slots : Nat} (hS : s.Since vm0 k0) (hd : decode code pc = .ok (.ireturn, 1)) (eT : T.heap = h) (hkk : k0 ≤ h.size) (hk : k ≤ cells) (hn : n ≤ slots) (hq : Q (some (.int (nar t z))) h locs) : Go p e below (RetW s Q cells slots) (T.setTop (mkF m pc Ls (.int z :: rest))) := Go.leaveW X (v := some (.int (nar t z))) (fun q => by rw [hret] at q; cases q) hlocks hS eT hkk hq hk hn (fun fs hr => retN X hx (t := t) hret ht (hb hby hd) hr)
theorem g_lretW (X : Stand p l e R (s.setVm vm0) m args below meth c T locs k n) (hx : p.tables.exec = Jvm.exec) (hby : c.code = code) {z : Int64} {rest : List Value} (hret : meth.sig.returnType = some .long) (hlocks : meth.locks = false) {Q : Option Value → Heap → List Loc → Prop} {cells slots : Nat} (hS : s.Since vm0 k0) (hd : decode code pc = .ok (.lreturn, 1)) (eT : T.heap = h) (hkk : k0 ≤ h.size) (hk : k ≤ cells) (hn : n ≤ slots) (hq : Q (some (.long z)) h locs) : Go p e below (RetW s Q cells slots) (T.setTop (mkF m pc Ls (.long z :: rest))) := Go.leaveW X (v := some (.long z)) (fun q => by rw [hret] at q; cases q) hlocks hS eT hkk hq hk hn (fun fs hr => retOut X hx (t := .long) hret rfl (Or.inr (Or.inl ⟨rfl, rfl, z, rfl⟩)) (hb hby hd) hr)
theorem g_aretW (X : Stand p l e R (s.setVm vm0) m args below meth c T locs k n) (hx : p.tables.exec = Jvm.exec) (hby : c.code = code) {z : Value} {rest : List Value} {t : FieldType} (ht : t.isReference = true) (hz : z.isRef = true) (hnar : narrow t z = z) (hret : meth.sig.returnType = some t) (hlocks : meth.locks = false) {Q : Option Value → Heap → List Loc → Prop} {cells slots : Nat} (hS : s.Since vm0 k0) (hd : decode code pc = .ok (.areturn, 1)) (eT : T.heap = h) (hkk : k0 ≤ h.size) (hk : k ≤ cells) (hn : n ≤ slots) (hq : Q (some z) h locs) : Go p e below (RetW s Q cells slots) (T.setTop (mkF m pc Ls (z :: rest))) := Go.leaveW X (v := some z) (fun q => by rw [hret] at q; cases q) hlocks hS eT hkk hq hk hn (fun fs hr => retOut X hx (t := t) hret hnar (Or.inr (Or.inr (Or.inr (Or.inr ⟨rfl, ht, hz⟩)))) (hb hby hd) hr)
theorem g_ldcS (X : Stand p l e R (s.setVm vm0) m args below meth c T locs k n) (hx : p.tables.exec = Jvm.exec) (hby : c.code = code) (hZ : Z.Warmed39 (s.setVm vm0).vm) {own : String} (hown : (s.setVm vm0).vm.findClass own = some m.cls) {text : String} {index : Nat} (w : (Cond.stringLink own index text).before a0 Z = true) (wS : ∀ a ∈ Bundle.stringAtoms, a.before a0 Z = true) (eT : T.heap = h) (hS : s.Since vm0 k0) (hk : k0 ≤ h.size) (nn : Nat) (hnn : 4 * text.toList.length ≤ nn) (hbig : nn ≤ 536870912) (hc : k + 2 ≤ R.cells) (hl : n + (nn + 4) ≤ R.slots) (hd : decode code pc = .ok (.ldc index, 2)) (K : ∀ a T' h' k1, Stand p l e R (s.setVm T'.vm) m args below meth c T' locs (k + 2) (n + (nn + 4)) → T'.heap = h' → Ext h h' → s.Since T'.vm k1 → k1 ≤ h'.size → Z.Warmed39 (s.setVm T'.vm).vm → (s.setVm T'.vm).vm.findClass own = some m.cls → Go p e below G (T'.setTop (mkF m (pc + 2) Ls (.ref a :: st)))) : Go p e below G (T.setTop (mkF m pc Ls st)) := by
  obtain ⟨a, T', h', k1, X', e', E, hS', hk', hZ', ho', q⟩ := ldcS X hx hZ hown w wS eT hS hk (g := mkF m pc Ls st) rfl (hb hby hd) hnn hbig hc hl
  exact Go.step q (K a T' h' k1 X' e' E hS' hk' hZ' ho')
theorem g_ldcwS (X : Stand p l e R (s.setVm vm0) m args below meth c T locs k n) (hx : p.tables.exec = Jvm.exec) (hby : c.code = code) (hZ : Z.Warmed39 (s.setVm vm0).vm) {own : String} (hown : (s.setVm vm0).vm.findClass own = some m.cls) {text : String} {index : Nat} (w : (Cond.stringLink own index text).before a0 Z = true) (wS : ∀ a ∈ Bundle.stringAtoms, a.before a0 Z = true) (eT : T.heap = h) (hS : s.Since vm0 k0) (hk : k0 ≤ h.size) (nn : Nat) (hnn : 4 * text.toList.length ≤ nn) (hbig : nn ≤ 536870912) (hc : k + 2 ≤ R.cells) (hl : n + (nn + 4) ≤ R.slots) (hd : decode code pc = .ok (.ldc_w index, 3)) (K : ∀ a T' h' k1, Stand p l e R (s.setVm T'.vm) m args below meth c T' locs (k + 2) (n + (nn + 4)) → T'.heap = h' → Ext h h' → s.Since T'.vm k1 → k1 ≤ h'.size → Z.Warmed39 (s.setVm T'.vm).vm → (s.setVm T'.vm).vm.findClass own = some m.cls → Go p e below G (T'.setTop (mkF m (pc + 3) Ls (.ref a :: st)))) : Go p e below G (T.setTop (mkF m pc Ls st)) := by
  obtain ⟨a, T', h', k1, X', e', E, hS', hk', hZ', ho', q⟩ := ldcSW X hx hZ hown w wS eT hS hk (g := mkF m pc Ls st) rfl (hb hby hd) hnn hbig hc hl
  exact Go.step q (K a T' h' k1 X' e' E hS' hk' hZ' ho')
theorem g_ldcSV (X : Stand p l e R (s.setVm vm0) m args below meth c T locs k n) (hx : p.tables.exec = Jvm.exec) (hby : c.code = code) (hZ : Z.Warmed39 (s.setVm vm0).vm) {own : String} (hown : (s.setVm vm0).vm.findClass own = some m.cls) {text : String} {index : Nat} (w : (Cond.stringLink own index text).before a0 Z = true) (wS : ∀ a ∈ Bundle.stringAtoms, a.before a0 Z = true) (eT : T.heap = h) (hS : s.Since vm0 k0) (hk : k0 ≤ h.size) (N : Fr s.heap.size locs) (hkeep : ∀ (b : Addr) (cl : Cell), Z.heap[b]? = some cl → s.heap[b]? = some cl) (hI : vm0.interned = Z.vm.interned) (hh : Jvm.Lit.constHeld Z own index) (hcw : Jvm.Lit.compactW.before a0 Z = true) (vs : List Value) (z : Int32) (ht : (∀ c ∈ text.toList, c.toNat < 256) ∧ text.toList.map (fun c => Value.int (Jvm.Lit.byteI c.toNat.toUInt16)) = vs) (hz : ¬ z < 0) (hlz : z.toNatClampNeg = vs.length) (nn : Nat) (hnn : 4 * text.toList.length ≤ nn) (hbig : nn ≤ 536870912) (hc : k + 2 ≤ R.cells) (hl : n + (nn + 4) ≤ R.slots) (hd : decode code pc = .ok (.ldc index, 2)) (K : ∀ a T' h' k1 b kb, Stand p l e R (s.setVm T'.vm) m args below meth c T' locs (k + 2) (n + (nn + 4)) → T'.heap = h' → Ext h h' → s.Since T'.vm k1 → k1 ≤ h'.size → Z.Warmed39 (s.setVm T'.vm).vm → (s.setVm T'.vm).vm.findClass own = some m.cls → Exa Z h' a "java/lang/String" → Fld Z h' a "java/lang/String" "coder" "B" (.int 0) → Fld Z h' a "java/lang/String" "value" "[B" (.ref b) → Arv Z h' b kb .byte z vs (.int 0) → Lit (s.setVm T'.vm) own index a → Go p e below G (T'.setTop (mkF m (pc + 2) Ls (.ref a :: st)))) : Go p e below G (T.setTop (mkF m pc Ls st)) := by
  obtain ⟨a, T', h', k1, b, kb, X', e', E, hS', hk', hZ', ho', r1, r2, r3, r4, -, -, -, r5, q⟩ := ldcSVL X hx hZ hown w wS eT hS hk N hkeep (Ts := []) ⟨#[], by rw [hI]; simp, fun q hq => by simp at hq⟩ (by simp) hh hcw ht hz hlz (g := mkF m pc Ls st) rfl (hb hby hd) hnn hbig hc hl
  exact Go.step q (K a T' h' k1 b kb X' e' E hS' hk' hZ' ho' r1 r2 r3 r4 r5)
theorem g_ldcAgain (X : Stand p l e R (s.setVm vm0) m args below meth c T locs k n) (hx : p.tables.exec = Jvm.exec) (hby : c.code = code) (hZ : Z.Warmed39 (s.setVm vm0).vm) {own : String} (hown : (s.setVm vm0).vm.findClass own = some m.cls) {text : String} {index : Nat} (w : (Cond.stringLink own index text).before a0 Z = true) {a : Addr} (L : Lit (s.setVm vm0) own index a) (hd : decode code pc = .ok (.ldc index, 2)) (K : Go p e below G (T.setTop (mkF m (pc + 2) Ls (.ref a :: st)))) : Go p e below G (T.setTop (mkF m pc Ls st)) := Go.step (ldcAgain X hx hZ hown w L (g := mkF m pc Ls st) rfl (hb hby hd)) K
theorem backW {y : MethodName} {bytes : ByteArray} {maxL : Nat} {ret : Option FieldType} {rm : Room} {len W : Nat} {as' : Array Value} {Q : Option Value → Heap → List Loc → Prop} {PV : Vm → Prop}
    (hM : MetFree l y (head1 [Cond.code y bytes maxL ret] rm) (fun a U => a = as' ∧ PV U.vm ∧ U.heap = h) (fun _ _ _ _ _ => True) (fun _ U o U' => RetW U Q rm.cells rm.slots U' o))
    (hZ : Z.Warmed39 s.vm) (hPV : ∀ vm, s.WarmedH vm → PV vm) (wc : (Cond.code y bytes maxL ret).before a0 Z = true) (wz : (Cond.initialized y.cls).before a0 Z = true) (hf : rm.frames + 1 ≤ R.frames) (hl : W + (maxL + 11) + rm.locals ≤ R.locals) :
    BackS l R p e below s args y len W (fun A a => a = as' ∧ A.U.heap = h ∧ A.cells + rm.cells ≤ R.cells ∧ A.slots + rm.slots ≤ R.slots)
      (fun A _ v B => ∃ L, Q v B.U.heap L ∧ B.locs = A.locs ++ L ∧ B.cells = A.cells + rm.cells ∧ B.slots = A.slots + rm.slots) :=
  BackS.of_freeW (bytes := bytes) (maxL := maxL) (ret := ret) (E := fun _ _ o t L k n => k = rm.cells ∧ n = rm.slots ∧ ∃ v, o = .returned v ∧ Q v t.heap L) hM hf hl
    (fun m meth c A a Y hp => have hU : Z.Warmed39 A.U.vm := wtrans hZ Y.warmed
      ⟨by show (Cond.and _ .tt).before a A.U = true; rw [Cond.before_and, mv hU wc]; rfl, mv hU wc, mv hU wz, hp.2.2.1, hp.2.2.2⟩)
    (fun m meth c A a g mk Y hp => ⟨hp.1, hPV _ Y.warmed, hp.2.1⟩) (fun _ _ _ _ _ _ _ _ _ => trivial)
    (fun _ _ _ _ ⟨v, L, h1, h2, h3⟩ => ⟨L, _, _, h3, rfl, rfl, v, h1, h2⟩)
    (fun m meth c A a g mk v t L k n Y hp _ _ ⟨e1, e2, v', e3, e4⟩ => by cases e3; subst e1 e2; exact ⟨L, e4, rfl, rfl, rfl⟩)
theorem g_staticW (X : Stand p l e R (s.setVm vm0) m args below meth c T locs k n) (hx : p.tables.exec = Jvm.exec) (hby : c.code = code) (hZ : Z.Warmed39 (s.setVm vm0).vm) {own : String} (hown : (s.setVm vm0).vm.findClass own = some m.cls) {index : Nat} {y : MethodName} {bytes : ByteArray} {maxL : Nat} {ret : Option FieldType} {rm : Room} {as' : Array Value} {Q : Option Value → Heap → List Loc → Prop} {PV : Vm → Prop} (hM : MetFree l y (head1 [Cond.code y bytes maxL ret] rm) (fun a U => a = as' ∧ PV U.vm ∧ U.heap = h) (fun _ _ _ _ _ => True) (fun _ U o U' => RetW U Q rm.cells rm.slots U' o)) (hPV : ∀ vm, (s.setVm vm0).WarmedH vm → PV vm) (hS : s.Since vm0 k0) (hkk : k0 ≤ h.size) (wl : (Cond.methodLink own index y).before a0 Z = true) (ws : (Cond.static y).before a0 Z = true) (wz : (Cond.initialized y.cls).before a0 Z = true) (wc : (Cond.code y bytes maxL ret).before a0 Z = true) (hy : y.cls ≠ "java/lang/invoke/MethodHandle" ∧ y.cls ≠ "java/lang/invoke/VarHandle") (eT : T.heap = h) (hsize : Ls.size = c.maxLocals) (argsL : List Value) {rest : List Value} (hlen : ∀ sig, parseMethodDescriptor y.desc = some sig → argsL.length = sig.parameters.length) (has : argsL.toArray = as') (hst : st = argsL.reverse ++ rest) (hf : rm.frames + 1 ≤ R.frames) (hl : (rest.map fun v => v.category).sum + (maxL + 11) + rm.locals ≤ R.locals) (hc : k + rm.cells ≤ R.cells) (hs : n + rm.slots ≤ R.slots) (hd : decode code pc = .ok (.invokestatic index, 3)) (K : ∀ v T' L, Stand p l e R (s.setVm T'.vm) m args below meth c T' (locs ++ L) (k + rm.cells) (n + rm.slots) → s.Since T'.vm T'.heap.size → Z.Warmed39 (s.setVm T'.vm).vm → (s.setVm T'.vm).vm.findClass own = some m.cls → Q v T'.heap L → Go p e below G (T'.setTop (mkF m (pc + 3) Ls (v.toList ++ rest)))) : Go p e below G (T.setTop (mkF m pc Ls st)) := by
  obtain ⟨v, _, ⟨T', L', k', n'⟩, -, X', hs', hg', ⟨L, hq, l1, l2, l3⟩, q⟩ := callSS X hx (y := y) hown (mvT hZ wl) (mvT hZ ws) (mvT hZ wz) (mvT hZ wc) hy (backW (W := (rest.map fun v => v.category).sum) hM hZ hPV wc wz hf hl) (g := mkF m pc Ls st) rfl hsize (argsL := argsL) (rest := rest) hlen hst (by show 2 * 0 + _ ≤ _; omega) (hb hby hd) (fun _ _ => ⟨has, eT, hc, hs⟩)
  dsimp only [Pt.U, Pt.locs, Pt.cells, Pt.slots] at X' hs' hg' l1 l2 l3 q hq
  subst l1 l2 l3
  obtain ⟨X2, hS2, hZ2, ho2⟩ := rebS hS (Nat.le_trans hkk (by rw [← eT]; exact Nat.le_refl _)) X' hs' hg' hZ hown
  exact Go.step (fun t r => q.trans r) (K v T' L X2 hS2 hZ2 ho2 hq)
theorem g_specialW (X : Stand p l e R (s.setVm vm0) m args below meth c T locs k n) (hx : p.tables.exec = Jvm.exec) (hby : c.code = code) (hZ : Z.Warmed39 (s.setVm vm0).vm) {own : String} (hown : (s.setVm vm0).vm.findClass own = some m.cls) {index : Nat} {y : MethodName} {bytes : ByteArray} {maxL : Nat} {ret : Option FieldType} {rm : Room} {as' : Array Value} {Q : Option Value → Heap → List Loc → Prop} {PV : Vm → Prop} (hM : MetFree l y (head1 [Cond.code y bytes maxL ret] rm) (fun a U => a = as' ∧ PV U.vm ∧ U.heap = h) (fun _ _ _ _ _ => True) (fun _ U o U' => RetW U Q rm.cells rm.slots U' o)) (hPV : ∀ vm, (s.setVm vm0).WarmedH vm → PV vm) (hS : s.Since vm0 k0) (hkk : k0 ≤ h.size) (hy1 : y.name = "<init>") (hret : ret = none) (wl : (Cond.methodLink own index y).before a0 Z = true) (ws : (Cond.instanceMethod y).before a0 Z = true) (wz : (Cond.initialized y.cls).before a0 Z = true) (wc : (Cond.code y bytes maxL ret).before a0 Z = true) (hy : y.cls ≠ "java/lang/invoke/MethodHandle" ∧ y.cls ≠ "java/lang/invoke/VarHandle") (eT : T.heap = h) (hsize : Ls.size = c.maxLocals) {a : Addr} (argsL : List Value) {rest : List Value} (hlen : ∀ sig, parseMethodDescriptor y.desc = some sig → argsL.length = sig.parameters.length) (has : (.ref a :: argsL).toArray = as') (hst : st = argsL.reverse ++ .ref a :: rest) (hf : rm.frames + 1 ≤ R.frames) (hl : (rest.map fun v => v.category).sum + (maxL + 11) + rm.locals ≤ R.locals) (hc : k + rm.cells ≤ R.cells) (hs : n + rm.slots ≤ R.slots) (hd : decode code pc = .ok (.invokespecial index, 3)) (K : ∀ v T' L, Stand p l e R (s.setVm T'.vm) m args below meth c T' (locs ++ L) (k + rm.cells) (n + rm.slots) → s.Since T'.vm T'.heap.size → Z.Warmed39 (s.setVm T'.vm).vm → (s.setVm T'.vm).vm.findClass own = some m.cls → Q v T'.heap L → Go p e below G (T'.setTop (mkF m (pc + 3) Ls (v.toList ++ rest)))) : Go p e below G (T.setTop (mkF m pc Ls st)) := by
  subst hret
  obtain ⟨v, _, ⟨T', L', k', n'⟩, -, X', hs', hg', ⟨L, hq, l1, l2, l3⟩, q⟩ := X.specialBackS hx (y := y) hy1 hown (mvT hZ wl) (mvT hZ ws) (mvT hZ wc) hy (backW (W := (rest.map fun v => v.category).sum) hM hZ hPV wc wz hf hl) (g := mkF m pc Ls st) rfl hsize (Steps.refl _) (a := a) (argsL := argsL) (rest := rest) hlen hst (by show 2 * 0 + _ ≤ _; omega) (hb hby hd) (fun _ _ => ⟨has, eT, hc, hs⟩)
  dsimp only [Pt.U, Pt.locs, Pt.cells, Pt.slots] at X' hs' hg' l1 l2 l3 q hq
  subst l1 l2 l3
  obtain ⟨X2, hS2, hZ2, ho2⟩ := rebS hS (Nat.le_trans hkk (by rw [← eT]; exact Nat.le_refl _)) X' hs' hg' hZ hown
  exact Go.step (fun t r => q.trans r) (K v T' L X2 hS2 hZ2 ho2 hq)
theorem g_virtualW (X : Stand p l e R (s.setVm vm0) m args below meth c T locs k n) (hx : p.tables.exec = Jvm.exec) (hby : c.code = code) (hZ : Z.Warmed39 (s.setVm vm0).vm) {own : String} (hown : (s.setVm vm0).vm.findClass own = some m.cls) {C : String} {index : Nat} {z : MethodName} {y : MethodName} {bytes : ByteArray} {maxL : Nat} {ret : Option FieldType} {rm : Room} {as' : Array Value} {Q : Option Value → Heap → List Loc → Prop} {PV : Vm → Prop} (hM : MetFree l y (head1 [Cond.code y bytes maxL ret] rm) (fun a U => a = as' ∧ PV U.vm ∧ U.heap = h) (fun _ _ _ _ _ => True) (fun _ U o U' => RetW U Q rm.cells rm.slots U' o)) (hPV : ∀ vm, (s.setVm vm0).WarmedH vm → PV vm) (hS : s.Since vm0 k0) (hkk : k0 ≤ h.size) (wl : (Cond.methodLink own index z).before a0 Z = true) (wd : (Cond.declares z).before a0 Z = true) (hnf : NotFace (s.setVm vm0) z) (wsel : (Cond.selects C z y).before a0 Z = true) (ws : (Cond.instanceMethod y).before a0 Z = true) (wz : (Cond.initialized y.cls).before a0 Z = true) (wc : (Cond.code y bytes maxL ret).before a0 Z = true) (hy : z.cls ≠ "java/lang/invoke/MethodHandle" ∧ z.cls ≠ "java/lang/invoke/VarHandle") (eT : T.heap = h) {a : Addr} (E : Exa Z h a C) (hsize : Ls.size = c.maxLocals) (argsL : List Value) {rest : List Value} (hlen : ∀ sig, parseMethodDescriptor z.desc = some sig → argsL.length = sig.parameters.length) (has : (.ref a :: argsL).toArray = as') (hst : st = argsL.reverse ++ .ref a :: rest) (hf : rm.frames + 1 ≤ R.frames) (hl : (rest.map fun v => v.category).sum + (maxL + 11) + rm.locals ≤ R.locals) (hc : k + rm.cells ≤ R.cells) (hs : n + rm.slots ≤ R.slots) (hd : decode code pc = .ok (.invokevirtual index, 3)) (K : ∀ v T' L, Stand p l e R (s.setVm T'.vm) m args below meth c T' (locs ++ L) (k + rm.cells) (n + rm.slots) → s.Since T'.vm T'.heap.size → Z.Warmed39 (s.setVm T'.vm).vm → (s.setVm T'.vm).vm.findClass own = some m.cls → Q v T'.heap L → Go p e below G (T'.setTop (mkF m (pc + 3) Ls (v.toList ++ rest)))) : Go p e below G (T.setTop (mkF m pc Ls st)) := by
  obtain ⟨cq, kq, qa, qb, qc⟩ := isOf hZ eT E
  obtain ⟨v, _, ⟨T', L', k', n'⟩, -, X', hs', hg', ⟨L, hq, l1, l2, l3⟩, q⟩ := X.virtualBackS hx (y := z) (z := y) hown (mvT hZ wl) (mvT hZ wd) hnf (mvT hZ wsel) (mvT hZ ws) hy (backW (W := (rest.map fun v => v.category).sum) hM hZ hPV wc wz hf hl) qa qc (g := mkF m pc Ls st) rfl hsize (Steps.refl _) (argsL := argsL) (rest := rest) hlen hst (by show 2 * 0 + _ ≤ _; omega) (hb hby hd) (fun _ _ => ⟨has, eT, hc, hs⟩)
  dsimp only [Pt.U, Pt.locs, Pt.cells, Pt.slots] at X' hs' hg' l1 l2 l3 q hq
  subst l1 l2 l3
  obtain ⟨X2, hS2, hZ2, ho2⟩ := rebS hS (Nat.le_trans hkk (by rw [← eT]; exact Nat.le_refl _)) X' hs' hg' hZ hown
  exact Go.step (fun t r => q.trans r) (K v T' L X2 hS2 hZ2 ho2 hq)
end
end Jvm.Own

namespace Jvm.Pilot.@@N@@
open Jvm Jvm.ClassFile Sem Op Lib Jvm.Free Jvm.Stand Jvm.LawKit Jvm.RoadKit Bundle Jvm.Own Jvm.Pilot.@@N@@.Jvm.D


theorem own_up (j : Nat) : Int32.ofNat j + (1 : Int32) = Int32.ofNat (j + 1) := by rw [Int32.ofNat_add]; rfl
theorem own_up2 (q : Int32) (j : Nat) : q + Int32.ofNat j + (1 : Int32) = q + Int32.ofNat (j + 1) := by rw [Int32.add_assoc, own_up]
theorem own_shr0 (n : Int32) : n >>> ((0 : Int32) &&& 31) = n := by
  rw [show (0 : Int32) &&& 31 = 0 from rfl]; simp
theorem own_sm {j N : Nat} {n : Int32} (hn : n.toInt = N) (h : j ≤ N) : (Int32.ofNat j).toInt = j := by
  have r := rng32 n
  exact Int32.toInt_ofNat_of_lt (by omega)
theorem own_tn {j N : Nat} {n : Int32} (hn : n.toInt = N) (h : j ≤ N) : (Int32.ofNat j).toNatClampNeg = j := by
  simp only [Int32.toNatClampNeg, own_sm hn h]; omega
theorem own_nN {N : Nat} {n : Int32} (hn : n.toInt = N) : n.toNatClampNeg = N := by simp only [Int32.toNatClampNeg, hn]; omega
theorem own_ltn {j N : Nat} {n : Int32} (hn : n.toInt = N) (h : j < N) : Int32.ofNat j < n := by rw [Int32.lt_iff_toInt_lt, own_sm hn (by omega)]; omega
theorem own_nltn {N : Nat} {n : Int32} (hn : n.toInt = N) : ¬ Int32.ofNat N < n := by rw [Int32.lt_iff_toInt_lt, own_sm hn (Nat.le_refl _)]; omega
theorem own_inn {j N : Nat} {n : Int32} (hn : n.toInt = N) (h : j < N) : ¬ Int32.ofNat j < 0 ∧ Int32.ofNat j < n := by
  refine ⟨?_, own_ltn hn h⟩
  have e0 : (0 : Int32).toInt = 0 := rfl
  rw [Int32.lt_iff_toInt_lt, own_sm hn (by omega)]; omega
theorem own_offs {off n cap : Int32} {j N : Nat} (h0 : 0 ≤ off.toInt) (hn : n.toInt = N) (hc : off.toInt + n.toInt ≤ cap.toInt) (h : j ≤ N) : (off + Int32.ofNat j).toInt = off.toInt + j := by
  have h1 := c_iadd off (Int32.ofNat j)
  have h2 := rng32 (off + Int32.ofNat j)
  have h3 := rng32 cap
  rw [own_sm hn h] at h1
  omega
theorem own_offin {off n cap : Int32} {j N : Nat} (h0 : 0 ≤ off.toInt) (hn : n.toInt = N) (hc : off.toInt + n.toInt ≤ cap.toInt) (h : j < N) : ¬ (off + Int32.ofNat j) < 0 ∧ off + Int32.ofNat j < cap := by
  have e := own_offs h0 hn hc (Nat.le_of_lt h)
  have e0 : (0 : Int32).toInt = 0 := rfl
  rw [Int32.lt_iff_toInt_lt, Int32.lt_iff_toInt_lt]; omega
theorem own_len {i n : Int32} {L : Nat} (h : ¬ i < 0 ∧ i < n) (q : n.toNatClampNeg ≤ L) : i.toNatClampNeg < L := by
  obtain ⟨h1, h2⟩ := h
  have e0 : (0 : Int32).toInt = 0 := rfl
  rw [Int32.lt_iff_toInt_lt] at h1 h2
  simp only [Int32.toNatClampNeg] at *; omega
theorem own_ib {Z : State} {h : Heap} {b : Addr} {kb : ClassId} {n : Int32} {bs : List Value} {d : Value} (V : Arv Z h b kb .byte n bs d) {i : Nat} (hi : i < n.toNatClampNeg) : ∃ x : Int32, bs.getD i d = .int x := by
  obtain ⟨c, A, q1, S, M, H, F⟩ := V
  have q := F i (by omega)
  cases hq : bs.getD i d <;> rw [hq] at q <;> first | exact ⟨_, rfl⟩ | (simp [fits] at q)
def own_max (a b : Int32) : Int32 := if a < b then b else a
theorem own_nn {x : Int32} (h : 0 ≤ x.toInt) : ¬ x < 0 := by
  have e0 : (0 : Int32).toInt = 0 := rfl
  rw [Int32.lt_iff_toInt_lt]; omega
theorem own_le {x y : Int32} (h : x.toInt ≤ y.toInt) : ¬ y < x := by rw [Int32.lt_iff_toInt_lt]; omega
theorem own_or3 {a b c : Int32} (h1 : 0 ≤ a.toInt) (h2 : 0 ≤ b.toInt) (h3 : 0 ≤ c.toInt) : ¬ (a ||| b) ||| c < 0 := own_nn ((c_orS (a ||| b) c).1 ((c_orS a b).1 h1 h2) h3)
theorem own_fits {off n cap : Int32} (h0 : 0 ≤ off.toInt) (h1 : 0 ≤ n.toInt) (hc : off.toInt + n.toInt ≤ cap.toInt) : ¬ (cap - off) < n := by
  have h2 := c_isub cap off
  have h3 := rng32 (cap - off)
  have h4 := rng32 cap
  rw [Int32.lt_iff_toInt_lt]; omega
theorem own_tc {n : Int32} (h : 0 ≤ n.toInt) : (n.toNatClampNeg : Int) = n.toInt := by simp only [Int32.toNatClampNeg]; omega

theorem own_orI {a b : Int32} (ha : a.toInt % 256 = 0 ∧ 0 ≤ a.toInt) (hb : 0 ≤ b.toInt) (hb2 : b.toInt < 256) : (a ||| b).toInt = a.toInt + b.toInt := by
  have h0 := c_or a b 8 (by decide) 256 rfl ha.1 hb hb2
  have h1 := rng32 (a ||| b)
  have h2 := rng32 a
  have h3 := (c_orS a b).1 ha.2 hb
  omega

def own_lob (c : Int32) : Int32 := nar .byte ((c >>> ((0 : Int32) &&& 31)).toInt8.toInt32)
def own_hib (c : Int32) : Int32 := nar .byte ((c >>> ((8 : Int32) &&& 31)).toInt8.toInt32)
def own_u16e (lo hi : Int32) : Int32 := (((lo &&& (255 : Int32)) <<< ((0 : Int32) &&& 31)) ||| ((hi &&& (255 : Int32)) <<< ((8 : Int32) &&& 31))).toUInt32.toUInt16.toUInt32.toInt32
theorem own_u16 {c : Int32} (h : 0 ≤ c.toInt ∧ c.toInt < 65536) : nar .char (own_u16e (own_lob c) (own_hib c)) = c := by
  have s0 : c >>> ((0 : Int32) &&& 31) = c := Int32.toInt_inj.mp (by rw [c_ishr c 0 0 (by decide)]; omega)
  have s8 := c_ishr c 8 8 (by decide)
  have l1 := c_i2b c
  have l2 := c_i2b c.toInt8.toInt32
  have l3 := c_mask c.toInt8.toInt32.toInt8.toInt32 255 8 (by decide) (by decide)
  have m1 := c_i2b (c >>> ((8 : Int32) &&& 31))
  have m2 := c_i2b (c >>> ((8 : Int32) &&& 31)).toInt8.toInt32
  have m3 := c_mask (c >>> ((8 : Int32) &&& 31)).toInt8.toInt32.toInt8.toInt32 255 8 (by decide) (by decide)
  show ((own_u16e (own_lob c) (own_hib c))).toUInt32.toUInt16.toUInt32.toInt32 = c
  unfold own_u16e own_lob own_hib
  rw [s0]
  change ((((((c.toInt8.toInt32.toInt8.toInt32 &&& 255) <<< ((0 : Int32) &&& 31)) ||| (((c >>> ((8 : Int32) &&& 31)).toInt8.toInt32.toInt8.toInt32 &&& 255) <<< ((8 : Int32) &&& 31))).toUInt32.toUInt16.toUInt32.toInt32)).toUInt32.toUInt16.toUInt32.toInt32) = c
  generalize hA : c.toInt8.toInt32.toInt8.toInt32 &&& 255 = A at *
  generalize hB : (c >>> ((8 : Int32) &&& 31)).toInt8.toInt32.toInt8.toInt32 &&& 255 = B at *
  have a0 : A <<< ((0 : Int32) &&& 31) = A := Int32.toInt_inj.mp (by have := c_ishl A 0 0 (by decide); have := rng32 (A <<< ((0 : Int32) &&& 31)); omega)
  have b8 := c_ishl B 8 8 (by decide)
  have rb := rng32 (B <<< ((8 : Int32) &&& 31))
  rw [a0]
  have o := own_orI (a := B <<< ((8 : Int32) &&& 31)) (b := A) (by omega) (by omega) (by omega)
  have o' : (A ||| B <<< ((8 : Int32) &&& 31)).toInt = (B <<< ((8 : Int32) &&& 31)).toInt + A.toInt := by rw [Int32.or_comm]; exact o
  have x1 := c_i2c (A ||| B <<< ((8 : Int32) &&& 31))
  have x2 := c_i2c ((A ||| B <<< ((8 : Int32) &&& 31)).toUInt32.toUInt16.toUInt32.toInt32)
  exact Int32.toInt_inj.mp (by omega)

theorem own_nc16 {c : Int32} (h : 0 ≤ c.toInt ∧ c.toInt < 65536) : nar .char c = c := by
  have h2 := c_i2c c
  exact Int32.toInt_inj.mp (by show c.toUInt32.toUInt16.toUInt32.toInt32.toInt = _; omega)
theorem own_getD (bs : List Int32) (i : Nat) : (bs.map Value.int).getD i (.int (0 : Int32)) = .int (bs.getD i 0) := by
  simp only [List.getD_eq_getElem?_getD, List.getElem?_map]
  cases bs[i]? <;> rfl
theorem own_setD {l : List Value} {i : Nat} {x d : Value} (h : i < l.length) : (l.set i x).getD i d = x := by
  simp [List.getD_eq_getElem?_getD, List.getElem?_set_self h]
theorem own_setN {l : List Value} {i j : Nat} {x d : Value} (h : i ≠ j) : (l.set i x).getD j d = l.getD j d := by
  simp [List.getD_eq_getElem?_getD, List.getElem?_set_ne h]
def own_bt (c : Int32) : Int32 := nar .byte (c.toInt8.toInt32)
theorem own_nbyte (x : Int32) : nar .byte x = x.toInt8.toInt32 := rfl
theorem own_btc {c : Int32} (h : 0 ≤ c.toInt ∧ c.toInt < 65536) (hl : ¬ (255 : Int32) < c) : nar .char (((own_bt c) &&& (255 : Int32)).toUInt32.toUInt16.toUInt32.toInt32) = c := by
  unfold own_bt
  rw [Int32.lt_iff_toInt_lt] at hl
  have e : (255 : Int32).toInt = 255 := rfl
  have h1 := c_i2b c
  have h2 := c_i2b c.toInt8.toInt32
  have h3 := c_mask (nar .byte c.toInt8.toInt32) 255 8 (by decide) (by decide)
  rw [own_nbyte] at h3 ⊢
  have h4 := c_i2c (c.toInt8.toInt32.toInt8.toInt32 &&& 255)
  have h5 := c_i2c ((c.toInt8.toInt32.toInt8.toInt32 &&& 255).toUInt32.toUInt16.toUInt32.toInt32)
  exact Int32.toInt_inj.mp (by show ((c.toInt8.toInt32.toInt8.toInt32 &&& 255).toUInt32.toUInt16.toUInt32.toInt32).toUInt32.toUInt16.toUInt32.toInt32.toInt = _; omega)
theorem own_hn {N : Nat} (h : N ≤ 8) : (Int32.ofNat N).toInt = N := Int32.toInt_ofNat_of_lt (by omega)
theorem own_sh {j : Nat} (h : j ≤ 4) : Int32.ofNat j <<< ((1 : Int32) &&& 31) = Int32.ofNat (2 * j) := by
  match j, h with
  | 0, _ => decide
  | 1, _ => decide
  | 2, _ => decide
  | 3, _ => decide
  | 4, _ => decide
theorem own_shr1 {j : Nat} (h : j ≤ 4) : Int32.ofNat (2 * j) >>> ((1 : Int32) &&& 31) = Int32.ofNat j := by
  match j, h with
  | 0, _ => decide
  | 1, _ => decide
  | 2, _ => decide
  | 3, _ => decide
  | 4, _ => decide
theorem own_cfaL (n : Int32) : nar .byte ((((n - n).toUInt32 >>> ((31 : Int32) &&& 31).toUInt32).toInt32).toInt8.toInt32) = 0 := by rw [Int32.sub_self]; rfl
theorem own_cfaU {j : Nat} (h : j ≤ 4) (h1 : 1 ≤ j) : nar .byte ((((Int32.ofNat j - Int32.ofNat (2 * j)).toUInt32 >>> ((31 : Int32) &&& 31).toUInt32).toInt32).toInt8.toInt32) = 1 := by
  match j, h, h1 with
  | 1, _, _ => decide
  | 2, _, _ => decide
  | 3, _, _ => decide
  | 4, _, _ => decide
theorem own_in2 {i M : Nat} (h : i < M) (hM : M ≤ 8) : ¬ Int32.ofNat i < 0 ∧ Int32.ofNat i < Int32.ofNat M := own_inn (own_hn hM) h
theorem own_tn2 {i : Nat} (h : i ≤ 8) : (Int32.ofNat i).toNatClampNeg = i := own_tn (own_hn h) (Nat.le_refl _)
theorem own_nz {i : Nat} (h : i ≤ 8) (h1 : 1 ≤ i) : ¬ Int32.ofNat i = 0 := fun q => by
  have e := own_hn h
  rw [q] at e
  have e0 : (0 : Int32).toInt = 0 := rfl
  omega
theorem own_ne2 {i j : Nat} (hi : i ≤ 8) (hj : j ≤ 8) (h : i ≠ j) : ¬ Int32.ofNat i = Int32.ofNat j := fun q => by
  have e := own_hn hi
  have e2 := own_hn hj
  rw [q] at e
  omega
theorem own_kdrop {h0 h : Heap} {b : Addr} (K : Keep h0 h [b]) (q : h0.size ≤ b) : Keep h0 h [] := ⟨K.1, fun x c r _ => K.2.1 x c r fun z => by
  cases List.mem_singleton.mp z
  exact absurd (Array.getElem?_eq_some_iff.mp r).1 (Nat.not_lt.mpr q), K.2.2⟩
def own_LA (Z : State) (h : Heap) (b : Addr) (kb : ClassId) (cs : List Int32) (N : Nat) : Prop := ∃ bs : List Value, Arv Z h b kb .byte (Int32.ofNat N) bs (.int (0 : Int32)) ∧ ∀ i, i < N → ¬ (255 : Int32) < cs.getD i 0 ∧ bs.getD i (.int (0 : Int32)) = .int (own_bt (cs.getD i 0))
def own_UA (Z : State) (h : Heap) (b : Addr) (kb : ClassId) (cs : List Int32) (N : Nat) : Prop := ∃ bs : List Value, Arv Z h b kb .byte (Int32.ofNat (2 * N)) bs (.int (0 : Int32)) ∧ ∀ i, i < N → bs.getD (2 * i) (.int (0 : Int32)) = .int (own_lob (cs.getD i 0)) ∧ bs.getD (2 * i + 1) (.int (0 : Int32)) = .int (own_hib (cs.getD i 0))
def own_D (Z : State) (h : Heap) (a b : Addr) (kb : ClassId) (cs : List Int32) (N : Nat) : Prop := (Fld Z h a "java/lang/String" "coder" "B" (.int (0 : Int32)) ∧ own_LA Z h b kb cs N) ∨ (Fld Z h a "java/lang/String" "coder" "B" (.int (1 : Int32)) ∧ own_UA Z h b kb cs N)
theorem own_LA.ext {Z : State} {h h' : Heap} {b : Addr} {kb : ClassId} {cs : List Int32} {N : Nat} (F : own_LA Z h b kb cs N) (E : Ext h h') : own_LA Z h' b kb cs N := F.imp fun _ q => ⟨q.1.ext E, q.2⟩
theorem own_UA.ext {Z : State} {h h' : Heap} {b : Addr} {kb : ClassId} {cs : List Int32} {N : Nat} (F : own_UA Z h b kb cs N) (E : Ext h h') : own_UA Z h' b kb cs N := F.imp fun _ q => ⟨q.1.ext E, q.2⟩
theorem own_LA.keep {Z : State} {h h' : Heap} {b : Addr} {kb : ClassId} {cs : List Int32} {N : Nat} {ws : List Addr} (F : own_LA Z h b kb cs N) (K : Keep h h' ws) (nb : b ∉ ws) : own_LA Z h' b kb cs N := F.imp fun _ q => ⟨q.1.keep K nb, q.2⟩
theorem own_UA.keep {Z : State} {h h' : Heap} {b : Addr} {kb : ClassId} {cs : List Int32} {N : Nat} {ws : List Addr} (F : own_UA Z h b kb cs N) (K : Keep h h' ws) (nb : b ∉ ws) : own_UA Z h' b kb cs N := F.imp fun _ q => ⟨q.1.keep K nb, q.2⟩
theorem own_D.ext {Z : State} {h h' : Heap} {a b : Addr} {kb : ClassId} {cs : List Int32} {N : Nat} (F : own_D Z h a b kb cs N) (E : Ext h h') : own_D Z h' a b kb cs N := F.imp (fun q => ⟨q.1.ext E, q.2.ext E⟩) (fun q => ⟨q.1.ext E, q.2.ext E⟩)
theorem own_D.keep {Z : State} {h h' : Heap} {a b : Addr} {kb : ClassId} {cs : List Int32} {N : Nat} {ws : List Addr} (F : own_D Z h a b kb cs N) (K : Keep h h' ws) (na : a ∉ ws) (nb : b ∉ ws) : own_D Z h' a b kb cs N := F.imp (fun q => ⟨q.1.keep K na, q.2.keep K nb⟩) (fun q => ⟨q.1.keep K na, q.2.keep K nb⟩)
theorem own_D.wr {Z : State} {h h' : Heap} {a b x : Addr} {kb : ClassId} {cs : List Int32} {N : Nat} {sl : Nat} {v : Value} (F : own_D Z h a b kb cs N) (W : Wr h h' x sl v) (na : a ≠ x) (nb : b ≠ x) : own_D Z h' a b kb cs N := F.keep (Keep.of_wr W) (ninS na nin0) (ninS nb nin0)
theorem own_D.lt {Z : State} {h : Heap} {a b : Addr} {kb : ClassId} {cs : List Int32} {N : Nat} (F : own_D Z h a b kb cs N) : b < h.size := by
  rcases F with ⟨-, bs, V, -⟩ | ⟨-, bs, V, -⟩ <;> exact V.lt

theorem own_eq_int {args : Array Value} {first s : State} {o : Option Outcome} {idx : List Nat} {t : Term} {k : Int32} (h : (Jvm.Cond.eq t (.int k)).value args first o s idx = some true) : t.eval args first o idx s = some (.int k) := by
  obtain ⟨x, y, h1, h2, k1, -⟩ := cmp_v (Or.inl h)
  obtain rfl : y = .int k := Option.some.inj (h2.symm.trans (Term.int_eval k))
  cases x with
  | int z =>
    rw [Cond.value, h1, h2] at h
    have e : z = k := by simpa using h
    rw [h1, e]
  | _ => obtain ⟨z, hz⟩ | ⟨hz, -⟩ := k1 <;> first | cases hz | simp [Value.isRef] at *
def own_sk : Nat → List Int32 → Nat → Nat
  | 0, _, j => j
  | k + 1, cs, j => if cs.getD j 0 = 32 ∨ cs.getD j 0 = 9 then own_sk k cs (j + 1) else j
def own_blk (c : Int32) : Int32 := if c = 32 ∨ c = 9 then 1 else 0
theorem own_blk1 {c : Int32} (h : ¬ own_blk c = 0) : own_blk c = 1 := by
  unfold own_blk at *
  split at h
  · rename_i q; rw [if_pos q]
  · exact absurd rfl h
def own_st (m : Nat) (ds : List Int32) (j : Nat) : Nat := if j < m ∧ own_blk (ds.getD j 0) = 1 then j + 1 else j
theorem own_st_le {m : Nat} {ds : List Int32} {j : Nat} (h : j ≤ m) : own_st m ds j ≤ m := by
  unfold own_st
  split
  · rename_i q; omega
  · exact h
def own_rep (f : Nat → Nat) : Nat → Nat → Nat
  | 0, j => j
  | g + 1, j => own_rep f g (f j)
theorem own_fix {f : Nat → Nat} {j : Nat} (h : f j = j) : ∀ g, own_rep f g j = j := by
  intro g
  induction g with
  | zero => rfl
  | succ g ih => show own_rep f g (f j) = j; rw [h]; exact ih
theorem own_it {m : Nat} {cs ds : List Int32} (hd : ∀ i, i < m → cs.getD i 0 = ds.getD i 0) : ∀ (f j g : Nat), j + f = m → f ≤ g → own_rep (own_st m ds) g j = own_sk f cs j := by
  intro f
  induction f with
  | zero =>
    intro j g h hg
    exact own_fix (by unfold own_st; rw [if_neg (by omega)]) g
  | succ f ih =>
    intro j g h hg
    have e := hd j (by omega)
    by_cases q : cs.getD j 0 = 32 ∨ cs.getD j 0 = 9
    · rw [own_sk, if_pos q]
      match g, hg with
      | g + 1, hg =>
        show own_rep (own_st m ds) g (own_st m ds j) = _
        rw [show own_st m ds j = j + 1 from by unfold own_st; rw [if_pos ⟨by omega, by unfold own_blk; rw [← e, if_pos q]⟩]]
        exact ih (j + 1) g (by omega) (by omega)
    · rw [own_sk, if_neg q]
      refine own_fix ?_ g
      unfold own_st
      rw [if_neg (fun z => ?_)]
      have z2 := z.2
      unfold own_blk at z2
      rw [← e, if_neg q] at z2
      exact absurd z2 (by decide)
theorem own_it4 {m : Nat} {cs ds : List Int32} (hd : ∀ i, i < m → cs.getD i 0 = ds.getD i 0) {j : Nat} (h : j ≤ m) (hm : m ≤ 4) : own_sk (m - j) cs j = own_st m ds (own_st m ds (own_st m ds (own_st m ds j))) := (own_it hd (m - j) j 4 (by omega) (by omega)).symm
theorem own_ltI {a b : Nat} (ha : a ≤ 8) (hb : b ≤ 8) : Int32.ofNat a < Int32.ofNat b ↔ a < b := by
  rw [Int32.lt_iff_toInt_lt, own_hn ha, own_hn hb]; omega
theorem own_lt12 {x : Int32} (h : x < 1) : x < 2 := by
  rw [Int32.lt_iff_toInt_lt] at *
  have e1 : (1 : Int32).toInt = 1 := rfl
  have e2 : (2 : Int32).toInt = 2 := rfl
  omega
theorem own_lt23 {x : Int32} (h : x < 2) : x < 3 := by
  rw [Int32.lt_iff_toInt_lt] at *
  have e1 : (3 : Int32).toInt = 3 := rfl
  have e2 : (2 : Int32).toInt = 2 := rfl
  omega
def own_pk (x : Int32) : Int32 := if (x &&& (3 : Int32)) = (0 : Int32) then 32 else if (x &&& (3 : Int32)) = (1 : Int32) then 9 else nar .char ((((x.toUInt32 >>> ((2 : Int32) &&& 31).toUInt32).toInt32) &&& (65535 : Int32)).toUInt32.toUInt16.toUInt32.toInt32)
theorem own_pkr (x : Int32) : 0 ≤ (own_pk x).toInt ∧ (own_pk x).toInt < 65536 := by
  unfold own_pk
  split
  · decide
  · split
    · decide
    · have h := c_i2c ((((x.toUInt32 >>> ((2 : Int32) &&& 31).toUInt32).toInt32) &&& (65535 : Int32)).toUInt32.toUInt16.toUInt32.toInt32)
      exact ⟨h.2.1, h.2.2⟩
def own_min (a b : Int32) : Int32 := if b < a then b else a
theorem own_mod5 (x : Int32) : (x &&& (2147483647 : Int32)) % (5 : Int32) = 0 ∨ (x &&& (2147483647 : Int32)) % (5 : Int32) = 1 ∨ (x &&& (2147483647 : Int32)) % (5 : Int32) = 2 ∨ (x &&& (2147483647 : Int32)) % (5 : Int32) = 3 ∨ (x &&& (2147483647 : Int32)) % (5 : Int32) = 4 := by
  have h1 := c_mask x 2147483647 31 (by decide) (by decide)
  have h2 := (c_irem (x &&& 2147483647) 5 5 rfl).1 (by omega)
  have : ((x &&& (2147483647 : Int32)) % (5 : Int32)).toInt = 0 ∨ ((x &&& (2147483647 : Int32)) % (5 : Int32)).toInt = 1 ∨ ((x &&& (2147483647 : Int32)) % (5 : Int32)).toInt = 2 ∨ ((x &&& (2147483647 : Int32)) % (5 : Int32)).toInt = 3 ∨ ((x &&& (2147483647 : Int32)) % (5 : Int32)).toInt = 4 := by omega
  rcases this with q | q | q | q | q
  · exact Or.inl (Int32.toInt_inj.mp q)
  · exact Or.inr (Or.inl (Int32.toInt_inj.mp q))
  · exact Or.inr (Or.inr (Or.inl (Int32.toInt_inj.mp q)))
  · exact Or.inr (Or.inr (Or.inr (Or.inl (Int32.toInt_inj.mp q))))
  · exact Or.inr (Or.inr (Or.inr (Or.inr (Int32.toInt_inj.mp q))))
theorem own_mn {x m : Int32} {M : Nat} (hm : m.toInt = M) : ∃ J : Nat, own_min (x &&& (3 : Int32)) m = Int32.ofNat J ∧ J ≤ M ∧ J ≤ 3 := by
  have h1 := c_mask x 3 2 (by decide) (by decide)
  unfold own_min
  split
  · rename_i q
    rw [Int32.lt_iff_toInt_lt] at q
    exact ⟨M, Int32.toInt_inj.mp (by rw [hm, own_hn (by omega)]), Nat.le_refl _, by omega⟩
  · rename_i q
    rw [Int32.lt_iff_toInt_lt] at q
    refine ⟨(x &&& (3 : Int32)).toInt.toNat, Int32.toInt_inj.mp ?_, by omega, by omega⟩
    rw [own_hn (by omega)]; omega

theorem d13_0 : decode jdk_52_method_21_code 0 = .ok (.iconst 0, 1) := by decide +kernel
theorem d13_1 : decode jdk_52_method_21_code 1 = .ok (.istore 5, 2) := by decide +kernel
theorem d13_3 : decode jdk_52_method_21_code 3 = .ok (.iload 5, 2) := by decide +kernel
theorem d13_5 : decode jdk_52_method_21_code 5 = .ok (.iload 4, 2) := by decide +kernel
theorem d13_7 : decode jdk_52_method_21_code 7 = .ok (.if_icmp .ge 37, 3) := by decide +kernel
theorem d13_44 : decode jdk_52_method_21_code 44 = .ok (.iload 4, 2) := by decide +kernel
theorem d13_46 : decode jdk_52_method_21_code 46 = .ok (.ireturn, 1) := by decide +kernel
theorem d13_10 : decode jdk_52_method_21_code 10 = .ok (.aload_n 0, 1) := by decide +kernel
theorem d13_11 : decode jdk_52_method_21_code 11 = .ok (.iload_n 1, 1) := by decide +kernel
theorem d13_12 : decode jdk_52_method_21_code 12 = .ok (.caload, 1) := by decide +kernel
theorem d13_13 : decode jdk_52_method_21_code 13 = .ok (.istore 6, 2) := by decide +kernel
theorem d13_15 : decode jdk_52_method_21_code 15 = .ok (.iload 6, 2) := by decide +kernel
theorem d13_17 : decode jdk_52_method_21_code 17 = .ok (.sipush 255, 3) := by decide +kernel
theorem d13_20 : decode jdk_52_method_21_code 20 = .ok (.if_icmp .le 6, 3) := by decide +kernel
theorem d13_23 : decode jdk_52_method_21_code 23 = .ok (.iload 5, 2) := by decide +kernel
theorem d13_25 : decode jdk_52_method_21_code 25 = .ok (.ireturn, 1) := by decide +kernel
theorem d13_26 : decode jdk_52_method_21_code 26 = .ok (.aload_n 2, 1) := by decide +kernel
theorem d13_27 : decode jdk_52_method_21_code 27 = .ok (.iload_n 3, 1) := by decide +kernel
theorem d13_28 : decode jdk_52_method_21_code 28 = .ok (.iload 6, 2) := by decide +kernel
theorem d13_30 : decode jdk_52_method_21_code 30 = .ok (.i2b, 1) := by decide +kernel
theorem d13_31 : decode jdk_52_method_21_code 31 = .ok (.bastore, 1) := by decide +kernel
theorem d13_32 : decode jdk_52_method_21_code 32 = .ok (.iinc 1 1, 3) := by decide +kernel
theorem d13_35 : decode jdk_52_method_21_code 35 = .ok (.iinc 3 1, 3) := by decide +kernel
theorem d13_38 : decode jdk_52_method_21_code 38 = .ok (.iinc 5 1, 3) := by decide +kernel
theorem d13_41 : decode jdk_52_method_21_code 41 = .ok (.goto (-38), 3) := by decide +kernel
theorem own_pn0 : plainName "java/lang/StringUTF16" = true := by first | (simp [plainName, overriddenIn]; done) | decide +kernel
def Q_cmp5G (Z : State) (ca : Addr) (kc : ClassId) (ba : Addr) (kb : ClassId) (cs : List Int32) (N : Nat) (bs : List Value) (h0 : Heap) (n0 : Nat) (v : Option Value) (h : Heap) (L : List Loc) : Prop := Fr n0 L ∧ Keep h0 h [ba] ∧ ∃ f : Nat, v = some (.int (Int32.ofNat f)) ∧ ((f = N ∧ own_LA Z h ba kb cs N) ∨ (f < N ∧ (255 : Int32) < cs.getD f 0))
set_option maxRecDepth 65536 in
set_option maxHeartbeats 40000000 in
theorem rm_cmp5G (l : Launch) (Z : State) (a0 : Array Value) (hw : ∀ d ∈ tables_1, d.before a0 Z = true) (ws : List Jvm.Cond) (ca : Addr) (kc : ClassId) (ba : Addr) (kb : ClassId) (cs : List Int32) (N : Nat) (bs : List Value) (h0 : Heap) (n0 : Nat) (Z0 : n0 ≤ h0.size) (hcl : cs.length = N) (hN : N ≤ 4) (VC : Arv Z h0 ca kc .char (Int32.ofNat N) (cs.map Value.int) (.int (0 : Int32))) (VB : Arv Z h0 ba kb .byte (Int32.ofNat N) bs (.int (0 : Int32))) (nab : ca ≠ ba) (gb : n0 ≤ ba) (hbl : 4 ≤ bs.length) :
    MetFree l (⟨"java/lang/StringUTF16", "compress", "([CI[BII)I"⟩ : MethodName) (head1 (Jvm.Cond.code (⟨"java/lang/StringUTF16", "compress", "([CI[BII)I"⟩ : MethodName) jdk_52_method_21_code 7 (some .int) :: ws) ({ frames := 0, cells := 0, slots := 0, locals := 0 } : Room)) (fun aa_ U => aa_ = #[(.ref ca), (.int (0 : Int32)), (.ref ba), (.int (0 : Int32)), (.int (Int32.ofNat N))] ∧ Z.Warmed39 U.vm ∧ U.heap = h0) (fun _ _ _ _ _ => True) (fun _ U o_ U' => RetG U (Q_cmp5G Z ca kc ba kb cs N bs h0 n0) 0 0 U' o_) := by
  refine MetFree.of_bodySF (plainFor_of_name own_pn0) hisR ?_
  intro p e s m args below meth c_ s₁ Bd hml0 hP hK
  obtain ⟨rfl, hZ, hh⟩ := hP
  have hx := Bd.exec
  have hby := Bd.bytes
  have hml : c_.maxLocals = 7 := hml0
  have hown : s.vm.findClass "java/lang/StringUTF16" = some m.cls := findClass_of_methodNamed Bd.named
  have hnm := (name_of_methodNamed Bd.named Bd.method).1
  have X0 : Stand p l e ({ frames := 0, cells := 0, slots := 0, locals := 0 } : Room) s m #[(.ref ca), (.int (0 : Int32)), (.ref ba), (.int (0 : Int32)), (.int (Int32.ofNat N))] below meth c_ s₁ [] 0 0 := Stand.of_body Bd
  have e0 : s₁.heap = h0 := by rw [← hh, Bd.state]; rfl
  have N0 := Fr.nil n0
  show Go p e below (RetG s (Q_cmp5G Z ca kc ba kb cs N bs h0 n0) 0 0) (s₁.setTop (entryFrame m #[(.ref ca), (.int (0 : Int32)), (.ref ba), (.int (0 : Int32)), (.int (Int32.ofNat N))] 7))
  rw [show entryFrame m #[(.ref ca), (.int (0 : Int32)), (.ref ba), (.int (0 : Int32)), (.int (Int32.ofNat N))] 7 = mkF m 0 #[.val (.ref ca), .val (.int (0 : Int32)), .val (.ref ba), .val (.int (0 : Int32)), .val (.int (Int32.ofNat N)), .unset, .unset] [] from by first | (simp [entryFrame, mkF, argsToLocals, Value.category]; done) | rfl]
  refine g_iconst X0 hx hby (0 : Int32) d13_0 rfl ?_
  refine g_istore X0 hx hby d13_1 (l' := #[.val (.ref ca), .val (.int (0 : Int32)), .val (.ref ba), .val (.int (0 : Int32)), .val (.int (Int32.ofNat N)), .val (.int (0 : Int32)), .unset]) rfl ?_
  have loop : ∀ (kk j : Nat) (o6 : Slot) (bs9 : List Value) (T9 : State) (locs9 : List Loc) (h9 : Heap), j + kk = N → Stand p l e ({ frames := 0, cells := 0, slots := 0, locals := 0 } : Room) s m #[(.ref ca), (.int (0 : Int32)), (.ref ba), (.int (0 : Int32)), (.int (Int32.ofNat N))] below meth c_ T9 locs9 0 0 → T9.heap = h9 → Fr n0 locs9 → Keep h0 h9 [ba] → (One o6) → (Arv Z h9 ca kc .char (Int32.ofNat N) (cs.map Value.int) (.int (0 : Int32))) → (Arv Z h9 ba kb .byte (Int32.ofNat N) bs9 (.int (0 : Int32))) → (4 ≤ bs9.length) → (∀ i, i < j → ¬ (255 : Int32) < cs.getD i 0 ∧ bs9.getD i (.int (0 : Int32)) = .int (own_bt (cs.getD i 0))) →  Go p e below (RetG s (Q_cmp5G Z ca kc ba kb cs N bs h0 n0) 0 0) (T9.setTop (mkF m 3 #[.val (.ref ca), .val (.int (Int32.ofNat j)), .val (.ref ba), .val (.int (Int32.ofNat j)), .val (.int (Int32.ofNat N)), .val (.int (Int32.ofNat j)), o6] [])) := by
    intro kk
    induction kk with
    | zero =>
      intro j o6 bs9 T9 locs9 h9 hj X9 e9 N9 K9 ho6 VC9 VB9 hl9 hb9
      have z9 : n0 ≤ h9.size := Nat.le_trans Z0 K9.1
      obtain rfl : N = j := by omega
      refine g_iload X9 hx hby d13_3 rfl ?_
      refine g_iload X9 hx hby d13_5 rfl ?_
      refine g_icY X9 hx hby 44 d13_7 (flt (own_nltn (own_hn (by omega)) : ¬ ((Int32.ofNat N) < (Int32.ofNat N)))).2.1 (by decide) (by decide) ?_
      refine g_iload X9 hx hby d13_44 rfl ?_
      refine g_iret X9 hx hby Bd.returns Bd.notSynchronized d13_46 e9 (by decide) (by decide) ?_
      show (Q_cmp5G Z ca kc ba kb cs N bs h0 n0) (some (.int (Int32.ofNat N))) _ _
      exact ⟨N9, K9, N, rfl, Or.inl ⟨rfl, _, VB9, hb9⟩⟩
    | succ kk ih =>
      intro j o6 bs9 T9 locs9 h9 hj X9 e9 N9 K9 ho6 VC9 VB9 hl9 hb9
      have z9 : n0 ≤ h9.size := Nat.le_trans Z0 K9.1
      refine g_iload X9 hx hby d13_3 rfl ?_
      refine g_iload X9 hx hby d13_5 rfl ?_
      refine g_icN X9 hx hby d13_7 (tlt (own_ltn (own_hn (by omega)) (by omega) : (Int32.ofNat j) < (Int32.ofNat N))).2.1 ?_
      refine g_aloadN X9 hx hby d13_10 rfl rfl ?_
      refine g_iloadN X9 hx hby d13_11 rfl ?_
      refine g_caload X9 hx hby hZ e9 VC9 (.int (cs.getD j 0)) (own_in2 (by omega) (by omega)) (by rw [own_tn2 (by omega)]; exact own_getD cs j) d13_12 ?_
      refine g_istore X9 hx hby d13_13 (l' := #[.val (.ref ca), .val (.int (Int32.ofNat j)), .val (.ref ba), .val (.int (Int32.ofNat j)), .val (.int (Int32.ofNat N)), .val (.int (Int32.ofNat j)), .val (.int (cs.getD j 0))]) (by rw [XS.store1 (o := o6) rfl ho6 rfl]; rfl) ?_
      refine g_iload X9 hx hby d13_15 rfl ?_
      refine g_sipush X9 hx hby (255 : Int32) d13_17 rfl ?_
      by_cases hc20_1 : (255 : Int32) < (cs.getD j 0)
      · skip
        refine g_icN X9 hx hby d13_20 (tlt hc20_1).2.2.2 ?_
        refine g_iload X9 hx hby d13_23 rfl ?_
        refine g_iret X9 hx hby Bd.returns Bd.notSynchronized d13_25 e9 (by decide) (by decide) ?_
        show (Q_cmp5G Z ca kc ba kb cs N bs h0 n0) (some (.int (Int32.ofNat j))) _ _
        exact ⟨N9, K9, j, rfl, Or.inr ⟨by omega, hc20_1⟩⟩
      · skip
        refine g_icY X9 hx hby 26 d13_20 (flt hc20_1).2.2.2 (by decide) (by decide) ?_
        refine g_aloadN X9 hx hby d13_26 rfl rfl ?_
        refine g_iloadN X9 hx hby d13_27 rfl ?_
        refine g_iload X9 hx hby d13_28 rfl ?_
        refine g_i2b X9 hx hby d13_30 ?_
        refine g_bastore X9 hx hby hZ e9 VB9 j (bs9.set j (.int (own_bt (cs.getD j 0)))) rfl (own_in2 (by omega) (by omega)) (own_tn2 (by omega)) (by omega) N9 gb d13_31 (fun T2 h2 X2 e2 W2 V2 N2 => ?_)
        refine g_iinc X2 hx hby ((Int32.ofNat j) + (1 : Int32)) d13_32 rfl rfl (l' := #[.val (.ref ca), .val (.int ((Int32.ofNat j) + (1 : Int32))), .val (.ref ba), .val (.int (Int32.ofNat j)), .val (.int (Int32.ofNat N)), .val (.int (Int32.ofNat j)), .val (.int (cs.getD j 0))]) rfl ?_
        refine g_iinc X2 hx hby ((Int32.ofNat j) + (1 : Int32)) d13_35 rfl rfl (l' := #[.val (.ref ca), .val (.int ((Int32.ofNat j) + (1 : Int32))), .val (.ref ba), .val (.int ((Int32.ofNat j) + (1 : Int32))), .val (.int (Int32.ofNat N)), .val (.int (Int32.ofNat j)), .val (.int (cs.getD j 0))]) rfl ?_
        refine g_iinc X2 hx hby ((Int32.ofNat j) + (1 : Int32)) d13_38 rfl rfl (l' := #[.val (.ref ca), .val (.int ((Int32.ofNat j) + (1 : Int32))), .val (.ref ba), .val (.int ((Int32.ofNat j) + (1 : Int32))), .val (.int (Int32.ofNat N)), .val (.int ((Int32.ofNat j) + (1 : Int32))), .val (.int (cs.getD j 0))]) rfl ?_
        refine g_goto X2 hx hby 3 d13_41 (by decide) (by decide) ?_
        have f3 := (VC9.other W2 nab)
        rw [own_up]
        exact ih (j + 1) _ _ _ _ _ (by omega) X2 e2 N2 (K9.wr W2 (Or.inl (List.mem_of_getElem? (i := 0) rfl))) (One.val rfl) f3 V2 (by rw [List.length_set]; exact hl9) (fun i hi => by
              by_cases q : i = j
              · subst q; exact ⟨hc20_1, own_setD (by omega)⟩
              · rw [own_setN (fun z => q z.symm)]; exact hb9 i (by omega))
  refine loop N 0 _ _ _ _ _ (by omega) X0 e0 N0 (Keep.refl h0 [ba]) (Or.inl rfl) VC VB hbl (fun i hi => absurd hi (Nat.not_lt_zero i))

theorem d25_0 : decode jdk_52_method_3_code 0 = .ok (.iload_n 0, 1) := by decide +kernel
theorem d25_1 : decode jdk_52_method_3_code 1 = .ok (.ifCond .ge 11, 3) := by decide +kernel
theorem d25_12 : decode jdk_52_method_3_code 12 = .ok (.iload_n 0, 1) := by decide +kernel
theorem d25_13 : decode jdk_52_method_3_code 13 = .ok (.ldc 20, 2) := by decide +kernel
theorem d25_15 : decode jdk_52_method_3_code 15 = .ok (.if_icmp .lt 40, 3) := by decide +kernel
theorem d25_55 : decode jdk_52_method_3_code 55 = .ok (.iload_n 0, 1) := by decide +kernel
theorem d25_56 : decode jdk_52_method_3_code 56 = .ok (.iconst 1, 1) := by decide +kernel
theorem d25_57 : decode jdk_52_method_3_code 57 = .ok (.ishl, 1) := by decide +kernel
theorem d25_58 : decode jdk_52_method_3_code 58 = .ok (.ireturn, 1) := by decide +kernel
def Q_nblG (Z : State) (N : Nat) (h0 : Heap) (n0 : Nat) (v : Option Value) (h : Heap) (L : List Loc) : Prop := v = some (.int (Int32.ofNat (2 * N))) ∧ Fr n0 L ∧ h = h0
set_option maxRecDepth 65536 in
set_option maxHeartbeats 40000000 in
theorem rm_nblG (l : Launch) (Z : State) (a0 : Array Value) (hw : ∀ d ∈ tables_1, d.before a0 Z = true) (ws : List Jvm.Cond) (N : Nat) (h0 : Heap) (n0 : Nat) (Z0 : n0 ≤ h0.size) (hN : N ≤ 4) :
    MetFree l (⟨"java/lang/StringUTF16", "newBytesLength", "(I)I"⟩ : MethodName) (head1 (Jvm.Cond.code (⟨"java/lang/StringUTF16", "newBytesLength", "(I)I"⟩ : MethodName) jdk_52_method_3_code 1 (some .int) :: ws) ({ frames := 0, cells := 0, slots := 0, locals := 0 } : Room)) (fun aa_ U => aa_ = #[(.int (Int32.ofNat N))] ∧ Z.Warmed39 U.vm ∧ U.heap = h0) (fun _ _ _ _ _ => True) (fun _ U o_ U' => RetG U (Q_nblG Z N h0 n0) 0 0 U' o_) := by
  refine MetFree.of_bodySF (plainFor_of_name own_pn0) hisR ?_
  intro p e s m args below meth c_ s₁ Bd hml0 hP hK
  obtain ⟨rfl, hZ, hh⟩ := hP
  have hx := Bd.exec
  have hby := Bd.bytes
  have hml : c_.maxLocals = 1 := hml0
  have hown : s.vm.findClass "java/lang/StringUTF16" = some m.cls := findClass_of_methodNamed Bd.named
  have hnm := (name_of_methodNamed Bd.named Bd.method).1
  have X0 : Stand p l e ({ frames := 0, cells := 0, slots := 0, locals := 0 } : Room) s m #[(.int (Int32.ofNat N))] below meth c_ s₁ [] 0 0 := Stand.of_body Bd
  have e0 : s₁.heap = h0 := by rw [← hh, Bd.state]; rfl
  have N0 := Fr.nil n0
  have w122_ := hw _ (List.mem_of_getElem? (i := 122) rfl)
  show Go p e below (RetG s (Q_nblG Z N h0 n0) 0 0) (s₁.setTop (entryFrame m #[(.int (Int32.ofNat N))] 1))
  rw [show entryFrame m #[(.int (Int32.ofNat N))] 1 = mkF m 0 #[.val (.int (Int32.ofNat N))] [] from by first | (simp [entryFrame, mkF, argsToLocals, Value.category]; done) | rfl]
  refine g_iloadN X0 hx hby d25_0 rfl ?_
  refine g_ifY X0 hx hby 12 d25_1 (flt ((own_nn (by rw [own_hn (by omega)]; omega)) : ¬ ((Int32.ofNat N) < (0 : Int32)))).2.1 (by decide) (by decide) ?_
  refine g_iloadN X0 hx hby d25_12 rfl ?_
  refine g_ldcI X0 hx hby hZ hown w122_ d25_13 ?_
  refine g_icY X0 hx hby 55 d25_15 (tlt ((by rw [Int32.lt_iff_toInt_lt, own_hn (by omega)]; show (N : Int) < 1073741823; omega) : (Int32.ofNat N) < (1073741823 : Int32))).1 (by decide) (by decide) ?_
  refine g_iloadN X0 hx hby d25_55 rfl ?_
  refine g_iconst X0 hx hby (1 : Int32) d25_56 rfl ?_
  refine g_ishl X0 hx hby d25_57 ?_
  refine g_iret X0 hx hby Bd.returns Bd.notSynchronized d25_58 e0 (by decide) (by decide) ?_
  show (Q_nblG Z N h0 n0) (some (.int ((Int32.ofNat N) <<< ((1 : Int32) &&& 31)))) _ _
  exact ⟨by rw [own_sh hN], N0, rfl⟩

theorem d24_0 : decode jdk_52_method_2_code 0 = .ok (.iload_n 0, 1) := by decide +kernel
theorem d24_1 : decode jdk_52_method_2_code 1 = .ok (.invokestatic 11, 3) := by decide +kernel
theorem own_pd0 : parseMethodDescriptor "(I)I" = some ⟨[.int], some .int⟩ := by decide +kernel
theorem d24_4 : decode jdk_52_method_2_code 4 = .ok (.newarray .byte, 2) := by decide +kernel
theorem d24_6 : decode jdk_52_method_2_code 6 = .ok (.areturn, 1) := by decide +kernel
def Q_nbfG (Z : State) (N : Nat) (h0 : Heap) (n0 : Nat) (v : Option Value) (h : Heap) (L : List Loc) : Prop := Fr n0 L ∧ Keep h0 h [] ∧ ∃ (b : Addr) (kb : ClassId), v = some (.ref b) ∧ h0.size ≤ b ∧ Arv Z h b kb .byte (Int32.ofNat (2 * N)) (List.replicate 8 (.int (0 : Int32))) (.int (0 : Int32))
set_option maxRecDepth 65536 in
set_option maxHeartbeats 40000000 in
theorem rm_nbfG (l : Launch) (Z : State) (a0 : Array Value) (hw : ∀ d ∈ tables_1, d.before a0 Z = true) (ws : List Jvm.Cond) (N : Nat) (h0 : Heap) (n0 : Nat) (Z0 : n0 ≤ h0.size) (hN : N ≤ 4) :
    MetFree l (⟨"java/lang/StringUTF16", "newBytesFor", "(I)[B"⟩ : MethodName) (head1 (Jvm.Cond.code (⟨"java/lang/StringUTF16", "newBytesFor", "(I)[B"⟩ : MethodName) jdk_52_method_2_code 1 (some (.array .byte)) :: ws) ({ frames := 1, cells := 1, slots := 8, locals := 12 } : Room)) (fun aa_ U => aa_ = #[(.int (Int32.ofNat N))] ∧ Z.Warmed39 U.vm ∧ U.heap = h0) (fun _ _ _ _ _ => True) (fun _ U o_ U' => RetG U (Q_nbfG Z N h0 n0) 1 8 U' o_) := by
  refine MetFree.of_bodySF (plainFor_of_name own_pn0) hisR ?_
  intro p e s m args below meth c_ s₁ Bd hml0 hP hK
  obtain ⟨rfl, hZ, hh⟩ := hP
  have hx := Bd.exec
  have hby := Bd.bytes
  have hml : c_.maxLocals = 1 := hml0
  have hown : s.vm.findClass "java/lang/StringUTF16" = some m.cls := findClass_of_methodNamed Bd.named
  have hnm := (name_of_methodNamed Bd.named Bd.method).1
  have X0 : Stand p l e ({ frames := 1, cells := 1, slots := 8, locals := 12 } : Room) s m #[(.int (Int32.ofNat N))] below meth c_ s₁ [] 0 0 := Stand.of_body Bd
  have e0 : s₁.heap = h0 := by rw [← hh, Bd.state]; rfl
  have N0 := Fr.nil n0
  have w28_ := hw _ (List.mem_of_getElem? (i := 28) rfl)
  have w70_ := hw _ (List.mem_of_getElem? (i := 70) rfl)
  have w119_ := hw _ (List.mem_of_getElem? (i := 119) rfl)
  have w120_ := hw _ (List.mem_of_getElem? (i := 120) rfl)
  have w121_ := hw _ (List.mem_of_getElem? (i := 121) rfl)
  show Go p e below (RetG s (Q_nbfG Z N h0 n0) 1 8) (s₁.setTop (entryFrame m #[(.int (Int32.ofNat N))] 1))
  rw [show entryFrame m #[(.int (Int32.ofNat N))] 1 = mkF m 0 #[.val (.int (Int32.ofNat N))] [] from by first | (simp [entryFrame, mkF, argsToLocals, Value.category]; done) | rfl]
  refine g_iloadN X0 hx hby d24_0 rfl ?_
  refine g_static X0 hx hby hZ hown (rm_nblG l Z a0 hw [] N h0 n0 Z0 hN) w119_ w120_ w70_ w121_ (by decide) e0 (by rw [hml]; rfl) [(.int (Int32.ofNat N))] (lenOf own_pd0 rfl) rfl rfl (Nat.le_of_ble_eq_true rfl) (Nat.le_of_ble_eq_true rfl) (Nat.le_of_ble_eq_true rfl) (Nat.le_of_ble_eq_true rfl) d24_1 (fun v1 T1 L1 X1 hQ1 => ?_)
  obtain ⟨rfl, N1q, eh1⟩ := hQ1
  have N1 := Fr.app N0 N1q
  refine g_newarray X1 hx hby hZ .byte .byte (.int (0 : Int32)) (List.replicate 8 (.int (0 : Int32))) rfl rfl w28_ eh1 (own_nn (by rw [own_hn (by omega)]; omega)) 8 rfl (by rw [own_tn2 (by omega)]; omega) (by decide) (by decide) (by decide) d24_4 (fun T2 h2 k2 b2 g2 X2 e2 E2 V2 => ?_)
  refine g_aret X2 hx hby (t := (.array .byte)) rfl rfl rfl Bd.returns Bd.notSynchronized d24_6 e2 (by decide) (by decide) ?_
  show (Q_nbfG Z N h0 n0) (some (.ref b2)) _ _
  exact ⟨N1, ((Keep.refl h0 []).ext E2), b2, k2, rfl, (Nat.le_trans (Nat.le_refl _) (Nat.le_of_eq g2)), V2⟩

theorem d26_0 : decode jdk_52_method_4_code 0 = .ok (.getstatic 44, 3) := by decide +kernel
theorem d26_3 : decode jdk_52_method_4_code 3 = .ok (.ifCond .ne 25, 3) := by decide +kernel
theorem d26_28 : decode jdk_52_method_4_code 28 = .ok (.iload_n 1, 1) := by decide +kernel
theorem d26_29 : decode jdk_52_method_4_code 29 = .ok (.iconst 1, 1) := by decide +kernel
theorem d26_30 : decode jdk_52_method_4_code 30 = .ok (.ishl, 1) := by decide +kernel
theorem d26_31 : decode jdk_52_method_4_code 31 = .ok (.istore_n 1, 1) := by decide +kernel
theorem d26_32 : decode jdk_52_method_4_code 32 = .ok (.aload_n 0, 1) := by decide +kernel
theorem d26_33 : decode jdk_52_method_4_code 33 = .ok (.iload_n 1, 1) := by decide +kernel
theorem d26_34 : decode jdk_52_method_4_code 34 = .ok (.iinc 1 1, 3) := by decide +kernel
theorem d26_37 : decode jdk_52_method_4_code 37 = .ok (.iload_n 2, 1) := by decide +kernel
theorem d26_38 : decode jdk_52_method_4_code 38 = .ok (.getstatic 59, 3) := by decide +kernel
theorem d26_41 : decode jdk_52_method_4_code 41 = .ok (.ishr, 1) := by decide +kernel
theorem d26_42 : decode jdk_52_method_4_code 42 = .ok (.i2b, 1) := by decide +kernel
theorem d26_43 : decode jdk_52_method_4_code 43 = .ok (.bastore, 1) := by decide +kernel
theorem d26_44 : decode jdk_52_method_4_code 44 = .ok (.aload_n 0, 1) := by decide +kernel
theorem d26_45 : decode jdk_52_method_4_code 45 = .ok (.iload_n 1, 1) := by decide +kernel
theorem d26_46 : decode jdk_52_method_4_code 46 = .ok (.iload_n 2, 1) := by decide +kernel
theorem d26_47 : decode jdk_52_method_4_code 47 = .ok (.getstatic 63, 3) := by decide +kernel
theorem d26_50 : decode jdk_52_method_4_code 50 = .ok (.ishr, 1) := by decide +kernel
theorem d26_51 : decode jdk_52_method_4_code 51 = .ok (.i2b, 1) := by decide +kernel
theorem d26_52 : decode jdk_52_method_4_code 52 = .ok (.bastore, 1) := by decide +kernel
theorem d26_53 : decode jdk_52_method_4_code 53 = .ok (.return_, 1) := by decide +kernel
def Q_putcG (Z : State) (b : Addr) (kb : ClassId) (N : Nat) (j : Nat) (bs : List Value) (cc : Int32) (h0 : Heap) (n0 : Nat) (v : Option Value) (h : Heap) (L : List Loc) : Prop := v = none ∧ Fr n0 L ∧ Keep h0 h [b] ∧ Arv Z h b kb .byte (Int32.ofNat (2 * N)) ((bs.set (2 * j) (.int (own_lob cc))).set (2 * j + 1) (.int (own_hib cc))) (.int (0 : Int32))
set_option maxRecDepth 65536 in
set_option maxHeartbeats 40000000 in
theorem rm_putcG (l : Launch) (Z : State) (a0 : Array Value) (hw : ∀ d ∈ tables_1, d.before a0 Z = true) (ws : List Jvm.Cond) (b : Addr) (kb : ClassId) (N : Nat) (j : Nat) (bs : List Value) (cc : Int32) (h0 : Heap) (n0 : Nat) (Z0 : n0 ≤ h0.size) (Uad : Sta Z Z.heap "java/lang/StringUTF16" "$assertionsDisabled" "Z" (.int (1 : Int32))) (Uhi : Sta Z Z.heap "java/lang/StringUTF16" "HI_BYTE_SHIFT" "I" (.int (0 : Int32))) (Ulo : Sta Z Z.heap "java/lang/StringUTF16" "LO_BYTE_SHIFT" "I" (.int (8 : Int32))) (OLD : Old Z n0 h0) (hN : N ≤ 4) (hj : j < N) (VB : Arv Z h0 b kb .byte (Int32.ofNat (2 * N)) bs (.int (0 : Int32))) (gb : n0 ≤ b) (hl : 8 ≤ bs.length) :
    MetFree l (⟨"java/lang/StringUTF16", "putChar", "([BII)V"⟩ : MethodName) (head1 (Jvm.Cond.code (⟨"java/lang/StringUTF16", "putChar", "([BII)V"⟩ : MethodName) jdk_52_method_4_code 3 none :: ws) ({ frames := 0, cells := 0, slots := 0, locals := 0 } : Room)) (fun aa_ U => aa_ = #[(.ref b), (.int (Int32.ofNat j)), (.int cc)] ∧ Z.Warmed39 U.vm ∧ U.heap = h0) (fun _ _ _ _ _ => True) (fun _ U o_ U' => RetG U (Q_putcG Z b kb N j bs cc h0 n0) 0 0 U' o_) := by
  refine MetFree.of_bodySF (plainFor_of_name own_pn0) hisR ?_
  intro p e s m args below meth c_ s₁ Bd hml0 hP hK
  obtain ⟨rfl, hZ, hh⟩ := hP
  have hx := Bd.exec
  have hby := Bd.bytes
  have hml : c_.maxLocals = 3 := hml0
  have hown : s.vm.findClass "java/lang/StringUTF16" = some m.cls := findClass_of_methodNamed Bd.named
  have hnm := (name_of_methodNamed Bd.named Bd.method).1
  have X0 : Stand p l e ({ frames := 0, cells := 0, slots := 0, locals := 0 } : Room) s m #[(.ref b), (.int (Int32.ofNat j)), (.int cc)] below meth c_ s₁ [] 0 0 := Stand.of_body Bd
  have e0 : s₁.heap = h0 := by rw [← hh, Bd.state]; rfl
  have N0 := Fr.nil n0
  have w126_ := hw _ (List.mem_of_getElem? (i := 126) rfl)
  have w127_ := hw _ (List.mem_of_getElem? (i := 127) rfl)
  have w128_ := hw _ (List.mem_of_getElem? (i := 128) rfl)
  show Go p e below (RetG s (Q_putcG Z b kb N j bs cc h0 n0) 0 0) (s₁.setTop (entryFrame m #[(.ref b), (.int (Int32.ofNat j)), (.int cc)] 3))
  rw [show entryFrame m #[(.ref b), (.int (Int32.ofNat j)), (.int cc)] 3 = mkF m 0 #[.val (.ref b), .val (.int (Int32.ofNat j)), .val (.int cc)] [] from by first | (simp [entryFrame, mkF, argsToLocals, Value.category]; done) | rfl]
  refine g_getS X0 hx hby hZ hown (host := "") (Or.inl w126_) Via.refl e0 (Uad.ext OLD.2) d26_0 (fun T1 X1 e1 => ?_)
  refine g_ifY X1 hx hby 28 d26_3 (feq (by decide : ¬ ((1 : Int32) = (0 : Int32)))).2 (by decide) (by decide) ?_
  refine g_iloadN X1 hx hby d26_28 rfl ?_
  refine g_iconst X1 hx hby (1 : Int32) d26_29 rfl ?_
  refine g_ishl X1 hx hby d26_30 ?_
  refine g_topI (Int32.ofNat (2 * j)) (own_sh (by omega)) ?_
  refine g_istoreN X1 hx hby d26_31 (l' := #[.val (.ref b), .val (.int (Int32.ofNat (2 * j))), .val (.int cc)]) rfl ?_
  refine g_aloadN X1 hx hby d26_32 rfl rfl ?_
  refine g_iloadN X1 hx hby d26_33 rfl ?_
  refine g_iinc X1 hx hby ((Int32.ofNat (2 * j)) + (1 : Int32)) d26_34 rfl rfl (l' := #[.val (.ref b), .val (.int ((Int32.ofNat (2 * j)) + (1 : Int32))), .val (.int cc)]) rfl ?_
  refine g_iloadN X1 hx hby d26_37 rfl ?_
  refine g_getS X1 hx hby hZ hown (host := "") (Or.inl w127_) Via.refl e1 (Uhi.ext OLD.2) d26_38 (fun T2 X2 e2 => ?_)
  refine g_ishr X2 hx hby d26_41 ?_
  refine g_i2b X2 hx hby d26_42 ?_
  refine g_bastore X2 hx hby hZ e2 VB (2 * j) (bs.set (2 * j) (.int (own_lob cc))) rfl (own_in2 (by omega) (by omega)) (own_tn2 (by omega)) (by omega) N0 gb d26_43 (fun T3 h3 X3 e3 W3 V3 N3 => ?_)
  refine g_aloadN X3 hx hby d26_44 rfl rfl ?_
  refine g_iloadN X3 hx hby d26_45 rfl ?_
  refine g_iloadN X3 hx hby d26_46 rfl ?_
  have f4 := (OLD.wr W3 gb)
  refine g_getS X3 hx hby hZ hown (host := "") (Or.inl w128_) Via.refl e3 (Ulo.ext f4.2) d26_47 (fun T5 X5 e5 => ?_)
  refine g_ishr X5 hx hby d26_50 ?_
  refine g_i2b X5 hx hby d26_51 ?_
  refine g_bastore X5 hx hby hZ e5 V3 (2 * j + 1) ((bs.set (2 * j) (.int (own_lob cc))).set (2 * j + 1) (.int (own_hib cc))) rfl (by rw [own_up]; exact own_in2 (by omega) (by omega)) (by rw [own_up, own_tn2 (by omega)]) (by rw [List.length_set]; omega) N3 gb d26_52 (fun T6 h6 X6 e6 W6 V6 N6 => ?_)
  refine g_ret X6 hx hby Bd.returns Bd.notSynchronized d26_53 e6 (by decide) (by decide) ?_
  show (Q_putcG Z b kb N j bs cc h0 n0) none _ _
  exact ⟨rfl, N6, (((Keep.refl h0 [b]).wr W3 (Or.inl (List.mem_of_getElem? (i := 0) rfl))).wr W6 (Or.inl (List.mem_of_getElem? (i := 0) rfl))), V6⟩

theorem d23_0 : decode jdk_52_method_14_code 0 = .ok (.iload_n 2, 1) := by decide +kernel
theorem d23_1 : decode jdk_52_method_14_code 1 = .ok (.invokestatic 107, 3) := by decide +kernel
theorem own_pd1 : parseMethodDescriptor "(I)[B" = some ⟨[.int], some (.array .byte)⟩ := by decide +kernel
theorem d23_4 : decode jdk_52_method_14_code 4 = .ok (.astore_n 3, 1) := by decide +kernel
theorem d23_5 : decode jdk_52_method_14_code 5 = .ok (.iconst 0, 1) := by decide +kernel
theorem d23_6 : decode jdk_52_method_14_code 6 = .ok (.istore 4, 2) := by decide +kernel
theorem d23_8 : decode jdk_52_method_14_code 8 = .ok (.iload 4, 2) := by decide +kernel
theorem d23_10 : decode jdk_52_method_14_code 10 = .ok (.iload_n 2, 1) := by decide +kernel
theorem d23_11 : decode jdk_52_method_14_code 11 = .ok (.if_icmp .ge 21, 3) := by decide +kernel
theorem d23_32 : decode jdk_52_method_14_code 32 = .ok (.aload_n 3, 1) := by decide +kernel
theorem d23_33 : decode jdk_52_method_14_code 33 = .ok (.areturn, 1) := by decide +kernel
theorem d23_14 : decode jdk_52_method_14_code 14 = .ok (.aload_n 3, 1) := by decide +kernel
theorem d23_15 : decode jdk_52_method_14_code 15 = .ok (.iload 4, 2) := by decide +kernel
theorem d23_17 : decode jdk_52_method_14_code 17 = .ok (.aload_n 0, 1) := by decide +kernel
theorem d23_18 : decode jdk_52_method_14_code 18 = .ok (.iload_n 1, 1) := by decide +kernel
theorem d23_19 : decode jdk_52_method_14_code 19 = .ok (.caload, 1) := by decide +kernel
theorem d23_20 : decode jdk_52_method_14_code 20 = .ok (.invokestatic 111, 3) := by decide +kernel
theorem own_pd2 : parseMethodDescriptor "([BII)V" = some ⟨[(.array .byte), .int, .int], none⟩ := by decide +kernel
theorem d23_23 : decode jdk_52_method_14_code 23 = .ok (.iinc 1 1, 3) := by decide +kernel
theorem d23_26 : decode jdk_52_method_14_code 26 = .ok (.iinc 4 1, 3) := by decide +kernel
theorem d23_29 : decode jdk_52_method_14_code 29 = .ok (.goto (-21), 3) := by decide +kernel
def Q_tobG (Z : State) (ca : Addr) (kc : ClassId) (cs : List Int32) (N : Nat) (h0 : Heap) (n0 : Nat) (v : Option Value) (h : Heap) (L : List Loc) : Prop := Fr n0 L ∧ Keep h0 h [] ∧ ∃ (b : Addr) (kb : ClassId), v = some (.ref b) ∧ h0.size ≤ b ∧ own_UA Z h b kb cs N
set_option maxRecDepth 65536 in
set_option maxHeartbeats 40000000 in
theorem rm_tobG (l : Launch) (Z : State) (a0 : Array Value) (hw : ∀ d ∈ tables_1, d.before a0 Z = true) (ws : List Jvm.Cond) (ca : Addr) (kc : ClassId) (cs : List Int32) (N : Nat) (h0 : Heap) (n0 : Nat) (Z0 : n0 ≤ h0.size) (Uad : Sta Z Z.heap "java/lang/StringUTF16" "$assertionsDisabled" "Z" (.int (1 : Int32))) (Uhi : Sta Z Z.heap "java/lang/StringUTF16" "HI_BYTE_SHIFT" "I" (.int (0 : Int32))) (Ulo : Sta Z Z.heap "java/lang/StringUTF16" "LO_BYTE_SHIFT" "I" (.int (8 : Int32))) (OLD : Old Z n0 h0) (hcl : cs.length = N) (hN : N ≤ 4) (VC : Arv Z h0 ca kc .char (Int32.ofNat N) (cs.map Value.int) (.int (0 : Int32))) :
    MetFree l (⟨"java/lang/StringUTF16", "toBytes", "([CII)[B"⟩ : MethodName) (head1 (Jvm.Cond.code (⟨"java/lang/StringUTF16", "toBytes", "([CII)[B"⟩ : MethodName) jdk_52_method_14_code 5 (some (.array .byte)) :: ws) ({ frames := 2, cells := 1, slots := 8, locals := 24 } : Room)) (fun aa_ U => aa_ = #[(.ref ca), (.int (0 : Int32)), (.int (Int32.ofNat N))] ∧ Z.Warmed39 U.vm ∧ U.heap = h0) (fun _ _ _ _ _ => True) (fun _ U o_ U' => RetG U (Q_tobG Z ca kc cs N h0 n0) 1 8 U' o_) := by
  refine MetFree.of_bodySF (plainFor_of_name own_pn0) hisR ?_
  intro p e s m args below meth c_ s₁ Bd hml0 hP hK
  obtain ⟨rfl, hZ, hh⟩ := hP
  have hx := Bd.exec
  have hby := Bd.bytes
  have hml : c_.maxLocals = 5 := hml0
  have hown : s.vm.findClass "java/lang/StringUTF16" = some m.cls := findClass_of_methodNamed Bd.named
  have hnm := (name_of_methodNamed Bd.named Bd.method).1
  have X0 : Stand p l e ({ frames := 2, cells := 1, slots := 8, locals := 24 } : Room) s m #[(.ref ca), (.int (0 : Int32)), (.int (Int32.ofNat N))] below meth c_ s₁ [] 0 0 := Stand.of_body Bd
  have e0 : s₁.heap = h0 := by rw [← hh, Bd.state]; rfl
  have N0 := Fr.nil n0
  have w70_ := hw _ (List.mem_of_getElem? (i := 70) rfl)
  have w116_ := hw _ (List.mem_of_getElem? (i := 116) rfl)
  have w117_ := hw _ (List.mem_of_getElem? (i := 117) rfl)
  have w118_ := hw _ (List.mem_of_getElem? (i := 118) rfl)
  have w123_ := hw _ (List.mem_of_getElem? (i := 123) rfl)
  have w124_ := hw _ (List.mem_of_getElem? (i := 124) rfl)
  have w125_ := hw _ (List.mem_of_getElem? (i := 125) rfl)
  show Go p e below (RetG s (Q_tobG Z ca kc cs N h0 n0) 1 8) (s₁.setTop (entryFrame m #[(.ref ca), (.int (0 : Int32)), (.int (Int32.ofNat N))] 5))
  rw [show entryFrame m #[(.ref ca), (.int (0 : Int32)), (.int (Int32.ofNat N))] 5 = mkF m 0 #[.val (.ref ca), .val (.int (0 : Int32)), .val (.int (Int32.ofNat N)), .unset, .unset] [] from by first | (simp [entryFrame, mkF, argsToLocals, Value.category]; done) | rfl]
  refine g_iloadN X0 hx hby d23_0 rfl ?_
  refine g_static X0 hx hby hZ hown (rm_nbfG l Z a0 hw [] N h0 n0 Z0 hN) w116_ w117_ w70_ w118_ (by decide) e0 (by rw [hml]; rfl) [(.int (Int32.ofNat N))] (lenOf own_pd1 rfl) rfl rfl (Nat.le_of_ble_eq_true rfl) (Nat.le_of_ble_eq_true rfl) (Nat.le_of_ble_eq_true rfl) (Nat.le_of_ble_eq_true rfl) d23_1 (fun v1 T1 L1 X1 hQ1 => ?_)
  obtain ⟨N1q, K1, bb, kbb, rfl, lob, Vb⟩ := hQ1
  have N1 := Fr.app N0 N1q
  refine g_astoreN X1 hx hby d23_4 rfl (l' := #[.val (.ref ca), .val (.int (0 : Int32)), .val (.int (Int32.ofNat N)), .val (.ref bb), .unset]) rfl ?_
  refine g_iconst X1 hx hby (0 : Int32) d23_5 rfl ?_
  refine g_istore X1 hx hby d23_6 (l' := #[.val (.ref ca), .val (.int (0 : Int32)), .val (.int (Int32.ofNat N)), .val (.ref bb), .val (.int (0 : Int32))]) rfl ?_
  have g_bb : n0 ≤ bb := Nat.le_trans Z0 lob
  have gbb : n0 ≤ bb := g_bb
  have lbb : h0.size ≤ bb := (Nat.le_trans (Nat.le_refl _) lob)
  have ne2 : ca ≠ bb := (Nat.ne_of_lt (Nat.lt_of_lt_of_le VC.lt lob))
  have ncb : ca ≠ bb := ne2
  have f3 := (OLD.keep K1 all0)
  have f4 := (VC.keep K1 nin0)
  have loop : ∀ (kk j : Nat) (bs9 : List Value) (T9 : State) (locs9 : List Loc) (h9 : Heap), j + kk = N → Stand p l e ({ frames := 2, cells := 1, slots := 8, locals := 24 } : Room) s m #[(.ref ca), (.int (0 : Int32)), (.int (Int32.ofNat N))] below meth c_ T9 locs9 1 8 → T9.heap = h9 → Fr n0 locs9 → Keep h0 h9 [bb] → (Old Z n0 h9) → (Arv Z h9 ca kc .char (Int32.ofNat N) (cs.map Value.int) (.int (0 : Int32))) → (Arv Z h9 bb kbb .byte (Int32.ofNat (2 * N)) bs9 (.int (0 : Int32))) → (8 ≤ bs9.length) → (∀ i, i < j → bs9.getD (2 * i) (.int (0 : Int32)) = .int (own_lob (cs.getD i 0)) ∧ bs9.getD (2 * i + 1) (.int (0 : Int32)) = .int (own_hib (cs.getD i 0))) →  Go p e below (RetG s (Q_tobG Z ca kc cs N h0 n0) 1 8) (T9.setTop (mkF m 8 #[.val (.ref ca), .val (.int (Int32.ofNat j)), .val (.int (Int32.ofNat N)), .val (.ref bb), .val (.int (Int32.ofNat j))] [])) := by
    intro kk
    induction kk with
    | zero =>
      intro j bs9 T9 locs9 h9 hj X9 e9 N9 K9 OL9 VC9 VB9 hl9 hb9
      have z9 : n0 ≤ h9.size := Nat.le_trans Z0 K9.1
      obtain rfl : N = j := by omega
      refine g_iload X9 hx hby d23_8 rfl ?_
      refine g_iloadN X9 hx hby d23_10 rfl ?_
      refine g_icY X9 hx hby 32 d23_11 (flt (own_nltn (own_hn (by omega)) : ¬ ((Int32.ofNat N) < (Int32.ofNat N)))).2.1 (by decide) (by decide) ?_
      refine g_aloadN X9 hx hby d23_32 rfl rfl ?_
      refine g_aret X9 hx hby (t := (.array .byte)) rfl rfl rfl Bd.returns Bd.notSynchronized d23_33 e9 (by decide) (by decide) ?_
      show (Q_tobG Z ca kc cs N h0 n0) (some (.ref bb)) _ _
      exact ⟨N9, own_kdrop K9 lbb, bb, kbb, rfl, lbb, _, VB9, hb9⟩
    | succ kk ih =>
      intro j bs9 T9 locs9 h9 hj X9 e9 N9 K9 OL9 VC9 VB9 hl9 hb9
      have z9 : n0 ≤ h9.size := Nat.le_trans Z0 K9.1
      refine g_iload X9 hx hby d23_8 rfl ?_
      refine g_iloadN X9 hx hby d23_10 rfl ?_
      refine g_icN X9 hx hby d23_11 (tlt (own_ltn (own_hn (by omega)) (by omega) : (Int32.ofNat j) < (Int32.ofNat N))).2.1 ?_
      refine g_aloadN X9 hx hby d23_14 rfl rfl ?_
      refine g_iload X9 hx hby d23_15 rfl ?_
      refine g_aloadN X9 hx hby d23_17 rfl rfl ?_
      refine g_iloadN X9 hx hby d23_18 rfl ?_
      refine g_caload X9 hx hby hZ e9 VC9 (.int (cs.getD j 0)) (own_in2 (by omega) (by omega)) (by rw [own_tn2 (by omega)]; exact own_getD cs j) d23_19 ?_
      refine g_static X9 hx hby hZ hown (rm_putcG l Z a0 hw [] bb kbb N j bs9 (cs.getD j 0) h9 n0 z9 Uad Uhi Ulo OL9 hN (by omega) VB9 gbb hl9) w123_ w124_ w70_ w125_ (by decide) e9 (by rw [hml]; rfl) [(.ref bb), (.int (Int32.ofNat j)), (.int (cs.getD j 0))] (lenOf own_pd2 rfl) rfl rfl (Nat.le_of_ble_eq_true rfl) (Nat.le_of_ble_eq_true rfl) (Nat.le_of_ble_eq_true rfl) (Nat.le_of_ble_eq_true rfl) d23_20 (fun v5 T5 L5 X5 hQ5 => ?_)
      obtain ⟨rfl, N5q, K5, V5⟩ := hQ5
      have N5 := Fr.app N9 N5q
      refine g_iinc X5 hx hby ((Int32.ofNat j) + (1 : Int32)) d23_23 rfl rfl (l' := #[.val (.ref ca), .val (.int ((Int32.ofNat j) + (1 : Int32))), .val (.int (Int32.ofNat N)), .val (.ref bb), .val (.int (Int32.ofNat j))]) rfl ?_
      refine g_iinc X5 hx hby ((Int32.ofNat j) + (1 : Int32)) d23_26 rfl rfl (l' := #[.val (.ref ca), .val (.int ((Int32.ofNat j) + (1 : Int32))), .val (.int (Int32.ofNat N)), .val (.ref bb), .val (.int ((Int32.ofNat j) + (1 : Int32)))]) rfl ?_
      refine g_goto X5 hx hby 8 d23_29 (by decide) (by decide) ?_
      have f6 := (OL9.keep K5 (allS gbb all0))
      have f7 := (VC9.keep K5 (ninS ncb nin0))
      rw [own_up]
      exact ih (j + 1) _ _ _ _ (by omega) X5 rfl N5 (K9.trans K5 (allS (Or.inl (List.mem_of_getElem? (i := 0) rfl)) all0)) f6 f7 V5 (by rw [List.length_set, List.length_set]; exact hl9) (fun i hi => by
            by_cases q : i = j
            · subst q; exact ⟨by rw [own_setN (by omega)]; exact own_setD (by omega), own_setD (by rw [List.length_set]; omega)⟩
            · rw [own_setN (by omega), own_setN (by omega), own_setN (by omega), own_setN (by omega)]; exact hb9 i (by omega))
  refine loop N 0 _ _ _ _ (by omega) X1 rfl N1 ((Keep.refl h0 [bb]).trans K1 all0) f3 f4 Vb (by rw [List.length_replicate]; exact Nat.le_refl _) (fun i hi => absurd hi (Nat.not_lt_zero i))

theorem d27_0 : decode jdk_52_method_5_code 0 = .ok (.getstatic 44, 3) := by decide +kernel
theorem d27_3 : decode jdk_52_method_5_code 3 = .ok (.ifCond .ne 25, 3) := by decide +kernel
theorem d27_28 : decode jdk_52_method_5_code 28 = .ok (.iload_n 1, 1) := by decide +kernel
theorem d27_29 : decode jdk_52_method_5_code 29 = .ok (.iconst 1, 1) := by decide +kernel
theorem d27_30 : decode jdk_52_method_5_code 30 = .ok (.ishl, 1) := by decide +kernel
theorem d27_31 : decode jdk_52_method_5_code 31 = .ok (.istore_n 1, 1) := by decide +kernel
theorem d27_32 : decode jdk_52_method_5_code 32 = .ok (.aload_n 0, 1) := by decide +kernel
theorem d27_33 : decode jdk_52_method_5_code 33 = .ok (.iload_n 1, 1) := by decide +kernel
theorem d27_34 : decode jdk_52_method_5_code 34 = .ok (.iinc 1 1, 3) := by decide +kernel
theorem d27_37 : decode jdk_52_method_5_code 37 = .ok (.baload, 1) := by decide +kernel
theorem d27_38 : decode jdk_52_method_5_code 38 = .ok (.sipush 255, 3) := by decide +kernel
theorem d27_41 : decode jdk_52_method_5_code 41 = .ok (.iand, 1) := by decide +kernel
theorem d27_42 : decode jdk_52_method_5_code 42 = .ok (.getstatic 59, 3) := by decide +kernel
theorem d27_45 : decode jdk_52_method_5_code 45 = .ok (.ishl, 1) := by decide +kernel
theorem d27_46 : decode jdk_52_method_5_code 46 = .ok (.aload_n 0, 1) := by decide +kernel
theorem d27_47 : decode jdk_52_method_5_code 47 = .ok (.iload_n 1, 1) := by decide +kernel
theorem d27_48 : decode jdk_52_method_5_code 48 = .ok (.baload, 1) := by decide +kernel
theorem d27_49 : decode jdk_52_method_5_code 49 = .ok (.sipush 255, 3) := by decide +kernel
theorem d27_52 : decode jdk_52_method_5_code 52 = .ok (.iand, 1) := by decide +kernel
theorem d27_53 : decode jdk_52_method_5_code 53 = .ok (.getstatic 63, 3) := by decide +kernel
theorem d27_56 : decode jdk_52_method_5_code 56 = .ok (.ishl, 1) := by decide +kernel
theorem d27_57 : decode jdk_52_method_5_code 57 = .ok (.ior, 1) := by decide +kernel
theorem d27_58 : decode jdk_52_method_5_code 58 = .ok (.i2c, 1) := by decide +kernel
theorem d27_59 : decode jdk_52_method_5_code 59 = .ok (.ireturn, 1) := by decide +kernel
def Q_getcG (Z : State) (b : Addr) (kb : ClassId) (N : Nat) (j : Nat) (bs : List Value) (lo : Int32) (hi : Int32) (h0 : Heap) (n0 : Nat) (v : Option Value) (h : Heap) (L : List Loc) : Prop := v = some (.int (nar .char (own_u16e lo hi))) ∧ Fr n0 L ∧ h = h0
set_option maxRecDepth 65536 in
set_option maxHeartbeats 40000000 in
theorem rm_getcG (l : Launch) (Z : State) (a0 : Array Value) (hw : ∀ d ∈ tables_1, d.before a0 Z = true) (ws : List Jvm.Cond) (b : Addr) (kb : ClassId) (N : Nat) (j : Nat) (bs : List Value) (lo : Int32) (hi : Int32) (h0 : Heap) (n0 : Nat) (Z0 : n0 ≤ h0.size) (Uad : Sta Z Z.heap "java/lang/StringUTF16" "$assertionsDisabled" "Z" (.int (1 : Int32))) (Uhi : Sta Z Z.heap "java/lang/StringUTF16" "HI_BYTE_SHIFT" "I" (.int (0 : Int32))) (Ulo : Sta Z Z.heap "java/lang/StringUTF16" "LO_BYTE_SHIFT" "I" (.int (8 : Int32))) (OLD : Old Z n0 h0) (hN : N ≤ 4) (hj : j < N) (VB : Arv Z h0 b kb .byte (Int32.ofNat (2 * N)) bs (.int (0 : Int32))) (gh1 : bs.getD (2 * j) (.int (0 : Int32)) = .int lo) (gh2 : bs.getD (2 * j + 1) (.int (0 : Int32)) = .int hi) :
    MetFree l (⟨"java/lang/StringUTF16", "getChar", "([BI)C"⟩ : MethodName) (head1 (Jvm.Cond.code (⟨"java/lang/StringUTF16", "getChar", "([BI)C"⟩ : MethodName) jdk_52_method_5_code 2 (some .char) :: ws) ({ frames := 0, cells := 0, slots := 0, locals := 0 } : Room)) (fun aa_ U => aa_ = #[(.ref b), (.int (Int32.ofNat j))] ∧ Z.Warmed39 U.vm ∧ U.heap = h0) (fun _ _ _ _ _ => True) (fun _ U o_ U' => RetG U (Q_getcG Z b kb N j bs lo hi h0 n0) 0 0 U' o_) := by
  refine MetFree.of_bodySF (plainFor_of_name own_pn0) hisR ?_
  intro p e s m args below meth c_ s₁ Bd hml0 hP hK
  obtain ⟨rfl, hZ, hh⟩ := hP
  have hx := Bd.exec
  have hby := Bd.bytes
  have hml : c_.maxLocals = 2 := hml0
  have hown : s.vm.findClass "java/lang/StringUTF16" = some m.cls := findClass_of_methodNamed Bd.named
  have hnm := (name_of_methodNamed Bd.named Bd.method).1
  have X0 : Stand p l e ({ frames := 0, cells := 0, slots := 0, locals := 0 } : Room) s m #[(.ref b), (.int (Int32.ofNat j))] below meth c_ s₁ [] 0 0 := Stand.of_body Bd
  have e0 : s₁.heap = h0 := by rw [← hh, Bd.state]; rfl
  have N0 := Fr.nil n0
  have w126_ := hw _ (List.mem_of_getElem? (i := 126) rfl)
  have w127_ := hw _ (List.mem_of_getElem? (i := 127) rfl)
  have w128_ := hw _ (List.mem_of_getElem? (i := 128) rfl)
  show Go p e below (RetG s (Q_getcG Z b kb N j bs lo hi h0 n0) 0 0) (s₁.setTop (entryFrame m #[(.ref b), (.int (Int32.ofNat j))] 2))
  rw [show entryFrame m #[(.ref b), (.int (Int32.ofNat j))] 2 = mkF m 0 #[.val (.ref b), .val (.int (Int32.ofNat j))] [] from by first | (simp [entryFrame, mkF, argsToLocals, Value.category]; done) | rfl]
  refine g_getS X0 hx hby hZ hown (host := "") (Or.inl w126_) Via.refl e0 (Uad.ext OLD.2) d27_0 (fun T1 X1 e1 => ?_)
  refine g_ifY X1 hx hby 28 d27_3 (feq (by decide : ¬ ((1 : Int32) = (0 : Int32)))).2 (by decide) (by decide) ?_
  refine g_iloadN X1 hx hby d27_28 rfl ?_
  refine g_iconst X1 hx hby (1 : Int32) d27_29 rfl ?_
  refine g_ishl X1 hx hby d27_30 ?_
  refine g_topI (Int32.ofNat (2 * j)) (own_sh (by omega)) ?_
  refine g_istoreN X1 hx hby d27_31 (l' := #[.val (.ref b), .val (.int (Int32.ofNat (2 * j)))]) rfl ?_
  refine g_aloadN X1 hx hby d27_32 rfl rfl ?_
  refine g_iloadN X1 hx hby d27_33 rfl ?_
  refine g_iinc X1 hx hby ((Int32.ofNat (2 * j)) + (1 : Int32)) d27_34 rfl rfl (l' := #[.val (.ref b), .val (.int ((Int32.ofNat (2 * j)) + (1 : Int32)))]) rfl ?_
  refine g_baload X1 hx hby hZ e1 VB (.int lo) (own_in2 (by omega) (by omega)) (by rw [own_tn2 (by omega)]; exact gh1) d27_37 ?_
  refine g_sipush X1 hx hby (255 : Int32) d27_38 rfl ?_
  refine g_iand X1 hx hby d27_41 ?_
  refine g_getS X1 hx hby hZ hown (host := "") (Or.inl w127_) Via.refl e1 (Uhi.ext OLD.2) d27_42 (fun T2 X2 e2 => ?_)
  refine g_ishl X2 hx hby d27_45 ?_
  refine g_aloadN X2 hx hby d27_46 rfl rfl ?_
  refine g_iloadN X2 hx hby d27_47 rfl ?_
  refine g_baload X2 hx hby hZ e2 VB (.int hi) (by rw [own_up]; exact own_in2 (by omega) (by omega)) (by rw [own_up, own_tn2 (by omega)]; exact gh2) d27_48 ?_
  refine g_sipush X2 hx hby (255 : Int32) d27_49 rfl ?_
  refine g_iand X2 hx hby d27_52 ?_
  refine g_getS X2 hx hby hZ hown (host := "") (Or.inl w128_) Via.refl e2 (Ulo.ext OLD.2) d27_53 (fun T3 X3 e3 => ?_)
  refine g_ishl X3 hx hby d27_56 ?_
  refine g_ior X3 hx hby d27_57 ?_
  refine g_i2c X3 hx hby d27_58 ?_
  refine g_nret X3 hx hby (t := .char) (by simp) Bd.returns Bd.notSynchronized d27_59 e3 (by decide) (by decide) ?_
  show (Q_getcG Z b kb N j bs lo hi h0 n0) (some (.int (nar .char ((((lo &&& (255 : Int32)) <<< ((0 : Int32) &&& 31)) ||| ((hi &&& (255 : Int32)) <<< ((8 : Int32) &&& 31))).toUInt32.toUInt16.toUInt32.toInt32)))) _ _
  exact ⟨rfl, N0, rfl⟩

theorem d12_0 : decode jdk_52_method_16_code 0 = .ok (.iload_n 2, 1) := by decide +kernel
theorem d12_1 : decode jdk_52_method_16_code 1 = .ok (.newarray .byte, 2) := by decide +kernel
theorem d12_3 : decode jdk_52_method_16_code 3 = .ok (.astore_n 3, 1) := by decide +kernel
theorem d12_4 : decode jdk_52_method_16_code 4 = .ok (.aload_n 0, 1) := by decide +kernel
theorem d12_5 : decode jdk_52_method_16_code 5 = .ok (.iload_n 1, 1) := by decide +kernel
theorem d12_6 : decode jdk_52_method_16_code 6 = .ok (.aload_n 3, 1) := by decide +kernel
theorem d12_7 : decode jdk_52_method_16_code 7 = .ok (.iconst 0, 1) := by decide +kernel
theorem d12_8 : decode jdk_52_method_16_code 8 = .ok (.iload_n 2, 1) := by decide +kernel
theorem d12_9 : decode jdk_52_method_16_code 9 = .ok (.invokestatic 115, 3) := by decide +kernel
theorem own_pd3 : parseMethodDescriptor "([CI[BII)I" = some ⟨[(.array .char), .int, (.array .byte), .int, .int], some .int⟩ := by decide +kernel
theorem d12_12 : decode jdk_52_method_16_code 12 = .ok (.istore 4, 2) := by decide +kernel
theorem d12_14 : decode jdk_52_method_16_code 14 = .ok (.iload 4, 2) := by decide +kernel
theorem d12_16 : decode jdk_52_method_16_code 16 = .ok (.iload_n 2, 1) := by decide +kernel
theorem d12_17 : decode jdk_52_method_16_code 17 = .ok (.if_icmp .eq 40, 3) := by decide +kernel
theorem d12_57 : decode jdk_52_method_16_code 57 = .ok (.aload_n 3, 1) := by decide +kernel
theorem d12_58 : decode jdk_52_method_16_code 58 = .ok (.areturn, 1) := by decide +kernel
theorem d12_20 : decode jdk_52_method_16_code 20 = .ok (.aload_n 0, 1) := by decide +kernel
theorem d12_21 : decode jdk_52_method_16_code 21 = .ok (.iload_n 1, 1) := by decide +kernel
theorem d12_22 : decode jdk_52_method_16_code 22 = .ok (.iload_n 2, 1) := by decide +kernel
theorem d12_23 : decode jdk_52_method_16_code 23 = .ok (.invokestatic 119, 3) := by decide +kernel
theorem own_pd4 : parseMethodDescriptor "([CII)[B" = some ⟨[(.array .char), .int, .int], some (.array .byte)⟩ := by decide +kernel
theorem d12_26 : decode jdk_52_method_16_code 26 = .ok (.astore 5, 2) := by decide +kernel
theorem d12_28 : decode jdk_52_method_16_code 28 = .ok (.aload 5, 2) := by decide +kernel
theorem d12_30 : decode jdk_52_method_16_code 30 = .ok (.iload 4, 2) := by decide +kernel
theorem d12_32 : decode jdk_52_method_16_code 32 = .ok (.invokestatic 71, 3) := by decide +kernel
theorem own_pd5 : parseMethodDescriptor "([BI)C" = some ⟨[(.array .byte), .int], some .char⟩ := by decide +kernel
theorem d12_35 : decode jdk_52_method_16_code 35 = .ok (.sipush 255, 3) := by decide +kernel
theorem d12_38 : decode jdk_52_method_16_code 38 = .ok (.if_icmp .gt 16, 3) := by decide +kernel
theorem d12_54 : decode jdk_52_method_16_code 54 = .ok (.aload 5, 2) := by decide +kernel
theorem d12_56 : decode jdk_52_method_16_code 56 = .ok (.areturn, 1) := by decide +kernel
def Q_cmpG (Z : State) (ca : Addr) (kc : ClassId) (cs : List Int32) (N : Nat) (h0 : Heap) (n0 : Nat) (v : Option Value) (h : Heap) (L : List Loc) : Prop := Fr n0 L ∧ Keep h0 h [] ∧ ∃ (b : Addr) (kb : ClassId), v = some (.ref b) ∧ h0.size ≤ b ∧ (own_LA Z h b kb cs N ∨ own_UA Z h b kb cs N)
set_option maxRecDepth 65536 in
set_option maxHeartbeats 40000000 in
theorem rm_cmpG (l : Launch) (Z : State) (a0 : Array Value) (hw : ∀ d ∈ tables_1, d.before a0 Z = true) (ws : List Jvm.Cond) (ca : Addr) (kc : ClassId) (cs : List Int32) (N : Nat) (h0 : Heap) (n0 : Nat) (Z0 : n0 ≤ h0.size) (Uad : Sta Z Z.heap "java/lang/StringUTF16" "$assertionsDisabled" "Z" (.int (1 : Int32))) (Uhi : Sta Z Z.heap "java/lang/StringUTF16" "HI_BYTE_SHIFT" "I" (.int (0 : Int32))) (Ulo : Sta Z Z.heap "java/lang/StringUTF16" "LO_BYTE_SHIFT" "I" (.int (8 : Int32))) (OLD : Old Z n0 h0) (hcl : cs.length = N) (hN : N ≤ 4) (hr : ∀ i, i < N → 0 ≤ (cs.getD i 0).toInt ∧ (cs.getD i 0).toInt < 65536) (VC : Arv Z h0 ca kc .char (Int32.ofNat N) (cs.map Value.int) (.int (0 : Int32))) :
    MetFree l (⟨"java/lang/StringUTF16", "compress", "([CII)[B"⟩ : MethodName) (head1 (Jvm.Cond.code (⟨"java/lang/StringUTF16", "compress", "([CII)[B"⟩ : MethodName) jdk_52_method_16_code 6 (some (.array .byte)) :: ws) ({ frames := 3, cells := 2, slots := 12, locals := 40 } : Room)) (fun aa_ U => aa_ = #[(.ref ca), (.int (0 : Int32)), (.int (Int32.ofNat N))] ∧ Z.Warmed39 U.vm ∧ U.heap = h0) (fun _ _ _ _ _ => True) (fun _ U o_ U' => RetG U (Q_cmpG Z ca kc cs N h0 n0) 2 12 U' o_) := by
  refine MetFree.of_bodySF (plainFor_of_name own_pn0) hisR ?_
  intro p e s m args below meth c_ s₁ Bd hml0 hP hK
  obtain ⟨rfl, hZ, hh⟩ := hP
  have hx := Bd.exec
  have hby := Bd.bytes
  have hml : c_.maxLocals = 6 := hml0
  have hown : s.vm.findClass "java/lang/StringUTF16" = some m.cls := findClass_of_methodNamed Bd.named
  have hnm := (name_of_methodNamed Bd.named Bd.method).1
  have X0 : Stand p l e ({ frames := 3, cells := 2, slots := 12, locals := 40 } : Room) s m #[(.ref ca), (.int (0 : Int32)), (.int (Int32.ofNat N))] below meth c_ s₁ [] 0 0 := Stand.of_body Bd
  have e0 : s₁.heap = h0 := by rw [← hh, Bd.state]; rfl
  have N0 := Fr.nil n0
  have w28_ := hw _ (List.mem_of_getElem? (i := 28) rfl)
  have w70_ := hw _ (List.mem_of_getElem? (i := 70) rfl)
  have w72_ := hw _ (List.mem_of_getElem? (i := 72) rfl)
  have w73_ := hw _ (List.mem_of_getElem? (i := 73) rfl)
  have w74_ := hw _ (List.mem_of_getElem? (i := 74) rfl)
  have w113_ := hw _ (List.mem_of_getElem? (i := 113) rfl)
  have w114_ := hw _ (List.mem_of_getElem? (i := 114) rfl)
  have w115_ := hw _ (List.mem_of_getElem? (i := 115) rfl)
  have w129_ := hw _ (List.mem_of_getElem? (i := 129) rfl)
  have w130_ := hw _ (List.mem_of_getElem? (i := 130) rfl)
  have w131_ := hw _ (List.mem_of_getElem? (i := 131) rfl)
  show Go p e below (RetG s (Q_cmpG Z ca kc cs N h0 n0) 2 12) (s₁.setTop (entryFrame m #[(.ref ca), (.int (0 : Int32)), (.int (Int32.ofNat N))] 6))
  rw [show entryFrame m #[(.ref ca), (.int (0 : Int32)), (.int (Int32.ofNat N))] 6 = mkF m 0 #[.val (.ref ca), .val (.int (0 : Int32)), .val (.int (Int32.ofNat N)), .unset, .unset, .unset] [] from by first | (simp [entryFrame, mkF, argsToLocals, Value.category]; done) | rfl]
  refine g_iloadN X0 hx hby d12_0 rfl ?_
  refine g_newarray X0 hx hby hZ .byte .byte (.int (0 : Int32)) (List.replicate 4 (.int (0 : Int32))) rfl rfl w28_ e0 (own_nn (by rw [own_hn (by omega)]; omega)) 4 rfl (by rw [own_tn2 (by omega)]; omega) (by decide) (by decide) (by decide) d12_1 (fun T1 h1 k1 b1 g1 X1 e1 E1 V1 => ?_)
  refine g_astoreN X1 hx hby d12_3 rfl (l' := #[.val (.ref ca), .val (.int (0 : Int32)), .val (.int (Int32.ofNat N)), .val (.ref b1), .unset, .unset]) rfl ?_
  refine g_aloadN X1 hx hby d12_4 rfl rfl ?_
  refine g_iloadN X1 hx hby d12_5 rfl ?_
  refine g_aloadN X1 hx hby d12_6 rfl rfl ?_
  refine g_iconst X1 hx hby (0 : Int32) d12_7 rfl ?_
  refine g_iloadN X1 hx hby d12_8 rfl ?_
  have f3 := (VC.ext E1)
  have ne4 : ca ≠ b1 := (Nat.ne_of_lt (Nat.lt_of_lt_of_le VC.lt (Nat.le_of_eq g1)))
  have g_b1 : n0 ≤ b1 := Nat.le_trans Z0 (Nat.le_of_eq g1)
  have z5 := (Nat.le_trans Z0 E1.1)
  refine g_static X1 hx hby hZ hown (rm_cmp5G l Z a0 hw [] ca kc b1 k1 cs N (List.replicate 4 (.int (0 : Int32))) h1 n0 z5 hcl hN f3 V1 ne4 g_b1 (by rw [List.length_replicate]; exact Nat.le_refl _)) w72_ w73_ w70_ w74_ (by decide) e1 (by rw [hml]; rfl) [(.ref ca), (.int (0 : Int32)), (.ref b1), (.int (0 : Int32)), (.int (Int32.ofNat N))] (lenOf own_pd3 rfl) rfl rfl (Nat.le_of_ble_eq_true rfl) (Nat.le_of_ble_eq_true rfl) (Nat.le_of_ble_eq_true rfl) (Nat.le_of_ble_eq_true rfl) d12_9 (fun v2 T2 L2 X2 hQ2 => ?_)
  obtain ⟨N2q, K2, f, rfl, hd⟩ := hQ2
  have N2 := Fr.app N0 N2q
  rcases hd with ⟨hf, hLA⟩ | ⟨hlt, hbig⟩
  · skip
    refine g_topI (Int32.ofNat N) (by rw [hf]) ?_
    refine g_istore X2 hx hby d12_12 (l' := #[.val (.ref ca), .val (.int (0 : Int32)), .val (.int (Int32.ofNat N)), .val (.ref b1), .val (.int (Int32.ofNat N)), .unset]) rfl ?_
    refine g_iload X2 hx hby d12_14 rfl ?_
    refine g_iloadN X2 hx hby d12_16 rfl ?_
    refine g_icY X2 hx hby 57 d12_17 (teq (rfl : (Int32.ofNat N) = (Int32.ofNat N))).1 (by decide) (by decide) ?_
    refine g_aloadN X2 hx hby d12_57 rfl rfl ?_
    refine g_aret X2 hx hby (t := (.array .byte)) rfl rfl rfl Bd.returns Bd.notSynchronized d12_58 rfl (by decide) (by decide) ?_
    show (Q_cmpG Z ca kc cs N h0 n0) (some (.ref b1)) _ _
    exact ⟨N2, (((Keep.refl h0 []).ext E1).trans K2 (allS (Or.inr (Nat.le_trans (Nat.le_refl _) (Nat.le_of_eq g1))) all0)), b1, k1, rfl, (Nat.le_trans (Nat.le_refl _) (Nat.le_of_eq g1)), Or.inl hLA⟩
  · skip
    refine g_istore X2 hx hby d12_12 (l' := #[.val (.ref ca), .val (.int (0 : Int32)), .val (.int (Int32.ofNat N)), .val (.ref b1), .val (.int (Int32.ofNat f)), .unset]) rfl ?_
    refine g_iload X2 hx hby d12_14 rfl ?_
    refine g_iloadN X2 hx hby d12_16 rfl ?_
    refine g_icN X2 hx hby d12_17 (feq ((own_ne2 (by omega) (by omega) (by omega)) : ¬ ((Int32.ofNat f) = (Int32.ofNat N)))).1 ?_
    refine g_aloadN X2 hx hby d12_20 rfl rfl ?_
    refine g_iloadN X2 hx hby d12_21 rfl ?_
    refine g_iloadN X2 hx hby d12_22 rfl ?_
    have f7 := ((OLD.ext E1).keep K2 (allS g_b1 all0))
    have f8 := (f3.keep K2 (ninS ne4 nin0))
    have z9 := (Nat.le_trans z5 K2.1)
    refine g_static X2 hx hby hZ hown (rm_tobG l Z a0 hw [] ca kc cs N T2.heap n0 z9 Uad Uhi Ulo f7 hcl hN f8) w113_ w114_ w70_ w115_ (by decide) rfl (by rw [hml]; rfl) [(.ref ca), (.int (0 : Int32)), (.int (Int32.ofNat N))] (lenOf own_pd4 rfl) rfl rfl (Nat.le_of_ble_eq_true rfl) (Nat.le_of_ble_eq_true rfl) (Nat.le_of_ble_eq_true rfl) (Nat.le_of_ble_eq_true rfl) d12_23 (fun v6 T6 L6 X6 hQ6 => ?_)
    obtain ⟨N6q, K6, bb, kbb, rfl, lob, bsu, Vu, hu⟩ := hQ6
    have N6 := Fr.app N2 N6q
    refine g_at 26 rfl rfl rfl ?_
    refine g_astore X6 hx hby d12_26 rfl (l' := #[.val (.ref ca), .val (.int (0 : Int32)), .val (.int (Int32.ofNat N)), .val (.ref b1), .val (.int (Int32.ofNat f)), .val (.ref bb)]) rfl ?_
    refine g_aload X6 hx hby d12_28 rfl rfl ?_
    refine g_iload X6 hx hby d12_30 rfl ?_
    have f11 := (f7.keep K6 all0)
    have z12 := (Nat.le_trans z9 K6.1)
    refine g_static X6 hx hby hZ hown (rm_getcG l Z a0 hw [] bb kbb N f bsu (own_lob (cs.getD f 0)) (own_hib (cs.getD f 0)) T6.heap n0 z12 Uad Uhi Ulo f11 hN hlt Vu (hu f hlt).1 (hu f hlt).2) w129_ w130_ w70_ w131_ (by decide) rfl (by rw [hml]; rfl) [(.ref bb), (.int (Int32.ofNat f))] (lenOf own_pd5 rfl) rfl rfl (Nat.le_of_ble_eq_true rfl) (Nat.le_of_ble_eq_true rfl) (Nat.le_of_ble_eq_true rfl) (Nat.le_of_ble_eq_true rfl) d12_32 (fun v10 T10 L10 X10 hQ10 => ?_)
    obtain ⟨rfl, N10q, eh10⟩ := hQ10
    have N10 := Fr.app N6 N10q
    refine g_topI (T := T10) (cs.getD f 0) (own_u16 (hr f hlt)) ?_
    refine g_sipush X10 hx hby (255 : Int32) d12_35 rfl ?_
    refine g_icY X10 hx hby 54 d12_38 (tlt (hbig : (255 : Int32) < (cs.getD f 0))).2.2.1 (by decide) (by decide) ?_
    refine g_aload X10 hx hby d12_54 rfl rfl ?_
    refine g_aret X10 hx hby (t := (.array .byte)) rfl rfl rfl Bd.returns Bd.notSynchronized d12_56 eh10 (by decide) (by decide) ?_
    show (Q_cmpG Z ca kc cs N h0 n0) (some (.ref bb)) _ _
    exact ⟨N10, ((((Keep.refl h0 []).ext E1).trans K2 (allS (Or.inr (Nat.le_trans (Nat.le_refl _) (Nat.le_of_eq g1))) all0)).trans K6 all0), bb, kbb, rfl, (Nat.le_trans (Nat.le_trans E1.1 K2.1) lob), Or.inr ⟨_, Vu, hu⟩⟩

theorem d14_0 : decode jdk_52_method_15_code 0 = .ok (.iload_n 1, 1) := by decide +kernel
theorem d14_1 : decode jdk_52_method_15_code 1 = .ok (.aload_n 0, 1) := by decide +kernel
theorem d14_2 : decode jdk_52_method_15_code 2 = .ok (.arraylength, 1) := by decide +kernel
theorem d14_3 : decode jdk_52_method_15_code 3 = .ok (.isub, 1) := by decide +kernel
theorem d14_4 : decode jdk_52_method_15_code 4 = .ok (.bipush 31, 2) := by decide +kernel
theorem d14_6 : decode jdk_52_method_15_code 6 = .ok (.iushr, 1) := by decide +kernel
theorem d14_7 : decode jdk_52_method_15_code 7 = .ok (.i2b, 1) := by decide +kernel
theorem d14_8 : decode jdk_52_method_15_code 8 = .ok (.ireturn, 1) := by decide +kernel
def Q_cfaL (Z : State) (ba : Addr) (kb : ClassId) (N : Nat) (bs : List Value) (h0 : Heap) (n0 : Nat) (v : Option Value) (h : Heap) (L : List Loc) : Prop := v = some (.int (0 : Int32)) ∧ Fr n0 L ∧ h = h0
set_option maxRecDepth 65536 in
set_option maxHeartbeats 40000000 in
theorem rm_cfaL (l : Launch) (Z : State) (a0 : Array Value) (hw : ∀ d ∈ tables_1, d.before a0 Z = true) (ws : List Jvm.Cond) (ba : Addr) (kb : ClassId) (N : Nat) (bs : List Value) (h0 : Heap) (n0 : Nat) (Z0 : n0 ≤ h0.size) (hN : N ≤ 4) (hN1 : 1 ≤ N) (VB : Arv Z h0 ba kb .byte (Int32.ofNat N) bs (.int (0 : Int32))) :
    MetFree l (⟨"java/lang/StringUTF16", "coderFromArrayLen", "([BI)B"⟩ : MethodName) (head1 (Jvm.Cond.code (⟨"java/lang/StringUTF16", "coderFromArrayLen", "([BI)B"⟩ : MethodName) jdk_52_method_15_code 2 (some .byte) :: ws) ({ frames := 0, cells := 0, slots := 0, locals := 0 } : Room)) (fun aa_ U => aa_ = #[(.ref ba), (.int (Int32.ofNat N))] ∧ Z.Warmed39 U.vm ∧ U.heap = h0) (fun _ _ _ _ _ => True) (fun _ U o_ U' => RetG U (Q_cfaL Z ba kb N bs h0 n0) 0 0 U' o_) := by
  refine MetFree.of_bodySF (plainFor_of_name own_pn0) hisR ?_
  intro p e s m args below meth c_ s₁ Bd hml0 hP hK
  obtain ⟨rfl, hZ, hh⟩ := hP
  have hx := Bd.exec
  have hby := Bd.bytes
  have hml : c_.maxLocals = 2 := hml0
  have hown : s.vm.findClass "java/lang/StringUTF16" = some m.cls := findClass_of_methodNamed Bd.named
  have hnm := (name_of_methodNamed Bd.named Bd.method).1
  have X0 : Stand p l e ({ frames := 0, cells := 0, slots := 0, locals := 0 } : Room) s m #[(.ref ba), (.int (Int32.ofNat N))] below meth c_ s₁ [] 0 0 := Stand.of_body Bd
  have e0 : s₁.heap = h0 := by rw [← hh, Bd.state]; rfl
  have N0 := Fr.nil n0
  show Go p e below (RetG s (Q_cfaL Z ba kb N bs h0 n0) 0 0) (s₁.setTop (entryFrame m #[(.ref ba), (.int (Int32.ofNat N))] 2))
  rw [show entryFrame m #[(.ref ba), (.int (Int32.ofNat N))] 2 = mkF m 0 #[.val (.ref ba), .val (.int (Int32.ofNat N))] [] from by first | (simp [entryFrame, mkF, argsToLocals, Value.category]; done) | rfl]
  refine g_iloadN X0 hx hby d14_0 rfl ?_
  refine g_aloadN X0 hx hby d14_1 rfl rfl ?_
  refine g_arraylength X0 hx hby hZ e0 VB d14_2 ?_
  refine g_isub X0 hx hby d14_3 ?_
  refine g_bipush X0 hx hby (31 : Int32) d14_4 rfl ?_
  refine g_iushr X0 hx hby d14_6 ?_
  refine g_i2b X0 hx hby d14_7 ?_
  refine g_nret X0 hx hby (t := .byte) (by simp) Bd.returns Bd.notSynchronized d14_8 e0 (by decide) (by decide) ?_
  show (Q_cfaL Z ba kb N bs h0 n0) (some (.int (nar .byte (((((Int32.ofNat N) - (Int32.ofNat N)).toUInt32 >>> ((31 : Int32) &&& 31).toUInt32).toInt32).toInt8.toInt32)))) _ _
  exact ⟨by rw [own_cfaL], N0, rfl⟩

def Q_cfaU (Z : State) (ba : Addr) (kb : ClassId) (N : Nat) (bs : List Value) (h0 : Heap) (n0 : Nat) (v : Option Value) (h : Heap) (L : List Loc) : Prop := v = some (.int (1 : Int32)) ∧ Fr n0 L ∧ h = h0
set_option maxRecDepth 65536 in
set_option maxHeartbeats 40000000 in
theorem rm_cfaU (l : Launch) (Z : State) (a0 : Array Value) (hw : ∀ d ∈ tables_1, d.before a0 Z = true) (ws : List Jvm.Cond) (ba : Addr) (kb : ClassId) (N : Nat) (bs : List Value) (h0 : Heap) (n0 : Nat) (Z0 : n0 ≤ h0.size) (hN : N ≤ 4) (hN1 : 1 ≤ N) (VB : Arv Z h0 ba kb .byte (Int32.ofNat (2 * N)) bs (.int (0 : Int32))) :
    MetFree l (⟨"java/lang/StringUTF16", "coderFromArrayLen", "([BI)B"⟩ : MethodName) (head1 (Jvm.Cond.code (⟨"java/lang/StringUTF16", "coderFromArrayLen", "([BI)B"⟩ : MethodName) jdk_52_method_15_code 2 (some .byte) :: ws) ({ frames := 0, cells := 0, slots := 0, locals := 0 } : Room)) (fun aa_ U => aa_ = #[(.ref ba), (.int (Int32.ofNat N))] ∧ Z.Warmed39 U.vm ∧ U.heap = h0) (fun _ _ _ _ _ => True) (fun _ U o_ U' => RetG U (Q_cfaU Z ba kb N bs h0 n0) 0 0 U' o_) := by
  refine MetFree.of_bodySF (plainFor_of_name own_pn0) hisR ?_
  intro p e s m args below meth c_ s₁ Bd hml0 hP hK
  obtain ⟨rfl, hZ, hh⟩ := hP
  have hx := Bd.exec
  have hby := Bd.bytes
  have hml : c_.maxLocals = 2 := hml0
  have hown : s.vm.findClass "java/lang/StringUTF16" = some m.cls := findClass_of_methodNamed Bd.named
  have hnm := (name_of_methodNamed Bd.named Bd.method).1
  have X0 : Stand p l e ({ frames := 0, cells := 0, slots := 0, locals := 0 } : Room) s m #[(.ref ba), (.int (Int32.ofNat N))] below meth c_ s₁ [] 0 0 := Stand.of_body Bd
  have e0 : s₁.heap = h0 := by rw [← hh, Bd.state]; rfl
  have N0 := Fr.nil n0
  show Go p e below (RetG s (Q_cfaU Z ba kb N bs h0 n0) 0 0) (s₁.setTop (entryFrame m #[(.ref ba), (.int (Int32.ofNat N))] 2))
  rw [show entryFrame m #[(.ref ba), (.int (Int32.ofNat N))] 2 = mkF m 0 #[.val (.ref ba), .val (.int (Int32.ofNat N))] [] from by first | (simp [entryFrame, mkF, argsToLocals, Value.category]; done) | rfl]
  refine g_iloadN X0 hx hby d14_0 rfl ?_
  refine g_aloadN X0 hx hby d14_1 rfl rfl ?_
  refine g_arraylength X0 hx hby hZ e0 VB d14_2 ?_
  refine g_isub X0 hx hby d14_3 ?_
  refine g_bipush X0 hx hby (31 : Int32) d14_4 rfl ?_
  refine g_iushr X0 hx hby d14_6 ?_
  refine g_i2b X0 hx hby d14_7 ?_
  refine g_nret X0 hx hby (t := .byte) (by simp) Bd.returns Bd.notSynchronized d14_8 e0 (by decide) (by decide) ?_
  show (Q_cfaU Z ba kb N bs h0 n0) (some (.int (nar .byte (((((Int32.ofNat N) - (Int32.ofNat (2 * N))).toUInt32 >>> ((31 : Int32) &&& 31).toUInt32).toInt32).toInt8.toInt32)))) _ _
  exact ⟨by rw [own_cfaU hN hN1], N0, rfl⟩

theorem d5_0 : decode jdk_42_method_149_code 0 = .ok (.aload_n 0, 1) := by decide +kernel
theorem d5_1 : decode jdk_42_method_149_code 1 = .ok (.invokespecial 1, 3) := by decide +kernel
theorem d5_4 : decode jdk_42_method_149_code 4 = .ok (.iload_n 3, 1) := by decide +kernel
theorem d5_5 : decode jdk_42_method_149_code 5 = .ok (.ifCond .ne 22, 3) := by decide +kernel
theorem d5_27 : decode jdk_42_method_149_code 27 = .ok (.getstatic 38, 3) := by decide +kernel
theorem d5_30 : decode jdk_42_method_149_code 30 = .ok (.ifCond .eq 28, 3) := by decide +kernel
theorem d5_33 : decode jdk_42_method_149_code 33 = .ok (.aload_n 1, 1) := by decide +kernel
theorem d5_34 : decode jdk_42_method_149_code 34 = .ok (.iload_n 2, 1) := by decide +kernel
theorem d5_35 : decode jdk_42_method_149_code 35 = .ok (.iload_n 3, 1) := by decide +kernel
theorem d5_36 : decode jdk_42_method_149_code 36 = .ok (.invokestatic 177, 3) := by decide +kernel
theorem d5_39 : decode jdk_42_method_149_code 39 = .ok (.astore 5, 2) := by decide +kernel
theorem d5_41 : decode jdk_42_method_149_code 41 = .ok (.aload_n 0, 1) := by decide +kernel
theorem d5_42 : decode jdk_42_method_149_code 42 = .ok (.aload 5, 2) := by decide +kernel
theorem d5_44 : decode jdk_42_method_149_code 44 = .ok (.iload_n 3, 1) := by decide +kernel
theorem d5_45 : decode jdk_42_method_149_code 45 = .ok (.invokestatic 47, 3) := by decide +kernel
theorem own_pd6 : parseMethodDescriptor "([BI)B" = some ⟨[(.array .byte), .int], some .byte⟩ := by decide +kernel
theorem d5_48 : decode jdk_42_method_149_code 48 = .ok (.putfield 15, 3) := by decide +kernel
theorem d5_51 : decode jdk_42_method_149_code 51 = .ok (.aload_n 0, 1) := by decide +kernel
theorem d5_52 : decode jdk_42_method_149_code 52 = .ok (.aload 5, 2) := by decide +kernel
theorem d5_54 : decode jdk_42_method_149_code 54 = .ok (.putfield 9, 3) := by decide +kernel
theorem d5_57 : decode jdk_42_method_149_code 57 = .ok (.return_, 1) := by decide +kernel
theorem own_pn1 : plainName "java/lang/String" = true := by first | (simp [plainName, overriddenIn]; done) | decide +kernel
def Q_ini4G (Z : State) (a : Addr) (ca : Addr) (kc : ClassId) (cs : List Int32) (N : Nat) (cz : Int32) (h0 : Heap) (n0 : Nat) (v : Option Value) (h : Heap) (L : List Loc) : Prop := v = none ∧ Fr n0 L ∧ Keep h0 h [a] ∧ ∃ (b : Addr) (kb : ClassId), h0.size ≤ b ∧ Exa Z h a "java/lang/String" ∧ Fld Z h a "java/lang/String" "value" "[B" (.ref b) ∧ own_D Z h a b kb cs N
set_option maxRecDepth 65536 in
set_option maxHeartbeats 40000000 in
theorem rm_ini4G (l : Launch) (Z : State) (a0 : Array Value) (hw : ∀ d ∈ tables_1, d.before a0 Z = true) (ws : List Jvm.Cond) (a : Addr) (ca : Addr) (kc : ClassId) (cs : List Int32) (N : Nat) (cz : Int32) (h0 : Heap) (n0 : Nat) (Z0 : n0 ≤ h0.size) (O2 : Sta Z Z.heap "java/lang/String" "COMPACT_STRINGS" "Z" (.int cz)) (P5 : ¬ cz = (0 : Int32)) (OLD : Old Z n0 h0) (Uad : Sta Z Z.heap "java/lang/StringUTF16" "$assertionsDisabled" "Z" (.int (1 : Int32))) (Uhi : Sta Z Z.heap "java/lang/StringUTF16" "HI_BYTE_SHIFT" "I" (.int (0 : Int32))) (Ulo : Sta Z Z.heap "java/lang/StringUTF16" "LO_BYTE_SHIFT" "I" (.int (8 : Int32))) (E : Exa Z h0 a "java/lang/String") (FC : Fld Z h0 a "java/lang/String" "coder" "B" (.int (0 : Int32))) (FV : Fld Z h0 a "java/lang/String" "value" "[B" .null) (ga : n0 ≤ a) (hcl : cs.length = N) (hN : N ≤ 4) (hN1 : 1 ≤ N) (hr : ∀ i, i < N → 0 ≤ (cs.getD i 0).toInt ∧ (cs.getD i 0).toInt < 65536) (VC : Arv Z h0 ca kc .char (Int32.ofNat N) (cs.map Value.int) (.int (0 : Int32))) :
    MetFree l (⟨"java/lang/String", "<init>", "([CIILjava/lang/Void;)V"⟩ : MethodName) (head1 (Jvm.Cond.code (⟨"java/lang/String", "<init>", "([CIILjava/lang/Void;)V"⟩ : MethodName) jdk_42_method_149_code 6 none :: ws) ({ frames := 4, cells := 2, slots := 12, locals := 57 } : Room)) (fun aa_ U => aa_ = #[(.ref a), (.ref ca), (.int (0 : Int32)), (.int (Int32.ofNat N)), .null] ∧ Z.Warmed39 U.vm ∧ U.heap = h0) (fun _ _ _ _ _ => True) (fun _ U o_ U' => RetG U (Q_ini4G Z a ca kc cs N cz h0 n0) 2 12 U' o_) := by
  refine MetFree.of_bodySF (plainFor_of_name own_pn1) hisR ?_
  intro p e s m args below meth c_ s₁ Bd hml0 hP hK
  obtain ⟨rfl, hZ, hh⟩ := hP
  have hx := Bd.exec
  have hby := Bd.bytes
  have hml : c_.maxLocals = 6 := hml0
  have hown : s.vm.findClass "java/lang/String" = some m.cls := findClass_of_methodNamed Bd.named
  have hnm := (name_of_methodNamed Bd.named Bd.method).1
  have X0 : Stand p l e ({ frames := 4, cells := 2, slots := 12, locals := 57 } : Room) s m #[(.ref a), (.ref ca), (.int (0 : Int32)), (.int (Int32.ofNat N)), .null] below meth c_ s₁ [] 0 0 := Stand.of_body Bd
  have e0 : s₁.heap = h0 := by rw [← hh, Bd.state]; rfl
  have N0 := Fr.nil n0
  have w12_ := hw _ (List.mem_of_getElem? (i := 12) rfl)
  have w24_ := hw _ (List.mem_of_getElem? (i := 24) rfl)
  have w25_ := hw _ (List.mem_of_getElem? (i := 25) rfl)
  have w26_ := hw _ (List.mem_of_getElem? (i := 26) rfl)
  have w29_ := hw _ (List.mem_of_getElem? (i := 29) rfl)
  have w30_ := hw _ (List.mem_of_getElem? (i := 30) rfl)
  have w33_ := hw _ (List.mem_of_getElem? (i := 33) rfl)
  have w34_ := hw _ (List.mem_of_getElem? (i := 34) rfl)
  have w66_ := hw _ (List.mem_of_getElem? (i := 66) rfl)
  have w68_ := hw _ (List.mem_of_getElem? (i := 68) rfl)
  have w69_ := hw _ (List.mem_of_getElem? (i := 69) rfl)
  have w70_ := hw _ (List.mem_of_getElem? (i := 70) rfl)
  have w71_ := hw _ (List.mem_of_getElem? (i := 71) rfl)
  have w75_ := hw _ (List.mem_of_getElem? (i := 75) rfl)
  have w76_ := hw _ (List.mem_of_getElem? (i := 76) rfl)
  have w77_ := hw _ (List.mem_of_getElem? (i := 77) rfl)
  show Go p e below (RetG s (Q_ini4G Z a ca kc cs N cz h0 n0) 2 12) (s₁.setTop (entryFrame m #[(.ref a), (.ref ca), (.int (0 : Int32)), (.int (Int32.ofNat N)), .null] 6))
  rw [show entryFrame m #[(.ref a), (.ref ca), (.int (0 : Int32)), (.int (Int32.ofNat N)), .null] 6 = mkF m 0 #[.val (.ref a), .val (.ref ca), .val (.int (0 : Int32)), .val (.int (Int32.ofNat N)), .val .null, .unset] [] from by first | (simp [entryFrame, mkF, argsToLocals, Value.category]; done) | rfl]
  refine g_aloadN X0 hx hby d5_0 rfl rfl ?_
  refine g_initO X0 hx hby hZ hown w24_ w25_ w26_ e0 (by rw [hml]; rfl) (Nat.le_of_ble_eq_true rfl) (Nat.le_of_ble_eq_true rfl) d5_1 (fun T1 X1 e1 => ?_)
  refine g_iloadN X1 hx hby d5_4 rfl ?_
  refine g_ifY X1 hx hby 27 d5_5 (feq ((own_nz (by omega) hN1) : ¬ ((Int32.ofNat N) = (0 : Int32)))).2 (by decide) (by decide) ?_
  refine g_getS X1 hx hby hZ hown (host := "") (Or.inl w66_) Via.refl e1 (O2.ext OLD.2) d5_27 (fun T2 X2 e2 => ?_)
  refine g_ifN X2 hx hby d5_30 (feq (P5 : ¬ (cz = (0 : Int32)))).1 ?_
  refine g_aloadN X2 hx hby d5_33 rfl rfl ?_
  refine g_iloadN X2 hx hby d5_34 rfl ?_
  refine g_iloadN X2 hx hby d5_35 rfl ?_
  refine g_static X2 hx hby hZ hown (rm_cmpG l Z a0 hw [] ca kc cs N h0 n0 Z0 Uad Uhi Ulo OLD hcl hN hr VC) w68_ w69_ w70_ w71_ (by decide) e2 (by rw [hml]; rfl) [(.ref ca), (.int (0 : Int32)), (.int (Int32.ofNat N))] (lenOf own_pd4 rfl) rfl rfl (Nat.le_of_ble_eq_true rfl) (Nat.le_of_ble_eq_true rfl) (Nat.le_of_ble_eq_true rfl) (Nat.le_of_ble_eq_true rfl) d5_36 (fun v3 T3 L3 X3 hQ3 => ?_)
  obtain ⟨N3q, K3, bb, kbb, rfl, lob, hd⟩ := hQ3
  have N3 := Fr.app N0 N3q
  rcases hd with ⟨bsx, Vx, hx9⟩ | ⟨bsx, Vx, hx9⟩
  · skip
    refine g_astore X3 hx hby d5_39 rfl (l' := #[.val (.ref a), .val (.ref ca), .val (.int (0 : Int32)), .val (.int (Int32.ofNat N)), .val .null, .val (.ref bb)]) rfl ?_
    refine g_aloadN X3 hx hby d5_41 rfl rfl ?_
    refine g_aload X3 hx hby d5_42 rfl rfl ?_
    refine g_iloadN X3 hx hby d5_44 rfl ?_
    have z5 := (Nat.le_trans Z0 K3.1)
    refine g_static X3 hx hby hZ hown (rm_cfaL l Z a0 hw [] bb kbb N bsx T3.heap n0 z5 hN hN1 Vx) w75_ w76_ w70_ w77_ (by decide) rfl (by rw [hml]; rfl) [(.ref bb), (.int (Int32.ofNat N))] (lenOf own_pd6 rfl) rfl rfl (Nat.le_of_ble_eq_true rfl) (Nat.le_of_ble_eq_true rfl) (Nat.le_of_ble_eq_true rfl) (Nat.le_of_ble_eq_true rfl) d5_45 (fun v4 T4 L4 X4 hQ4 => ?_)
    obtain ⟨rfl, N4q, eh4⟩ := hQ4
    have N4 := Fr.app N3 N4q
    have f6 := (E.keep K3)
    have f7 := (FC.keep K3 nin0)
    refine g_putFN X4 hx hby hZ hown w34_ Via.refl eh4 f7 f6 (Or.inr ⟨w30_, rfl, hnm⟩) w12_ .byte (by decide) (.int (0 : Int32)) rfl rfl N4 ga d5_48 (fun T8 h8 X8 e8 W8 F8 N8 => ?_)
    refine g_aloadN X8 hx hby d5_51 rfl rfl ?_
    refine g_aload X8 hx hby d5_52 rfl rfl ?_
    have f9 := (f6.wr W8)
    have f10 := ((FV.keep K3 nin0).other W8 (Or.inr (slot_ne (Or.inr w29_) (Or.inr w30_) (by decide) (t := (.array .byte)) (t' := .byte) (by decide) (by decide))))
    refine g_putF X8 hx hby hZ hown (host := "") (Or.inl w33_) Via.refl e8 f10 f9 (Or.inr ⟨w29_, rfl, hnm⟩) w12_ (.array .byte) (by decide) rfl rfl N8 ga d5_54 (fun T11 h11 X11 e11 W11 F11 N11 => ?_)
    have f12 := (f9.wr W11)
    have f13 := (F8.other W11 (Or.inr (slot_ne (Or.inr w30_) (Or.inr w29_) (by decide) (t := .byte) (t' := (.array .byte)) (by decide) (by decide))))
    have ne14 : bb ≠ a := (Ne.symm (Nat.ne_of_lt (Nat.lt_of_lt_of_le E.lt lob)))
    have f15 := ((Vx.other W8 ne14).other W11 ne14)
    refine g_ret X11 hx hby Bd.returns Bd.notSynchronized d5_57 e11 (by decide) (by decide) ?_
    show (Q_ini4G Z a ca kc cs N cz h0 n0) none _ _
    exact ⟨rfl, N11, ((((Keep.refl h0 [a]).trans K3 all0).wr W8 (Or.inl (List.mem_of_getElem? (i := 0) rfl))).wr W11 (Or.inl (List.mem_of_getElem? (i := 0) rfl))), bb, kbb, (Nat.le_trans (Nat.le_refl _) lob), f12, F11, Or.inl ⟨f13, bsx, f15, hx9⟩⟩
  · skip
    refine g_astore X3 hx hby d5_39 rfl (l' := #[.val (.ref a), .val (.ref ca), .val (.int (0 : Int32)), .val (.int (Int32.ofNat N)), .val .null, .val (.ref bb)]) rfl ?_
    refine g_aloadN X3 hx hby d5_41 rfl rfl ?_
    refine g_aload X3 hx hby d5_42 rfl rfl ?_
    refine g_iloadN X3 hx hby d5_44 rfl ?_
    have z17 := (Nat.le_trans Z0 K3.1)
    refine g_static X3 hx hby hZ hown (rm_cfaU l Z a0 hw [] bb kbb N bsx T3.heap n0 z17 hN hN1 Vx) w75_ w76_ w70_ w77_ (by decide) rfl (by rw [hml]; rfl) [(.ref bb), (.int (Int32.ofNat N))] (lenOf own_pd6 rfl) rfl rfl (Nat.le_of_ble_eq_true rfl) (Nat.le_of_ble_eq_true rfl) (Nat.le_of_ble_eq_true rfl) (Nat.le_of_ble_eq_true rfl) d5_45 (fun v16 T16 L16 X16 hQ16 => ?_)
    obtain ⟨rfl, N16q, eh16⟩ := hQ16
    have N16 := Fr.app N3 N16q
    have f18 := (E.keep K3)
    have f19 := (FC.keep K3 nin0)
    refine g_putFN X16 hx hby hZ hown w34_ Via.refl eh16 f19 f18 (Or.inr ⟨w30_, rfl, hnm⟩) w12_ .byte (by decide) (.int (1 : Int32)) rfl rfl N16 ga d5_48 (fun T20 h20 X20 e20 W20 F20 N20 => ?_)
    refine g_aloadN X20 hx hby d5_51 rfl rfl ?_
    refine g_aload X20 hx hby d5_52 rfl rfl ?_
    have f21 := (f18.wr W20)
    have f22 := ((FV.keep K3 nin0).other W20 (Or.inr (slot_ne (Or.inr w29_) (Or.inr w30_) (by decide) (t := (.array .byte)) (t' := .byte) (by decide) (by decide))))
    refine g_putF X20 hx hby hZ hown (host := "") (Or.inl w33_) Via.refl e20 f22 f21 (Or.inr ⟨w29_, rfl, hnm⟩) w12_ (.array .byte) (by decide) rfl rfl N20 ga d5_54 (fun T23 h23 X23 e23 W23 F23 N23 => ?_)
    have f24 := (f21.wr W23)
    have f25 := (F20.other W23 (Or.inr (slot_ne (Or.inr w30_) (Or.inr w29_) (by decide) (t := .byte) (t' := (.array .byte)) (by decide) (by decide))))
    have ne26 : bb ≠ a := (Ne.symm (Nat.ne_of_lt (Nat.lt_of_lt_of_le E.lt lob)))
    have f27 := ((Vx.other W20 ne26).other W23 ne26)
    refine g_ret X23 hx hby Bd.returns Bd.notSynchronized d5_57 e23 (by decide) (by decide) ?_
    show (Q_ini4G Z a ca kc cs N cz h0 n0) none _ _
    exact ⟨rfl, N23, ((((Keep.refl h0 [a]).trans K3 all0).wr W20 (Or.inl (List.mem_of_getElem? (i := 0) rfl))).wr W23 (Or.inl (List.mem_of_getElem? (i := 0) rfl))), bb, kbb, (Nat.le_trans (Nat.le_refl _) lob), f24, F23, Or.inr ⟨f25, bsx, f27, hx9⟩⟩

theorem d4_0 : decode jdk_42_method_3_code 0 = .ok (.aload_n 0, 1) := by decide +kernel
theorem d4_1 : decode jdk_42_method_3_code 1 = .ok (.aload_n 1, 1) := by decide +kernel
theorem d4_2 : decode jdk_42_method_3_code 2 = .ok (.iconst 0, 1) := by decide +kernel
theorem d4_3 : decode jdk_42_method_3_code 3 = .ok (.aload_n 1, 1) := by decide +kernel
theorem d4_4 : decode jdk_42_method_3_code 4 = .ok (.arraylength, 1) := by decide +kernel
theorem d4_5 : decode jdk_42_method_3_code 5 = .ok (.aconst_null, 1) := by decide +kernel
theorem d4_6 : decode jdk_42_method_3_code 6 = .ok (.invokespecial 27, 3) := by decide +kernel
theorem own_pd7 : parseMethodDescriptor "([CIILjava/lang/Void;)V" = some ⟨[(.array .char), .int, .int, (.object "java/lang/Void")], none⟩ := by decide +kernel
theorem d4_9 : decode jdk_42_method_3_code 9 = .ok (.return_, 1) := by decide +kernel
def Q_ini1G (Z : State) (a : Addr) (ca : Addr) (kc : ClassId) (cs : List Int32) (N : Nat) (cz : Int32) (h0 : Heap) (n0 : Nat) (v : Option Value) (h : Heap) (L : List Loc) : Prop := v = none ∧ Fr n0 L ∧ Keep h0 h [a] ∧ ∃ (b : Addr) (kb : ClassId), h0.size ≤ b ∧ Exa Z h a "java/lang/String" ∧ Fld Z h a "java/lang/String" "value" "[B" (.ref b) ∧ own_D Z h a b kb cs N
set_option maxRecDepth 65536 in
set_option maxHeartbeats 40000000 in
theorem rm_ini1G (l : Launch) (Z : State) (a0 : Array Value) (hw : ∀ d ∈ tables_1, d.before a0 Z = true) (ws : List Jvm.Cond) (a : Addr) (ca : Addr) (kc : ClassId) (cs : List Int32) (N : Nat) (cz : Int32) (h0 : Heap) (n0 : Nat) (Z0 : n0 ≤ h0.size) (O2 : Sta Z Z.heap "java/lang/String" "COMPACT_STRINGS" "Z" (.int cz)) (P5 : ¬ cz = (0 : Int32)) (OLD : Old Z n0 h0) (Uad : Sta Z Z.heap "java/lang/StringUTF16" "$assertionsDisabled" "Z" (.int (1 : Int32))) (Uhi : Sta Z Z.heap "java/lang/StringUTF16" "HI_BYTE_SHIFT" "I" (.int (0 : Int32))) (Ulo : Sta Z Z.heap "java/lang/StringUTF16" "LO_BYTE_SHIFT" "I" (.int (8 : Int32))) (E : Exa Z h0 a "java/lang/String") (FC : Fld Z h0 a "java/lang/String" "coder" "B" (.int (0 : Int32))) (FV : Fld Z h0 a "java/lang/String" "value" "[B" .null) (ga : n0 ≤ a) (hcl : cs.length = N) (hN : N ≤ 4) (hN1 : 1 ≤ N) (hr : ∀ i, i < N → 0 ≤ (cs.getD i 0).toInt ∧ (cs.getD i 0).toInt < 65536) (VC : Arv Z h0 ca kc .char (Int32.ofNat N) (cs.map Value.int) (.int (0 : Int32))) :
    MetFree l (⟨"java/lang/String", "<init>", "([C)V"⟩ : MethodName) (head1 (Jvm.Cond.code (⟨"java/lang/String", "<init>", "([C)V"⟩ : MethodName) jdk_42_method_3_code 2 none :: ws) ({ frames := 5, cells := 2, slots := 12, locals := 74 } : Room)) (fun aa_ U => aa_ = #[(.ref a), (.ref ca)] ∧ Z.Warmed39 U.vm ∧ U.heap = h0) (fun _ _ _ _ _ => True) (fun _ U o_ U' => RetG U (Q_ini1G Z a ca kc cs N cz h0 n0) 2 12 U' o_) := by
  refine MetFree.of_bodySF (plainFor_of_name own_pn1) hisR ?_
  intro p e s m args below meth c_ s₁ Bd hml0 hP hK
  obtain ⟨rfl, hZ, hh⟩ := hP
  have hx := Bd.exec
  have hby := Bd.bytes
  have hml : c_.maxLocals = 2 := hml0
  have hown : s.vm.findClass "java/lang/String" = some m.cls := findClass_of_methodNamed Bd.named
  have hnm := (name_of_methodNamed Bd.named Bd.method).1
  have X0 : Stand p l e ({ frames := 5, cells := 2, slots := 12, locals := 74 } : Room) s m #[(.ref a), (.ref ca)] below meth c_ s₁ [] 0 0 := Stand.of_body Bd
  have e0 : s₁.heap = h0 := by rw [← hh, Bd.state]; rfl
  have N0 := Fr.nil n0
  have w13_ := hw _ (List.mem_of_getElem? (i := 13) rfl)
  have w20_ := hw _ (List.mem_of_getElem? (i := 20) rfl)
  have w21_ := hw _ (List.mem_of_getElem? (i := 21) rfl)
  have w23_ := hw _ (List.mem_of_getElem? (i := 23) rfl)
  show Go p e below (RetG s (Q_ini1G Z a ca kc cs N cz h0 n0) 2 12) (s₁.setTop (entryFrame m #[(.ref a), (.ref ca)] 2))
  rw [show entryFrame m #[(.ref a), (.ref ca)] 2 = mkF m 0 #[.val (.ref a), .val (.ref ca)] [] from by first | (simp [entryFrame, mkF, argsToLocals, Value.category]; done) | rfl]
  refine g_aloadN X0 hx hby d4_0 rfl rfl ?_
  refine g_aloadN X0 hx hby d4_1 rfl rfl ?_
  refine g_iconst X0 hx hby (0 : Int32) d4_2 rfl ?_
  refine g_aloadN X0 hx hby d4_3 rfl rfl ?_
  refine g_arraylength X0 hx hby hZ e0 VC d4_4 ?_
  refine g_aconst_null X0 hx hby d4_5 ?_
  refine g_special X0 hx hby hZ hown (rm_ini4G l Z a0 hw [] a ca kc cs N cz h0 n0 Z0 O2 P5 OLD Uad Uhi Ulo E FC FV ga hcl hN hN1 hr VC) rfl rfl w20_ w21_ w13_ w23_ (by decide) e0 (by rw [hml]; rfl) [(.ref ca), (.int (0 : Int32)), (.int (Int32.ofNat N)), .null] (lenOf own_pd7 rfl) rfl rfl (Nat.le_of_ble_eq_true rfl) (Nat.le_of_ble_eq_true rfl) (Nat.le_of_ble_eq_true rfl) (Nat.le_of_ble_eq_true rfl) d4_6 (fun v1 T1 L1 X1 hQ1 => ?_)
  obtain ⟨rfl, N1q, R1⟩ := hQ1
  have N1 := Fr.app N0 N1q
  refine g_ret X1 hx hby Bd.returns Bd.notSynchronized d4_9 rfl (by decide) (by decide) ?_
  show (Q_ini1G Z a ca kc cs N cz h0 n0) none _ _
  exact ⟨rfl, N1, R1⟩

theorem d11_0 : decode jdk_42_method_152_code 0 = .ok (.getstatic 38, 3) := by decide +kernel
theorem d11_3 : decode jdk_42_method_152_code 3 = .ok (.ifCond .eq 10, 3) := by decide +kernel
theorem d11_6 : decode jdk_42_method_152_code 6 = .ok (.aload_n 0, 1) := by decide +kernel
theorem d11_7 : decode jdk_42_method_152_code 7 = .ok (.getfield 15, 3) := by decide +kernel
theorem d11_10 : decode jdk_42_method_152_code 10 = .ok (.goto 4, 3) := by decide +kernel
theorem d11_14 : decode jdk_42_method_152_code 14 = .ok (.ireturn, 1) := by decide +kernel
def Q_coder (Z : State) (a : Addr) (cd : Int32) (cz : Int32) (h0 : Heap) (n0 : Nat) (v : Option Value) (h : Heap) (L : List Loc) : Prop := v = some (.int (nar .byte cd)) ∧ Fr n0 L ∧ h = h0
set_option maxRecDepth 65536 in
set_option maxHeartbeats 40000000 in
theorem rm_coder (l : Launch) (Z : State) (a0 : Array Value) (hw : ∀ d ∈ tables_1, d.before a0 Z = true) (ws : List Jvm.Cond) (a : Addr) (cd : Int32) (cz : Int32) (h0 : Heap) (n0 : Nat) (Z0 : n0 ≤ h0.size) (O2 : Sta Z Z.heap "java/lang/String" "COMPACT_STRINGS" "Z" (.int cz)) (P5 : ¬ cz = (0 : Int32)) (OLD : Old Z n0 h0) (C : Fld Z h0 a "java/lang/String" "coder" "B" (.int cd)) :
    MetFree l (⟨"java/lang/String", "coder", "()B"⟩ : MethodName) (head1 (Jvm.Cond.code (⟨"java/lang/String", "coder", "()B"⟩ : MethodName) jdk_42_method_152_code 1 (some .byte) :: ws) ({ frames := 0, cells := 0, slots := 0, locals := 0 } : Room)) (fun aa_ U => aa_ = #[(.ref a)] ∧ Z.Warmed39 U.vm ∧ U.heap = h0) (fun _ _ _ _ _ => True) (fun _ U o_ U' => RetG U (Q_coder Z a cd cz h0 n0) 0 0 U' o_) := by
  refine MetFree.of_bodySF (plainFor_of_name own_pn1) hisR ?_
  intro p e s m args below meth c_ s₁ Bd hml0 hP hK
  obtain ⟨rfl, hZ, hh⟩ := hP
  have hx := Bd.exec
  have hby := Bd.bytes
  have hml : c_.maxLocals = 1 := hml0
  have hown : s.vm.findClass "java/lang/String" = some m.cls := findClass_of_methodNamed Bd.named
  have hnm := (name_of_methodNamed Bd.named Bd.method).1
  have X0 : Stand p l e ({ frames := 0, cells := 0, slots := 0, locals := 0 } : Room) s m #[(.ref a)] below meth c_ s₁ [] 0 0 := Stand.of_body Bd
  have e0 : s₁.heap = h0 := by rw [← hh, Bd.state]; rfl
  have N0 := Fr.nil n0
  have w34_ := hw _ (List.mem_of_getElem? (i := 34) rfl)
  have w66_ := hw _ (List.mem_of_getElem? (i := 66) rfl)
  show Go p e below (RetG s (Q_coder Z a cd cz h0 n0) 0 0) (s₁.setTop (entryFrame m #[(.ref a)] 1))
  rw [show entryFrame m #[(.ref a)] 1 = mkF m 0 #[.val (.ref a)] [] from by first | (simp [entryFrame, mkF, argsToLocals, Value.category]; done) | rfl]
  refine g_getS X0 hx hby hZ hown (host := "") (Or.inl w66_) Via.refl e0 (O2.ext OLD.2) d11_0 (fun T1 X1 e1 => ?_)
  refine g_ifN X1 hx hby d11_3 (feq (P5 : ¬ (cz = (0 : Int32)))).1 ?_
  refine g_aloadN X1 hx hby d11_6 rfl rfl ?_
  refine g_getF X1 hx hby hZ hown (host := "") (Or.inl w34_) Via.refl e1 C d11_7 (fun T2 X2 e2 => ?_)
  refine g_goto X2 hx hby 14 d11_10 (by decide) (by decide) ?_
  refine g_nret X2 hx hby (t := .byte) (by simp) Bd.returns Bd.notSynchronized d11_14 e2 (by decide) (by decide) ?_
  show (Q_coder Z a cd cz h0 n0) (some (.int (nar .byte cd))) _ _
  exact ⟨rfl, N0, rfl⟩

theorem d10_0 : decode jdk_42_method_54_code 0 = .ok (.aload_n 0, 1) := by decide +kernel
theorem d10_1 : decode jdk_42_method_54_code 1 = .ok (.getfield 9, 3) := by decide +kernel
theorem d10_4 : decode jdk_42_method_54_code 4 = .ok (.arraylength, 1) := by decide +kernel
theorem d10_5 : decode jdk_42_method_54_code 5 = .ok (.aload_n 0, 1) := by decide +kernel
theorem d10_6 : decode jdk_42_method_54_code 6 = .ok (.invokevirtual 335, 3) := by decide +kernel
theorem own_pd8 : parseMethodDescriptor "()B" = some ⟨[], some .byte⟩ := by decide +kernel
theorem d10_9 : decode jdk_42_method_54_code 9 = .ok (.ishr, 1) := by decide +kernel
theorem d10_10 : decode jdk_42_method_54_code 10 = .ok (.ireturn, 1) := by decide +kernel
def Q_slenG (Z : State) (a : Addr) (b : Addr) (kb : ClassId) (cs : List Int32) (N : Nat) (cz : Int32) (h0 : Heap) (n0 : Nat) (v : Option Value) (h : Heap) (L : List Loc) : Prop := v = some (.int (Int32.ofNat N)) ∧ Fr n0 L ∧ h = h0
set_option maxRecDepth 65536 in
set_option maxHeartbeats 40000000 in
theorem rm_slenG (l : Launch) (Z : State) (a0 : Array Value) (hw : ∀ d ∈ tables_1, d.before a0 Z = true) (ws : List Jvm.Cond) (a : Addr) (b : Addr) (kb : ClassId) (cs : List Int32) (N : Nat) (cz : Int32) (h0 : Heap) (n0 : Nat) (Z0 : n0 ≤ h0.size) (O2 : Sta Z Z.heap "java/lang/String" "COMPACT_STRINGS" "Z" (.int cz)) (P5 : ¬ cz = (0 : Int32)) (OLD : Old Z n0 h0) (E : Exa Z h0 a "java/lang/String") (VF : Fld Z h0 a "java/lang/String" "value" "[B" (.ref b)) (Dp : own_D Z h0 a b kb cs N) (hcl : cs.length = N) (hN : N ≤ 4) :
    MetFree l (⟨"java/lang/String", "length", "()I"⟩ : MethodName) (head1 (Jvm.Cond.code (⟨"java/lang/String", "length", "()I"⟩ : MethodName) jdk_42_method_54_code 1 (some .int) :: ws) ({ frames := 1, cells := 0, slots := 0, locals := 13 } : Room)) (fun aa_ U => aa_ = #[(.ref a)] ∧ Z.Warmed39 U.vm ∧ U.heap = h0) (fun _ _ _ _ _ => True) (fun _ U o_ U' => RetG U (Q_slenG Z a b kb cs N cz h0 n0) 0 0 U' o_) := by
  refine MetFree.of_bodySF (plainFor_of_name own_pn1) hisR ?_
  intro p e s m args below meth c_ s₁ Bd hml0 hP hK
  obtain ⟨rfl, hZ, hh⟩ := hP
  have hx := Bd.exec
  have hby := Bd.bytes
  have hml : c_.maxLocals = 1 := hml0
  have hown : s.vm.findClass "java/lang/String" = some m.cls := findClass_of_methodNamed Bd.named
  have hnm := (name_of_methodNamed Bd.named Bd.method).1
  have X0 : Stand p l e ({ frames := 1, cells := 0, slots := 0, locals := 13 } : Room) s m #[(.ref a)] below meth c_ s₁ [] 0 0 := Stand.of_body Bd
  have e0 : s₁.heap = h0 := by rw [← hh, Bd.state]; rfl
  have N0 := Fr.nil n0
  have w13_ := hw _ (List.mem_of_getElem? (i := 13) rfl)
  have w33_ := hw _ (List.mem_of_getElem? (i := 33) rfl)
  have w61_ := hw _ (List.mem_of_getElem? (i := 61) rfl)
  have w62_ := hw _ (List.mem_of_getElem? (i := 62) rfl)
  have w63_ := hw _ (List.mem_of_getElem? (i := 63) rfl)
  have w64_ := hw _ (List.mem_of_getElem? (i := 64) rfl)
  have w65_ := hw _ (List.mem_of_getElem? (i := 65) rfl)
  show Go p e below (RetG s (Q_slenG Z a b kb cs N cz h0 n0) 0 0) (s₁.setTop (entryFrame m #[(.ref a)] 1))
  rw [show entryFrame m #[(.ref a)] 1 = mkF m 0 #[.val (.ref a)] [] from by first | (simp [entryFrame, mkF, argsToLocals, Value.category]; done) | rfl]
  rcases Dp with ⟨dC, bs, dV, dB⟩ | ⟨dC, bs, dV, dB⟩
  · skip
    refine g_aloadN X0 hx hby d10_0 rfl rfl ?_
    refine g_getF X0 hx hby hZ hown (host := "") (Or.inl w33_) Via.refl e0 VF d10_1 (fun T1 X1 e1 => ?_)
    refine g_arraylength X1 hx hby hZ e1 dV d10_4 ?_
    refine g_aloadN X1 hx hby d10_5 rfl rfl ?_
    refine g_virtual X1 hx hby hZ hown (rm_coder l Z a0 hw [] a (0 : Int32) cz h0 n0 Z0 O2 P5 OLD dC) w61_ w62_ (notFace_of_selects (args := #[]) (mvT hZ w64_)) w64_ w63_ w13_ w65_ (by decide) e1 E (by rw [hml]; rfl) [] (lenOf own_pd8 rfl) rfl rfl (Nat.le_of_ble_eq_true rfl) (Nat.le_of_ble_eq_true rfl) (Nat.le_of_ble_eq_true rfl) (Nat.le_of_ble_eq_true rfl) d10_6 (fun v2 T2 L2 X2 hQ2 => ?_)
    obtain ⟨rfl, N2q, eh2⟩ := hQ2
    have N2 := Fr.app N0 N2q
    refine g_topI (T := T2) (0 : Int32) (by decide) ?_
    refine g_ishr X2 hx hby d10_9 ?_
    refine g_iret X2 hx hby Bd.returns Bd.notSynchronized d10_10 eh2 (by decide) (by decide) ?_
    show (Q_slenG Z a b kb cs N cz h0 n0) (some (.int ((Int32.ofNat N) >>> ((0 : Int32) &&& 31)))) _ _
    exact ⟨by rw [own_shr0], N2, rfl⟩
  · skip
    refine g_aloadN X0 hx hby d10_0 rfl rfl ?_
    refine g_getF X0 hx hby hZ hown (host := "") (Or.inl w33_) Via.refl e0 VF d10_1 (fun T3 X3 e3 => ?_)
    refine g_arraylength X3 hx hby hZ e3 dV d10_4 ?_
    refine g_aloadN X3 hx hby d10_5 rfl rfl ?_
    refine g_virtual X3 hx hby hZ hown (rm_coder l Z a0 hw [] a (1 : Int32) cz h0 n0 Z0 O2 P5 OLD dC) w61_ w62_ (notFace_of_selects (args := #[]) (mvT hZ w64_)) w64_ w63_ w13_ w65_ (by decide) e3 E (by rw [hml]; rfl) [] (lenOf own_pd8 rfl) rfl rfl (Nat.le_of_ble_eq_true rfl) (Nat.le_of_ble_eq_true rfl) (Nat.le_of_ble_eq_true rfl) (Nat.le_of_ble_eq_true rfl) d10_6 (fun v4 T4 L4 X4 hQ4 => ?_)
    obtain ⟨rfl, N4q, eh4⟩ := hQ4
    have N4 := Fr.app N0 N4q
    refine g_topI (T := T4) (1 : Int32) (by decide) ?_
    refine g_ishr X4 hx hby d10_9 ?_
    refine g_iret X4 hx hby Bd.returns Bd.notSynchronized d10_10 eh4 (by decide) (by decide) ?_
    show (Q_slenG Z a b kb cs N cz h0 n0) (some (.int ((Int32.ofNat (2 * N)) >>> ((1 : Int32) &&& 31)))) _ _
    exact ⟨by rw [own_shr1 hN], N4, rfl⟩

theorem d20_0 : decode jdk_41_method_11_code 0 = .ok (.iload_n 0, 1) := by decide +kernel
theorem d20_1 : decode jdk_41_method_11_code 1 = .ok (.ifCond .lt 8, 3) := by decide +kernel
theorem d20_4 : decode jdk_41_method_11_code 4 = .ok (.iload_n 0, 1) := by decide +kernel
theorem d20_5 : decode jdk_41_method_11_code 5 = .ok (.iload_n 1, 1) := by decide +kernel
theorem d20_6 : decode jdk_41_method_11_code 6 = .ok (.if_icmp .lt 10, 3) := by decide +kernel
theorem d20_16 : decode jdk_41_method_11_code 16 = .ok (.iload_n 0, 1) := by decide +kernel
theorem d20_17 : decode jdk_41_method_11_code 17 = .ok (.ireturn, 1) := by decide +kernel
theorem own_pn2 : plainName "jdk/internal/util/Preconditions" = true := by first | (simp [plainName, overriddenIn]; done) | decide +kernel
def Q_pchk (Z : State) (j : Int32) (z : Int32) (fz : Value) (h0 : Heap) (n0 : Nat) (v : Option Value) (h : Heap) (L : List Loc) : Prop := v = some (.int j) ∧ Fr n0 L ∧ h = h0
set_option maxRecDepth 65536 in
set_option maxHeartbeats 40000000 in
theorem rm_pchk (l : Launch) (Z : State) (a0 : Array Value) (hw : ∀ d ∈ tables_1, d.before a0 Z = true) (ws : List Jvm.Cond) (j : Int32) (z : Int32) (fz : Value) (h0 : Heap) (n0 : Nat) (Z0 : n0 ≤ h0.size) (hj : ¬ j < 0 ∧ j < z) (rfz : Rf fz) :
    MetFree l (⟨"jdk/internal/util/Preconditions", "checkIndex", "(IILjava/util/function/BiFunction;)I"⟩ : MethodName) (head1 (Jvm.Cond.code (⟨"jdk/internal/util/Preconditions", "checkIndex", "(IILjava/util/function/BiFunction;)I"⟩ : MethodName) jdk_41_method_11_code 3 (some .int) :: ws) ({ frames := 0, cells := 0, slots := 0, locals := 0 } : Room)) (fun aa_ U => aa_ = #[(.int j), (.int z), fz] ∧ Z.Warmed39 U.vm ∧ U.heap = h0) (fun _ _ _ _ _ => True) (fun _ U o_ U' => RetG U (Q_pchk Z j z fz h0 n0) 0 0 U' o_) := by
  refine MetFree.of_bodySF (plainFor_of_name own_pn2) hisR ?_
  intro p e s m args below meth c_ s₁ Bd hml0 hP hK
  obtain ⟨rfl, hZ, hh⟩ := hP
  have hx := Bd.exec
  have hby := Bd.bytes
  have hml : c_.maxLocals = 3 := hml0
  have hown : s.vm.findClass "jdk/internal/util/Preconditions" = some m.cls := findClass_of_methodNamed Bd.named
  have hnm := (name_of_methodNamed Bd.named Bd.method).1
  have X0 : Stand p l e ({ frames := 0, cells := 0, slots := 0, locals := 0 } : Room) s m #[(.int j), (.int z), fz] below meth c_ s₁ [] 0 0 := Stand.of_body Bd
  have e0 : s₁.heap = h0 := by rw [← hh, Bd.state]; rfl
  have N0 := Fr.nil n0
  show Go p e below (RetG s (Q_pchk Z j z fz h0 n0) 0 0) (s₁.setTop (entryFrame m #[(.int j), (.int z), fz] 3))
  rw [show entryFrame m #[(.int j), (.int z), fz] 3 = mkF m 0 #[.val (.int j), .val (.int z), .val fz] [] from by rcases rfz with rfl | ⟨_, rfl⟩ <;> first | (simp [entryFrame, mkF, argsToLocals, Value.category]; done) | rfl]
  refine g_iloadN X0 hx hby d20_0 rfl ?_
  refine g_ifN X0 hx hby d20_1 (flt (hj.1 : ¬ (j < (0 : Int32)))).1 ?_
  refine g_iloadN X0 hx hby d20_4 rfl ?_
  refine g_iloadN X0 hx hby d20_5 rfl ?_
  refine g_icY X0 hx hby 16 d20_6 (tlt (hj.2 : j < z)).1 (by decide) (by decide) ?_
  refine g_iloadN X0 hx hby d20_16 rfl ?_
  refine g_iret X0 hx hby Bd.returns Bd.notSynchronized d20_17 e0 (by decide) (by decide) ?_
  show (Q_pchk Z j z fz h0 n0) (some (.int j)) _ _
  exact ⟨rfl, N0, rfl⟩

theorem d19_0 : decode jdk_42_method_155_code 0 = .ok (.iload_n 0, 1) := by decide +kernel
theorem d19_1 : decode jdk_42_method_155_code 1 = .ok (.iload_n 1, 1) := by decide +kernel
theorem d19_2 : decode jdk_42_method_155_code 2 = .ok (.getstatic 1053, 3) := by decide +kernel
theorem d19_5 : decode jdk_42_method_155_code 5 = .ok (.invokestatic 1059, 3) := by decide +kernel
theorem own_pd9 : parseMethodDescriptor "(IILjava/util/function/BiFunction;)I" = some ⟨[.int, .int, (.object "java/util/function/BiFunction")], some .int⟩ := by decide +kernel
theorem d19_8 : decode jdk_42_method_155_code 8 = .ok (.pop, 1) := by decide +kernel
theorem d19_9 : decode jdk_42_method_155_code 9 = .ok (.return_, 1) := by decide +kernel
def Q_schk (Z : State) (j : Int32) (z : Int32) (fz : Value) (h0 : Heap) (n0 : Nat) (v : Option Value) (h : Heap) (L : List Loc) : Prop := v = none ∧ Fr n0 L ∧ h = h0
set_option maxRecDepth 65536 in
set_option maxHeartbeats 40000000 in
theorem rm_schk (l : Launch) (Z : State) (a0 : Array Value) (hw : ∀ d ∈ tables_1, d.before a0 Z = true) (ws : List Jvm.Cond) (j : Int32) (z : Int32) (fz : Value) (h0 : Heap) (n0 : Nat) (Z0 : n0 ≤ h0.size) (hj : ¬ j < 0 ∧ j < z) (rfz : Rf fz) (O4 : Sta Z Z.heap "jdk/internal/util/Preconditions" "SIOOBE_FORMATTER" "Ljava/util/function/BiFunction;" fz) (OLD : Old Z n0 h0) :
    MetFree l (⟨"java/lang/String", "checkIndex", "(II)V"⟩ : MethodName) (head1 (Jvm.Cond.code (⟨"java/lang/String", "checkIndex", "(II)V"⟩ : MethodName) jdk_42_method_155_code 2 none :: ws) ({ frames := 1, cells := 0, slots := 0, locals := 14 } : Room)) (fun aa_ U => aa_ = #[(.int j), (.int z)] ∧ Z.Warmed39 U.vm ∧ U.heap = h0) (fun _ _ _ _ _ => True) (fun _ U o_ U' => RetG U (Q_schk Z j z fz h0 n0) 0 0 U' o_) := by
  refine MetFree.of_bodySF (plainFor_of_name own_pn1) hisR ?_
  intro p e s m args below meth c_ s₁ Bd hml0 hP hK
  obtain ⟨rfl, hZ, hh⟩ := hP
  have hx := Bd.exec
  have hby := Bd.bytes
  have hml : c_.maxLocals = 2 := hml0
  have hown : s.vm.findClass "java/lang/String" = some m.cls := findClass_of_methodNamed Bd.named
  have hnm := (name_of_methodNamed Bd.named Bd.method).1
  have X0 : Stand p l e ({ frames := 1, cells := 0, slots := 0, locals := 14 } : Room) s m #[(.int j), (.int z)] below meth c_ s₁ [] 0 0 := Stand.of_body Bd
  have e0 : s₁.heap = h0 := by rw [← hh, Bd.state]; rfl
  have N0 := Fr.nil n0
  have w98_ := hw _ (List.mem_of_getElem? (i := 98) rfl)
  have w99_ := hw _ (List.mem_of_getElem? (i := 99) rfl)
  have w100_ := hw _ (List.mem_of_getElem? (i := 100) rfl)
  have w101_ := hw _ (List.mem_of_getElem? (i := 101) rfl)
  have w102_ := hw _ (List.mem_of_getElem? (i := 102) rfl)
  show Go p e below (RetG s (Q_schk Z j z fz h0 n0) 0 0) (s₁.setTop (entryFrame m #[(.int j), (.int z)] 2))
  rw [show entryFrame m #[(.int j), (.int z)] 2 = mkF m 0 #[.val (.int j), .val (.int z)] [] from by first | (simp [entryFrame, mkF, argsToLocals, Value.category]; done) | rfl]
  refine g_iloadN X0 hx hby d19_0 rfl ?_
  refine g_iloadN X0 hx hby d19_1 rfl ?_
  refine g_getS X0 hx hby hZ hown (host := "") (Or.inl w98_) Via.refl e0 (O4.ext OLD.2) d19_2 (fun T1 X1 e1 => ?_)
  refine g_static X1 hx hby hZ hown (rm_pchk l Z a0 hw [] j z fz h0 n0 Z0 hj rfz) w100_ w101_ w99_ w102_ (by decide) e1 (by rw [hml]; rfl) [(.int j), (.int z), fz] (lenOf own_pd9 rfl) rfl rfl (Nat.le_of_ble_eq_true rfl) (Nat.le_of_ble_eq_true rfl) (Nat.le_of_ble_eq_true rfl) (Nat.le_of_ble_eq_true rfl) d19_5 (fun v2 T2 L2 X2 hQ2 => ?_)
  obtain ⟨rfl, N2q, eh2⟩ := hQ2
  have N2 := Fr.app N0 N2q
  refine g_pop X2 hx hby d19_8 rfl ?_
  refine g_ret X2 hx hby Bd.returns Bd.notSynchronized d19_9 eh2 (by decide) (by decide) ?_
  show (Q_schk Z j z fz h0 n0) none _ _
  exact ⟨rfl, N2, rfl⟩

theorem d17_0 : decode jdk_42_method_154_code 0 = .ok (.getstatic 38, 3) := by decide +kernel
theorem d17_3 : decode jdk_42_method_154_code 3 = .ok (.ifCond .eq 14, 3) := by decide +kernel
theorem d17_6 : decode jdk_42_method_154_code 6 = .ok (.aload_n 0, 1) := by decide +kernel
theorem d17_7 : decode jdk_42_method_154_code 7 = .ok (.getfield 15, 3) := by decide +kernel
theorem d17_10 : decode jdk_42_method_154_code 10 = .ok (.ifCond .ne 7, 3) := by decide +kernel
theorem d17_13 : decode jdk_42_method_154_code 13 = .ok (.iconst 1, 1) := by decide +kernel
theorem d17_14 : decode jdk_42_method_154_code 14 = .ok (.goto 4, 3) := by decide +kernel
theorem d17_18 : decode jdk_42_method_154_code 18 = .ok (.ireturn, 1) := by decide +kernel
def Q_islat (Z : State) (a : Addr) (cz : Int32) (h0 : Heap) (n0 : Nat) (v : Option Value) (h : Heap) (L : List Loc) : Prop := v = some (.int (1 : Int32)) ∧ Fr n0 L ∧ h = h0
set_option maxRecDepth 65536 in
set_option maxHeartbeats 40000000 in
theorem rm_islat (l : Launch) (Z : State) (a0 : Array Value) (hw : ∀ d ∈ tables_1, d.before a0 Z = true) (ws : List Jvm.Cond) (a : Addr) (cz : Int32) (h0 : Heap) (n0 : Nat) (Z0 : n0 ≤ h0.size) (O2 : Sta Z Z.heap "java/lang/String" "COMPACT_STRINGS" "Z" (.int cz)) (P5 : ¬ cz = (0 : Int32)) (OLD : Old Z n0 h0) (C : Fld Z h0 a "java/lang/String" "coder" "B" (.int (0 : Int32))) :
    MetFree l (⟨"java/lang/String", "isLatin1", "()Z"⟩ : MethodName) (head1 (Jvm.Cond.code (⟨"java/lang/String", "isLatin1", "()Z"⟩ : MethodName) jdk_42_method_154_code 1 (some .boolean) :: ws) ({ frames := 0, cells := 0, slots := 0, locals := 0 } : Room)) (fun aa_ U => aa_ = #[(.ref a)] ∧ Z.Warmed39 U.vm ∧ U.heap = h0) (fun _ _ _ _ _ => True) (fun _ U o_ U' => RetG U (Q_islat Z a cz h0 n0) 0 0 U' o_) := by
  refine MetFree.of_bodySF (plainFor_of_name own_pn1) hisR ?_
  intro p e s m args below meth c_ s₁ Bd hml0 hP hK
  obtain ⟨rfl, hZ, hh⟩ := hP
  have hx := Bd.exec
  have hby := Bd.bytes
  have hml : c_.maxLocals = 1 := hml0
  have hown : s.vm.findClass "java/lang/String" = some m.cls := findClass_of_methodNamed Bd.named
  have hnm := (name_of_methodNamed Bd.named Bd.method).1
  have X0 : Stand p l e ({ frames := 0, cells := 0, slots := 0, locals := 0 } : Room) s m #[(.ref a)] below meth c_ s₁ [] 0 0 := Stand.of_body Bd
  have e0 : s₁.heap = h0 := by rw [← hh, Bd.state]; rfl
  have N0 := Fr.nil n0
  have w34_ := hw _ (List.mem_of_getElem? (i := 34) rfl)
  have w66_ := hw _ (List.mem_of_getElem? (i := 66) rfl)
  show Go p e below (RetG s (Q_islat Z a cz h0 n0) 0 0) (s₁.setTop (entryFrame m #[(.ref a)] 1))
  rw [show entryFrame m #[(.ref a)] 1 = mkF m 0 #[.val (.ref a)] [] from by first | (simp [entryFrame, mkF, argsToLocals, Value.category]; done) | rfl]
  refine g_getS X0 hx hby hZ hown (host := "") (Or.inl w66_) Via.refl e0 (O2.ext OLD.2) d17_0 (fun T1 X1 e1 => ?_)
  refine g_ifN X1 hx hby d17_3 (feq (P5 : ¬ (cz = (0 : Int32)))).1 ?_
  refine g_aloadN X1 hx hby d17_6 rfl rfl ?_
  refine g_getF X1 hx hby hZ hown (host := "") (Or.inl w34_) Via.refl e1 C d17_7 (fun T2 X2 e2 => ?_)
  refine g_ifN X2 hx hby d17_10 (teq (by decide : (0 : Int32) = (0 : Int32))).2 ?_
  refine g_iconst X2 hx hby (1 : Int32) d17_13 rfl ?_
  refine g_goto X2 hx hby 18 d17_14 (by decide) (by decide) ?_
  refine g_nret X2 hx hby (t := .boolean) (by simp) Bd.returns Bd.notSynchronized d17_18 e2 (by decide) (by decide) ?_
  show (Q_islat Z a cz h0 n0) (some (.int (1 : Int32))) _ _
  exact ⟨rfl, N0, rfl⟩

theorem d17_17 : decode jdk_42_method_154_code 17 = .ok (.iconst 0, 1) := by decide +kernel
def Q_islat16 (Z : State) (a : Addr) (cz : Int32) (h0 : Heap) (n0 : Nat) (v : Option Value) (h : Heap) (L : List Loc) : Prop := v = some (.int (0 : Int32)) ∧ Fr n0 L ∧ h = h0
set_option maxRecDepth 65536 in
set_option maxHeartbeats 40000000 in
theorem rm_islat16 (l : Launch) (Z : State) (a0 : Array Value) (hw : ∀ d ∈ tables_1, d.before a0 Z = true) (ws : List Jvm.Cond) (a : Addr) (cz : Int32) (h0 : Heap) (n0 : Nat) (Z0 : n0 ≤ h0.size) (O2 : Sta Z Z.heap "java/lang/String" "COMPACT_STRINGS" "Z" (.int cz)) (P5 : ¬ cz = (0 : Int32)) (OLD : Old Z n0 h0) (C : Fld Z h0 a "java/lang/String" "coder" "B" (.int (1 : Int32))) :
    MetFree l (⟨"java/lang/String", "isLatin1", "()Z"⟩ : MethodName) (head1 (Jvm.Cond.code (⟨"java/lang/String", "isLatin1", "()Z"⟩ : MethodName) jdk_42_method_154_code 1 (some .boolean) :: ws) ({ frames := 0, cells := 0, slots := 0, locals := 0 } : Room)) (fun aa_ U => aa_ = #[(.ref a)] ∧ Z.Warmed39 U.vm ∧ U.heap = h0) (fun _ _ _ _ _ => True) (fun _ U o_ U' => RetG U (Q_islat16 Z a cz h0 n0) 0 0 U' o_) := by
  refine MetFree.of_bodySF (plainFor_of_name own_pn1) hisR ?_
  intro p e s m args below meth c_ s₁ Bd hml0 hP hK
  obtain ⟨rfl, hZ, hh⟩ := hP
  have hx := Bd.exec
  have hby := Bd.bytes
  have hml : c_.maxLocals = 1 := hml0
  have hown : s.vm.findClass "java/lang/String" = some m.cls := findClass_of_methodNamed Bd.named
  have hnm := (name_of_methodNamed Bd.named Bd.method).1
  have X0 : Stand p l e ({ frames := 0, cells := 0, slots := 0, locals := 0 } : Room) s m #[(.ref a)] below meth c_ s₁ [] 0 0 := Stand.of_body Bd
  have e0 : s₁.heap = h0 := by rw [← hh, Bd.state]; rfl
  have N0 := Fr.nil n0
  have w34_ := hw _ (List.mem_of_getElem? (i := 34) rfl)
  have w66_ := hw _ (List.mem_of_getElem? (i := 66) rfl)
  show Go p e below (RetG s (Q_islat16 Z a cz h0 n0) 0 0) (s₁.setTop (entryFrame m #[(.ref a)] 1))
  rw [show entryFrame m #[(.ref a)] 1 = mkF m 0 #[.val (.ref a)] [] from by first | (simp [entryFrame, mkF, argsToLocals, Value.category]; done) | rfl]
  refine g_getS X0 hx hby hZ hown (host := "") (Or.inl w66_) Via.refl e0 (O2.ext OLD.2) d17_0 (fun T1 X1 e1 => ?_)
  refine g_ifN X1 hx hby d17_3 (feq (P5 : ¬ (cz = (0 : Int32)))).1 ?_
  refine g_aloadN X1 hx hby d17_6 rfl rfl ?_
  refine g_getF X1 hx hby hZ hown (host := "") (Or.inl w34_) Via.refl e1 C d17_7 (fun T2 X2 e2 => ?_)
  refine g_ifY X2 hx hby 17 d17_10 (feq (by decide : ¬ ((1 : Int32) = (0 : Int32)))).2 (by decide) (by decide) ?_
  refine g_iconst X2 hx hby (0 : Int32) d17_17 rfl ?_
  refine g_nret X2 hx hby (t := .boolean) (by simp) Bd.returns Bd.notSynchronized d17_18 e2 (by decide) (by decide) ?_
  show (Q_islat16 Z a cz h0 n0) (some (.int (0 : Int32))) _ _
  exact ⟨rfl, N0, rfl⟩

theorem d18_0 : decode jdk_43_method_2_code 0 = .ok (.iload_n 1, 1) := by decide +kernel
theorem d18_1 : decode jdk_43_method_2_code 1 = .ok (.aload_n 0, 1) := by decide +kernel
theorem d18_2 : decode jdk_43_method_2_code 2 = .ok (.arraylength, 1) := by decide +kernel
theorem d18_3 : decode jdk_43_method_2_code 3 = .ok (.invokestatic 9, 3) := by decide +kernel
theorem own_pd10 : parseMethodDescriptor "(II)V" = some ⟨[.int, .int], none⟩ := by decide +kernel
theorem d18_6 : decode jdk_43_method_2_code 6 = .ok (.aload_n 0, 1) := by decide +kernel
theorem d18_7 : decode jdk_43_method_2_code 7 = .ok (.iload_n 1, 1) := by decide +kernel
theorem d18_8 : decode jdk_43_method_2_code 8 = .ok (.baload, 1) := by decide +kernel
theorem d18_9 : decode jdk_43_method_2_code 9 = .ok (.sipush 255, 3) := by decide +kernel
theorem d18_12 : decode jdk_43_method_2_code 12 = .ok (.iand, 1) := by decide +kernel
theorem d18_13 : decode jdk_43_method_2_code 13 = .ok (.i2c, 1) := by decide +kernel
theorem d18_14 : decode jdk_43_method_2_code 14 = .ok (.ireturn, 1) := by decide +kernel
theorem own_pn3 : plainName "java/lang/StringLatin1" = true := by first | (simp [plainName, overriddenIn]; done) | decide +kernel
def Q_lcharG (Z : State) (b : Addr) (kb : ClassId) (N : Nat) (j : Nat) (bs : List Value) (cc : Int32) (fz : Value) (h0 : Heap) (n0 : Nat) (v : Option Value) (h : Heap) (L : List Loc) : Prop := v = some (.int cc) ∧ Fr n0 L ∧ h = h0
set_option maxRecDepth 65536 in
set_option maxHeartbeats 40000000 in
theorem rm_lcharG (l : Launch) (Z : State) (a0 : Array Value) (hw : ∀ d ∈ tables_1, d.before a0 Z = true) (ws : List Jvm.Cond) (b : Addr) (kb : ClassId) (N : Nat) (j : Nat) (bs : List Value) (cc : Int32) (fz : Value) (h0 : Heap) (n0 : Nat) (Z0 : n0 ≤ h0.size) (hN : N ≤ 4) (hj : j < N) (VB : Arv Z h0 b kb .byte (Int32.ofNat N) bs (.int (0 : Int32))) (hbb : bs.getD j (.int (0 : Int32)) = .int (own_bt cc)) (hc : 0 ≤ cc.toInt ∧ cc.toInt < 65536) (hlc : ¬ (255 : Int32) < cc) (rfz : Rf fz) (O4 : Sta Z Z.heap "jdk/internal/util/Preconditions" "SIOOBE_FORMATTER" "Ljava/util/function/BiFunction;" fz) (OLD : Old Z n0 h0) :
    MetFree l (⟨"java/lang/StringLatin1", "charAt", "([BI)C"⟩ : MethodName) (head1 (Jvm.Cond.code (⟨"java/lang/StringLatin1", "charAt", "([BI)C"⟩ : MethodName) jdk_43_method_2_code 2 (some .char) :: ws) ({ frames := 2, cells := 0, slots := 0, locals := 27 } : Room)) (fun aa_ U => aa_ = #[(.ref b), (.int (Int32.ofNat j))] ∧ Z.Warmed39 U.vm ∧ U.heap = h0) (fun _ _ _ _ _ => True) (fun _ U o_ U' => RetG U (Q_lcharG Z b kb N j bs cc fz h0 n0) 0 0 U' o_) := by
  refine MetFree.of_bodySF (plainFor_of_name own_pn3) hisR ?_
  intro p e s m args below meth c_ s₁ Bd hml0 hP hK
  obtain ⟨rfl, hZ, hh⟩ := hP
  have hx := Bd.exec
  have hby := Bd.bytes
  have hml : c_.maxLocals = 2 := hml0
  have hown : s.vm.findClass "java/lang/StringLatin1" = some m.cls := findClass_of_methodNamed Bd.named
  have hnm := (name_of_methodNamed Bd.named Bd.method).1
  have X0 : Stand p l e ({ frames := 2, cells := 0, slots := 0, locals := 27 } : Room) s m #[(.ref b), (.int (Int32.ofNat j))] below meth c_ s₁ [] 0 0 := Stand.of_body Bd
  have e0 : s₁.heap = h0 := by rw [← hh, Bd.state]; rfl
  have N0 := Fr.nil n0
  have w13_ := hw _ (List.mem_of_getElem? (i := 13) rfl)
  have w95_ := hw _ (List.mem_of_getElem? (i := 95) rfl)
  have w96_ := hw _ (List.mem_of_getElem? (i := 96) rfl)
  have w97_ := hw _ (List.mem_of_getElem? (i := 97) rfl)
  show Go p e below (RetG s (Q_lcharG Z b kb N j bs cc fz h0 n0) 0 0) (s₁.setTop (entryFrame m #[(.ref b), (.int (Int32.ofNat j))] 2))
  rw [show entryFrame m #[(.ref b), (.int (Int32.ofNat j))] 2 = mkF m 0 #[.val (.ref b), .val (.int (Int32.ofNat j))] [] from by first | (simp [entryFrame, mkF, argsToLocals, Value.category]; done) | rfl]
  refine g_iloadN X0 hx hby d18_0 rfl ?_
  refine g_aloadN X0 hx hby d18_1 rfl rfl ?_
  refine g_arraylength X0 hx hby hZ e0 VB d18_2 ?_
  refine g_static X0 hx hby hZ hown (rm_schk l Z a0 hw [] (Int32.ofNat j) (Int32.ofNat N) fz h0 n0 Z0 (own_in2 hj (by omega)) rfz O4 OLD) w95_ w96_ w13_ w97_ (by decide) e0 (by rw [hml]; rfl) [(.int (Int32.ofNat j)), (.int (Int32.ofNat N))] (lenOf own_pd10 rfl) rfl rfl (Nat.le_of_ble_eq_true rfl) (Nat.le_of_ble_eq_true rfl) (Nat.le_of_ble_eq_true rfl) (Nat.le_of_ble_eq_true rfl) d18_3 (fun v1 T1 L1 X1 hQ1 => ?_)
  obtain ⟨rfl, N1q, eh1⟩ := hQ1
  have N1 := Fr.app N0 N1q
  refine g_aloadN X1 hx hby d18_6 rfl rfl ?_
  refine g_iloadN X1 hx hby d18_7 rfl ?_
  refine g_baload X1 hx hby hZ eh1 VB (.int (own_bt cc)) (own_in2 hj (by omega)) (by rw [own_tn2 (by omega)]; exact hbb) d18_8 ?_
  refine g_sipush X1 hx hby (255 : Int32) d18_9 rfl ?_
  refine g_iand X1 hx hby d18_12 ?_
  refine g_i2c X1 hx hby d18_13 ?_
  refine g_nret X1 hx hby (t := .char) (by simp) Bd.returns Bd.notSynchronized d18_14 eh1 (by decide) (by decide) ?_
  show (Q_lcharG Z b kb N j bs cc fz h0 n0) (some (.int (nar .char (((own_bt cc) &&& (255 : Int32)).toUInt32.toUInt16.toUInt32.toInt32)))) _ _
  exact ⟨by rw [own_btc hc hlc], N1, rfl⟩

theorem d30_0 : decode jdk_52_method_6_code 0 = .ok (.aload_n 0, 1) := by decide +kernel
theorem d30_1 : decode jdk_52_method_6_code 1 = .ok (.arraylength, 1) := by decide +kernel
theorem d30_2 : decode jdk_52_method_6_code 2 = .ok (.iconst 1, 1) := by decide +kernel
theorem d30_3 : decode jdk_52_method_6_code 3 = .ok (.ishr, 1) := by decide +kernel
theorem d30_4 : decode jdk_52_method_6_code 4 = .ok (.ireturn, 1) := by decide +kernel
def Q_ulenG (Z : State) (b : Addr) (kb : ClassId) (N : Nat) (bs : List Value) (h0 : Heap) (n0 : Nat) (v : Option Value) (h : Heap) (L : List Loc) : Prop := v = some (.int (Int32.ofNat N)) ∧ Fr n0 L ∧ h = h0
set_option maxRecDepth 65536 in
set_option maxHeartbeats 40000000 in
theorem rm_ulenG (l : Launch) (Z : State) (a0 : Array Value) (hw : ∀ d ∈ tables_1, d.before a0 Z = true) (ws : List Jvm.Cond) (b : Addr) (kb : ClassId) (N : Nat) (bs : List Value) (h0 : Heap) (n0 : Nat) (Z0 : n0 ≤ h0.size) (hN : N ≤ 4) (VB : Arv Z h0 b kb .byte (Int32.ofNat (2 * N)) bs (.int (0 : Int32))) :
    MetFree l (⟨"java/lang/StringUTF16", "length", "([B)I"⟩ : MethodName) (head1 (Jvm.Cond.code (⟨"java/lang/StringUTF16", "length", "([B)I"⟩ : MethodName) jdk_52_method_6_code 1 (some .int) :: ws) ({ frames := 0, cells := 0, slots := 0, locals := 0 } : Room)) (fun aa_ U => aa_ = #[(.ref b)] ∧ Z.Warmed39 U.vm ∧ U.heap = h0) (fun _ _ _ _ _ => True) (fun _ U o_ U' => RetG U (Q_ulenG Z b kb N bs h0 n0) 0 0 U' o_) := by
  refine MetFree.of_bodySF (plainFor_of_name own_pn0) hisR ?_
  intro p e s m args below meth c_ s₁ Bd hml0 hP hK
  obtain ⟨rfl, hZ, hh⟩ := hP
  have hx := Bd.exec
  have hby := Bd.bytes
  have hml : c_.maxLocals = 1 := hml0
  have hown : s.vm.findClass "java/lang/StringUTF16" = some m.cls := findClass_of_methodNamed Bd.named
  have hnm := (name_of_methodNamed Bd.named Bd.method).1
  have X0 : Stand p l e ({ frames := 0, cells := 0, slots := 0, locals := 0 } : Room) s m #[(.ref b)] below meth c_ s₁ [] 0 0 := Stand.of_body Bd
  have e0 : s₁.heap = h0 := by rw [← hh, Bd.state]; rfl
  have N0 := Fr.nil n0
  show Go p e below (RetG s (Q_ulenG Z b kb N bs h0 n0) 0 0) (s₁.setTop (entryFrame m #[(.ref b)] 1))
  rw [show entryFrame m #[(.ref b)] 1 = mkF m 0 #[.val (.ref b)] [] from by first | (simp [entryFrame, mkF, argsToLocals, Value.category]; done) | rfl]
  refine g_aloadN X0 hx hby d30_0 rfl rfl ?_
  refine g_arraylength X0 hx hby hZ e0 VB d30_1 ?_
  refine g_iconst X0 hx hby (1 : Int32) d30_2 rfl ?_
  refine g_ishr X0 hx hby d30_3 ?_
  refine g_iret X0 hx hby Bd.returns Bd.notSynchronized d30_4 e0 (by decide) (by decide) ?_
  show (Q_ulenG Z b kb N bs h0 n0) (some (.int ((Int32.ofNat (2 * N)) >>> ((1 : Int32) &&& 31)))) _ _
  exact ⟨by rw [own_shr1 hN], N0, rfl⟩

theorem d29_0 : decode jdk_52_method_91_code 0 = .ok (.iload_n 0, 1) := by decide +kernel
theorem d29_1 : decode jdk_52_method_91_code 1 = .ok (.aload_n 1, 1) := by decide +kernel
theorem d29_2 : decode jdk_52_method_91_code 2 = .ok (.invokestatic 48, 3) := by decide +kernel
theorem own_pd11 : parseMethodDescriptor "([B)I" = some ⟨[(.array .byte)], some .int⟩ := by decide +kernel
theorem d29_5 : decode jdk_52_method_91_code 5 = .ok (.invokestatic 414, 3) := by decide +kernel
theorem d29_8 : decode jdk_52_method_91_code 8 = .ok (.return_, 1) := by decide +kernel
def Q_uchkG (Z : State) (b : Addr) (kb : ClassId) (N : Nat) (j : Nat) (bs : List Value) (fz : Value) (h0 : Heap) (n0 : Nat) (v : Option Value) (h : Heap) (L : List Loc) : Prop := v = none ∧ Fr n0 L ∧ h = h0
set_option maxRecDepth 65536 in
set_option maxHeartbeats 40000000 in
theorem rm_uchkG (l : Launch) (Z : State) (a0 : Array Value) (hw : ∀ d ∈ tables_1, d.before a0 Z = true) (ws : List Jvm.Cond) (b : Addr) (kb : ClassId) (N : Nat) (j : Nat) (bs : List Value) (fz : Value) (h0 : Heap) (n0 : Nat) (Z0 : n0 ≤ h0.size) (hN : N ≤ 4) (hj : j < N) (VB : Arv Z h0 b kb .byte (Int32.ofNat (2 * N)) bs (.int (0 : Int32))) (OLD : Old Z n0 h0) (rfz : Rf fz) (O4 : Sta Z Z.heap "jdk/internal/util/Preconditions" "SIOOBE_FORMATTER" "Ljava/util/function/BiFunction;" fz) :
    MetFree l (⟨"java/lang/StringUTF16", "checkIndex", "(I[B)V"⟩ : MethodName) (head1 (Jvm.Cond.code (⟨"java/lang/StringUTF16", "checkIndex", "(I[B)V"⟩ : MethodName) jdk_52_method_91_code 2 none :: ws) ({ frames := 2, cells := 0, slots := 0, locals := 27 } : Room)) (fun aa_ U => aa_ = #[(.int (Int32.ofNat j)), (.ref b)] ∧ Z.Warmed39 U.vm ∧ U.heap = h0) (fun _ _ _ _ _ => True) (fun _ U o_ U' => RetG U (Q_uchkG Z b kb N j bs fz h0 n0) 0 0 U' o_) := by
  refine MetFree.of_bodySF (plainFor_of_name own_pn0) hisR ?_
  intro p e s m args below meth c_ s₁ Bd hml0 hP hK
  obtain ⟨rfl, hZ, hh⟩ := hP
  have hx := Bd.exec
  have hby := Bd.bytes
  have hml : c_.maxLocals = 2 := hml0
  have hown : s.vm.findClass "java/lang/StringUTF16" = some m.cls := findClass_of_methodNamed Bd.named
  have hnm := (name_of_methodNamed Bd.named Bd.method).1
  have X0 : Stand p l e ({ frames := 2, cells := 0, slots := 0, locals := 27 } : Room) s m #[(.int (Int32.ofNat j)), (.ref b)] below meth c_ s₁ [] 0 0 := Stand.of_body Bd
  have e0 : s₁.heap = h0 := by rw [← hh, Bd.state]; rfl
  have N0 := Fr.nil n0
  have w13_ := hw _ (List.mem_of_getElem? (i := 13) rfl)
  have w70_ := hw _ (List.mem_of_getElem? (i := 70) rfl)
  have w96_ := hw _ (List.mem_of_getElem? (i := 96) rfl)
  have w97_ := hw _ (List.mem_of_getElem? (i := 97) rfl)
  have w138_ := hw _ (List.mem_of_getElem? (i := 138) rfl)
  have w139_ := hw _ (List.mem_of_getElem? (i := 139) rfl)
  have w140_ := hw _ (List.mem_of_getElem? (i := 140) rfl)
  have w141_ := hw _ (List.mem_of_getElem? (i := 141) rfl)
  show Go p e below (RetG s (Q_uchkG Z b kb N j bs fz h0 n0) 0 0) (s₁.setTop (entryFrame m #[(.int (Int32.ofNat j)), (.ref b)] 2))
  rw [show entryFrame m #[(.int (Int32.ofNat j)), (.ref b)] 2 = mkF m 0 #[.val (.int (Int32.ofNat j)), .val (.ref b)] [] from by first | (simp [entryFrame, mkF, argsToLocals, Value.category]; done) | rfl]
  refine g_iloadN X0 hx hby d29_0 rfl ?_
  refine g_aloadN X0 hx hby d29_1 rfl rfl ?_
  refine g_static X0 hx hby hZ hown (rm_ulenG l Z a0 hw [] b kb N bs h0 n0 Z0 hN VB) w138_ w139_ w70_ w140_ (by decide) e0 (by rw [hml]; rfl) [(.ref b)] (lenOf own_pd11 rfl) rfl rfl (Nat.le_of_ble_eq_true rfl) (Nat.le_of_ble_eq_true rfl) (Nat.le_of_ble_eq_true rfl) (Nat.le_of_ble_eq_true rfl) d29_2 (fun v1 T1 L1 X1 hQ1 => ?_)
  obtain ⟨rfl, N1q, eh1⟩ := hQ1
  have N1 := Fr.app N0 N1q
  refine g_static X1 hx hby hZ hown (rm_schk l Z a0 hw [] (Int32.ofNat j) (Int32.ofNat N) fz h0 n0 Z0 (own_in2 hj (by omega)) rfz O4 OLD) w141_ w96_ w13_ w97_ (by decide) eh1 (by rw [hml]; rfl) [(.int (Int32.ofNat j)), (.int (Int32.ofNat N))] (lenOf own_pd10 rfl) rfl rfl (Nat.le_of_ble_eq_true rfl) (Nat.le_of_ble_eq_true rfl) (Nat.le_of_ble_eq_true rfl) (Nat.le_of_ble_eq_true rfl) d29_5 (fun v2 T2 L2 X2 hQ2 => ?_)
  obtain ⟨rfl, N2q, eh2⟩ := hQ2
  have N2 := Fr.app N1 N2q
  refine g_ret X2 hx hby Bd.returns Bd.notSynchronized d29_8 eh2 (by decide) (by decide) ?_
  show (Q_uchkG Z b kb N j bs fz h0 n0) none _ _
  exact ⟨rfl, N2, rfl⟩

theorem d28_0 : decode jdk_52_method_83_code 0 = .ok (.iload_n 1, 1) := by decide +kernel
theorem d28_1 : decode jdk_52_method_83_code 1 = .ok (.aload_n 0, 1) := by decide +kernel
theorem d28_2 : decode jdk_52_method_83_code 2 = .ok (.invokestatic 67, 3) := by decide +kernel
theorem own_pd12 : parseMethodDescriptor "(I[B)V" = some ⟨[.int, (.array .byte)], none⟩ := by decide +kernel
theorem d28_5 : decode jdk_52_method_83_code 5 = .ok (.aload_n 0, 1) := by decide +kernel
theorem d28_6 : decode jdk_52_method_83_code 6 = .ok (.iload_n 1, 1) := by decide +kernel
theorem d28_7 : decode jdk_52_method_83_code 7 = .ok (.invokestatic 71, 3) := by decide +kernel
theorem d28_10 : decode jdk_52_method_83_code 10 = .ok (.ireturn, 1) := by decide +kernel
def Q_ucharG (Z : State) (b : Addr) (kb : ClassId) (N : Nat) (j : Nat) (bs : List Value) (cc : Int32) (fz : Value) (h0 : Heap) (n0 : Nat) (v : Option Value) (h : Heap) (L : List Loc) : Prop := v = some (.int cc) ∧ Fr n0 L ∧ h = h0
set_option maxRecDepth 65536 in
set_option maxHeartbeats 40000000 in
theorem rm_ucharG (l : Launch) (Z : State) (a0 : Array Value) (hw : ∀ d ∈ tables_1, d.before a0 Z = true) (ws : List Jvm.Cond) (b : Addr) (kb : ClassId) (N : Nat) (j : Nat) (bs : List Value) (cc : Int32) (fz : Value) (h0 : Heap) (n0 : Nat) (Z0 : n0 ≤ h0.size) (Uad : Sta Z Z.heap "java/lang/StringUTF16" "$assertionsDisabled" "Z" (.int (1 : Int32))) (Uhi : Sta Z Z.heap "java/lang/StringUTF16" "HI_BYTE_SHIFT" "I" (.int (0 : Int32))) (Ulo : Sta Z Z.heap "java/lang/StringUTF16" "LO_BYTE_SHIFT" "I" (.int (8 : Int32))) (hN : N ≤ 4) (hj : j < N) (VB : Arv Z h0 b kb .byte (Int32.ofNat (2 * N)) bs (.int (0 : Int32))) (hu1 : bs.getD (2 * j) (.int (0 : Int32)) = .int (own_lob cc)) (hu2 : bs.getD (2 * j + 1) (.int (0 : Int32)) = .int (own_hib cc)) (hc : 0 ≤ cc.toInt ∧ cc.toInt < 65536) (OLD : Old Z n0 h0) (rfz : Rf fz) (O4 : Sta Z Z.heap "jdk/internal/util/Preconditions" "SIOOBE_FORMATTER" "Ljava/util/function/BiFunction;" fz) :
    MetFree l (⟨"java/lang/StringUTF16", "charAt", "([BI)C"⟩ : MethodName) (head1 (Jvm.Cond.code (⟨"java/lang/StringUTF16", "charAt", "([BI)C"⟩ : MethodName) jdk_52_method_83_code 2 (some .char) :: ws) ({ frames := 3, cells := 0, slots := 0, locals := 40 } : Room)) (fun aa_ U => aa_ = #[(.ref b), (.int (Int32.ofNat j))] ∧ Z.Warmed39 U.vm ∧ U.heap = h0) (fun _ _ _ _ _ => True) (fun _ U o_ U' => RetG U (Q_ucharG Z b kb N j bs cc fz h0 n0) 0 0 U' o_) := by
  refine MetFree.of_bodySF (plainFor_of_name own_pn0) hisR ?_
  intro p e s m args below meth c_ s₁ Bd hml0 hP hK
  obtain ⟨rfl, hZ, hh⟩ := hP
  have hx := Bd.exec
  have hby := Bd.bytes
  have hml : c_.maxLocals = 2 := hml0
  have hown : s.vm.findClass "java/lang/StringUTF16" = some m.cls := findClass_of_methodNamed Bd.named
  have hnm := (name_of_methodNamed Bd.named Bd.method).1
  have X0 : Stand p l e ({ frames := 3, cells := 0, slots := 0, locals := 40 } : Room) s m #[(.ref b), (.int (Int32.ofNat j))] below meth c_ s₁ [] 0 0 := Stand.of_body Bd
  have e0 : s₁.heap = h0 := by rw [← hh, Bd.state]; rfl
  have N0 := Fr.nil n0
  have w70_ := hw _ (List.mem_of_getElem? (i := 70) rfl)
  have w129_ := hw _ (List.mem_of_getElem? (i := 129) rfl)
  have w130_ := hw _ (List.mem_of_getElem? (i := 130) rfl)
  have w131_ := hw _ (List.mem_of_getElem? (i := 131) rfl)
  have w135_ := hw _ (List.mem_of_getElem? (i := 135) rfl)
  have w136_ := hw _ (List.mem_of_getElem? (i := 136) rfl)
  have w137_ := hw _ (List.mem_of_getElem? (i := 137) rfl)
  show Go p e below (RetG s (Q_ucharG Z b kb N j bs cc fz h0 n0) 0 0) (s₁.setTop (entryFrame m #[(.ref b), (.int (Int32.ofNat j))] 2))
  rw [show entryFrame m #[(.ref b), (.int (Int32.ofNat j))] 2 = mkF m 0 #[.val (.ref b), .val (.int (Int32.ofNat j))] [] from by first | (simp [entryFrame, mkF, argsToLocals, Value.category]; done) | rfl]
  refine g_iloadN X0 hx hby d28_0 rfl ?_
  refine g_aloadN X0 hx hby d28_1 rfl rfl ?_
  refine g_static X0 hx hby hZ hown (rm_uchkG l Z a0 hw [] b kb N j bs fz h0 n0 Z0 hN hj VB OLD rfz O4) w135_ w136_ w70_ w137_ (by decide) e0 (by rw [hml]; rfl) [(.int (Int32.ofNat j)), (.ref b)] (lenOf own_pd12 rfl) rfl rfl (Nat.le_of_ble_eq_true rfl) (Nat.le_of_ble_eq_true rfl) (Nat.le_of_ble_eq_true rfl) (Nat.le_of_ble_eq_true rfl) d28_2 (fun v1 T1 L1 X1 hQ1 => ?_)
  obtain ⟨rfl, N1q, eh1⟩ := hQ1
  have N1 := Fr.app N0 N1q
  refine g_aloadN X1 hx hby d28_5 rfl rfl ?_
  refine g_iloadN X1 hx hby d28_6 rfl ?_
  refine g_static X1 hx hby hZ hown (rm_getcG l Z a0 hw [] b kb N j bs (own_lob cc) (own_hib cc) h0 n0 Z0 Uad Uhi Ulo OLD hN hj VB hu1 hu2) w129_ w130_ w70_ w131_ (by decide) eh1 (by rw [hml]; rfl) [(.ref b), (.int (Int32.ofNat j))] (lenOf own_pd5 rfl) rfl rfl (Nat.le_of_ble_eq_true rfl) (Nat.le_of_ble_eq_true rfl) (Nat.le_of_ble_eq_true rfl) (Nat.le_of_ble_eq_true rfl) d28_7 (fun v2 T2 L2 X2 hQ2 => ?_)
  obtain ⟨rfl, N2q, eh2⟩ := hQ2
  have N2 := Fr.app N1 N2q
  refine g_topI (T := T2) cc (own_u16 hc) ?_
  refine g_nret X2 hx hby (t := .char) (by simp) Bd.returns Bd.notSynchronized d28_10 eh2 (by decide) (by decide) ?_
  show (Q_ucharG Z b kb N j bs cc fz h0 n0) (some (.int (nar .char cc))) _ _
  exact ⟨by rw [own_nc16 hc], N2, rfl⟩

theorem d16_0 : decode jdk_42_method_56_code 0 = .ok (.aload_n 0, 1) := by decide +kernel
theorem d16_1 : decode jdk_42_method_56_code 1 = .ok (.invokevirtual 492, 3) := by decide +kernel
theorem own_pd13 : parseMethodDescriptor "()Z" = some ⟨[], some .boolean⟩ := by decide +kernel
theorem d16_4 : decode jdk_42_method_56_code 4 = .ok (.ifCond .eq 12, 3) := by decide +kernel
theorem d16_7 : decode jdk_42_method_56_code 7 = .ok (.aload_n 0, 1) := by decide +kernel
theorem d16_8 : decode jdk_42_method_56_code 8 = .ok (.getfield 9, 3) := by decide +kernel
theorem d16_11 : decode jdk_42_method_56_code 11 = .ok (.iload_n 1, 1) := by decide +kernel
theorem d16_12 : decode jdk_42_method_56_code 12 = .ok (.invokestatic 495, 3) := by decide +kernel
theorem d16_15 : decode jdk_42_method_56_code 15 = .ok (.ireturn, 1) := by decide +kernel
theorem d16_16 : decode jdk_42_method_56_code 16 = .ok (.aload_n 0, 1) := by decide +kernel
theorem d16_17 : decode jdk_42_method_56_code 17 = .ok (.getfield 9, 3) := by decide +kernel
theorem d16_20 : decode jdk_42_method_56_code 20 = .ok (.iload_n 1, 1) := by decide +kernel
theorem d16_21 : decode jdk_42_method_56_code 21 = .ok (.invokestatic 498, 3) := by decide +kernel
theorem d16_24 : decode jdk_42_method_56_code 24 = .ok (.ireturn, 1) := by decide +kernel
def Q_scharG (Z : State) (a : Addr) (b : Addr) (kb : ClassId) (cs : List Int32) (N : Nat) (j : Nat) (cc : Int32) (fz : Value) (cz : Int32) (h0 : Heap) (n0 : Nat) (v : Option Value) (h : Heap) (L : List Loc) : Prop := v = some (.int cc) ∧ Fr n0 L ∧ h = h0
set_option maxRecDepth 65536 in
set_option maxHeartbeats 40000000 in
theorem rm_scharG (l : Launch) (Z : State) (a0 : Array Value) (hw : ∀ d ∈ tables_1, d.before a0 Z = true) (ws : List Jvm.Cond) (a : Addr) (b : Addr) (kb : ClassId) (cs : List Int32) (N : Nat) (j : Nat) (cc : Int32) (fz : Value) (cz : Int32) (h0 : Heap) (n0 : Nat) (Z0 : n0 ≤ h0.size) (O2 : Sta Z Z.heap "java/lang/String" "COMPACT_STRINGS" "Z" (.int cz)) (P5 : ¬ cz = (0 : Int32)) (OLD : Old Z n0 h0) (Uad : Sta Z Z.heap "java/lang/StringUTF16" "$assertionsDisabled" "Z" (.int (1 : Int32))) (Uhi : Sta Z Z.heap "java/lang/StringUTF16" "HI_BYTE_SHIFT" "I" (.int (0 : Int32))) (Ulo : Sta Z Z.heap "java/lang/StringUTF16" "LO_BYTE_SHIFT" "I" (.int (8 : Int32))) (E : Exa Z h0 a "java/lang/String") (VF : Fld Z h0 a "java/lang/String" "value" "[B" (.ref b)) (Dp : own_D Z h0 a b kb cs N) (hcl : cs.length = N) (hN : N ≤ 4) (hj : j < N) (hcc : cs.getD j 0 = cc) (hc : 0 ≤ cc.toInt ∧ cc.toInt < 65536) (rfz : Rf fz) (O4 : Sta Z Z.heap "jdk/internal/util/Preconditions" "SIOOBE_FORMATTER" "Ljava/util/function/BiFunction;" fz) :
    MetFree l (⟨"java/lang/String", "charAt", "(I)C"⟩ : MethodName) (head1 (Jvm.Cond.code (⟨"java/lang/String", "charAt", "(I)C"⟩ : MethodName) jdk_42_method_56_code 2 (some .char) :: ws) ({ frames := 4, cells := 0, slots := 0, locals := 53 } : Room)) (fun aa_ U => aa_ = #[(.ref a), (.int (Int32.ofNat j))] ∧ Z.Warmed39 U.vm ∧ U.heap = h0) (fun _ _ _ _ _ => True) (fun _ U o_ U' => RetG U (Q_scharG Z a b kb cs N j cc fz cz h0 n0) 0 0 U' o_) := by
  refine MetFree.of_bodySF (plainFor_of_name own_pn1) hisR ?_
  intro p e s m args below meth c_ s₁ Bd hml0 hP hK
  obtain ⟨rfl, hZ, hh⟩ := hP
  have hx := Bd.exec
  have hby := Bd.bytes
  have hml : c_.maxLocals = 2 := hml0
  have hown : s.vm.findClass "java/lang/String" = some m.cls := findClass_of_methodNamed Bd.named
  have hnm := (name_of_methodNamed Bd.named Bd.method).1
  have X0 : Stand p l e ({ frames := 4, cells := 0, slots := 0, locals := 53 } : Room) s m #[(.ref a), (.int (Int32.ofNat j))] below meth c_ s₁ [] 0 0 := Stand.of_body Bd
  have e0 : s₁.heap = h0 := by rw [← hh, Bd.state]; rfl
  have N0 := Fr.nil n0
  have w13_ := hw _ (List.mem_of_getElem? (i := 13) rfl)
  have w33_ := hw _ (List.mem_of_getElem? (i := 33) rfl)
  have w70_ := hw _ (List.mem_of_getElem? (i := 70) rfl)
  have w86_ := hw _ (List.mem_of_getElem? (i := 86) rfl)
  have w87_ := hw _ (List.mem_of_getElem? (i := 87) rfl)
  have w88_ := hw _ (List.mem_of_getElem? (i := 88) rfl)
  have w89_ := hw _ (List.mem_of_getElem? (i := 89) rfl)
  have w90_ := hw _ (List.mem_of_getElem? (i := 90) rfl)
  have w91_ := hw _ (List.mem_of_getElem? (i := 91) rfl)
  have w92_ := hw _ (List.mem_of_getElem? (i := 92) rfl)
  have w93_ := hw _ (List.mem_of_getElem? (i := 93) rfl)
  have w94_ := hw _ (List.mem_of_getElem? (i := 94) rfl)
  have w132_ := hw _ (List.mem_of_getElem? (i := 132) rfl)
  have w133_ := hw _ (List.mem_of_getElem? (i := 133) rfl)
  have w134_ := hw _ (List.mem_of_getElem? (i := 134) rfl)
  show Go p e below (RetG s (Q_scharG Z a b kb cs N j cc fz cz h0 n0) 0 0) (s₁.setTop (entryFrame m #[(.ref a), (.int (Int32.ofNat j))] 2))
  rw [show entryFrame m #[(.ref a), (.int (Int32.ofNat j))] 2 = mkF m 0 #[.val (.ref a), .val (.int (Int32.ofNat j))] [] from by first | (simp [entryFrame, mkF, argsToLocals, Value.category]; done) | rfl]
  rcases Dp with ⟨dC, bs, dV, dB⟩ | ⟨dC, bs, dV, dB⟩
  · skip
    refine g_aloadN X0 hx hby d16_0 rfl rfl ?_
    refine g_virtual X0 hx hby hZ hown (rm_islat l Z a0 hw [] a cz h0 n0 Z0 O2 P5 OLD dC) w86_ w87_ (notFace_of_selects (args := #[]) (mvT hZ w89_)) w89_ w88_ w13_ w90_ (by decide) e0 E (by rw [hml]; rfl) [] (lenOf own_pd13 rfl) rfl rfl (Nat.le_of_ble_eq_true rfl) (Nat.le_of_ble_eq_true rfl) (Nat.le_of_ble_eq_true rfl) (Nat.le_of_ble_eq_true rfl) d16_1 (fun v1 T1 L1 X1 hQ1 => ?_)
    obtain ⟨rfl, N1q, eh1⟩ := hQ1
    have N1 := Fr.app N0 N1q
    refine g_ifN X1 hx hby d16_4 (feq (by decide : ¬ ((1 : Int32) = (0 : Int32)))).1 ?_
    refine g_aloadN X1 hx hby d16_7 rfl rfl ?_
    refine g_getF X1 hx hby hZ hown (host := "") (Or.inl w33_) Via.refl eh1 VF d16_8 (fun T2 X2 e2 => ?_)
    refine g_iloadN X2 hx hby d16_11 rfl ?_
    have dj := dB j hj
    rw [hcc] at dj
    refine g_static X2 hx hby hZ hown (rm_lcharG l Z a0 hw [] b kb N j bs cc fz h0 n0 Z0 hN hj dV dj.2 hc dj.1 rfz O4 OLD) w91_ w92_ w93_ w94_ (by decide) e2 (by rw [hml]; rfl) [(.ref b), (.int (Int32.ofNat j))] (lenOf own_pd5 rfl) rfl rfl (Nat.le_of_ble_eq_true rfl) (Nat.le_of_ble_eq_true rfl) (Nat.le_of_ble_eq_true rfl) (Nat.le_of_ble_eq_true rfl) d16_12 (fun v3 T3 L3 X3 hQ3 => ?_)
    obtain ⟨rfl, N3q, eh3⟩ := hQ3
    have N3 := Fr.app N1 N3q
    refine g_nret X3 hx hby (t := .char) (by simp) Bd.returns Bd.notSynchronized d16_15 eh3 (by decide) (by decide) ?_
    show (Q_scharG Z a b kb cs N j cc fz cz h0 n0) (some (.int (nar .char cc))) _ _
    exact ⟨by rw [own_nc16 hc], N3, rfl⟩
  · skip
    refine g_aloadN X0 hx hby d16_0 rfl rfl ?_
    refine g_virtual X0 hx hby hZ hown (rm_islat16 l Z a0 hw [] a cz h0 n0 Z0 O2 P5 OLD dC) w86_ w87_ (notFace_of_selects (args := #[]) (mvT hZ w89_)) w89_ w88_ w13_ w90_ (by decide) e0 E (by rw [hml]; rfl) [] (lenOf own_pd13 rfl) rfl rfl (Nat.le_of_ble_eq_true rfl) (Nat.le_of_ble_eq_true rfl) (Nat.le_of_ble_eq_true rfl) (Nat.le_of_ble_eq_true rfl) d16_1 (fun v4 T4 L4 X4 hQ4 => ?_)
    obtain ⟨rfl, N4q, eh4⟩ := hQ4
    have N4 := Fr.app N0 N4q
    refine g_ifY X4 hx hby 16 d16_4 (teq (by decide : (0 : Int32) = (0 : Int32))).1 (by decide) (by decide) ?_
    refine g_aloadN X4 hx hby d16_16 rfl rfl ?_
    refine g_getF X4 hx hby hZ hown (host := "") (Or.inl w33_) Via.refl eh4 VF d16_17 (fun T5 X5 e5 => ?_)
    refine g_iloadN X5 hx hby d16_20 rfl ?_
    have dj := dB j hj
    rw [hcc] at dj
    refine g_static X5 hx hby hZ hown (rm_ucharG l Z a0 hw [] b kb N j bs cc fz h0 n0 Z0 Uad Uhi Ulo hN hj dV dj.1 dj.2 hc OLD rfz O4) w132_ w133_ w70_ w134_ (by decide) e5 (by rw [hml]; rfl) [(.ref b), (.int (Int32.ofNat j))] (lenOf own_pd5 rfl) rfl rfl (Nat.le_of_ble_eq_true rfl) (Nat.le_of_ble_eq_true rfl) (Nat.le_of_ble_eq_true rfl) (Nat.le_of_ble_eq_true rfl) d16_21 (fun v6 T6 L6 X6 hQ6 => ?_)
    obtain ⟨rfl, N6q, eh6⟩ := hQ6
    have N6 := Fr.app N4 N6q
    refine g_nret X6 hx hby (t := .char) (by simp) Bd.returns Bd.notSynchronized d16_24 eh6 (by decide) (by decide) ?_
    show (Q_scharG Z a b kb cs N j cc fz cz h0 n0) (some (.int (nar .char cc))) _ _
    exact ⟨by rw [own_nc16 hc], N6, rfl⟩

theorem d7_0 : decode prog_35_method_1_code 0 = .ok (.aload_n 0, 1) := by decide +kernel
theorem d7_1 : decode prog_35_method_1_code 1 = .ok (.invokespecial 1, 3) := by decide +kernel
theorem d7_4 : decode prog_35_method_1_code 4 = .ok (.aload_n 0, 1) := by decide +kernel
theorem d7_5 : decode prog_35_method_1_code 5 = .ok (.aload_n 1, 1) := by decide +kernel
theorem d7_6 : decode prog_35_method_1_code 6 = .ok (.putfield 7, 3) := by decide +kernel
theorem d7_9 : decode prog_35_method_1_code 9 = .ok (.return_, 1) := by decide +kernel
theorem own_pn4 : plainName "com/example/pathloom/pathloom/web/MediaType$Reader" = true := by first | (simp [plainName, overriddenIn]; done) | decide +kernel
def Q_rdini (Z : State) (r : Addr) (a : Addr) (h0 : Heap) (n0 : Nat) (v : Option Value) (h : Heap) (L : List Loc) : Prop := v = none ∧ Fr n0 L ∧ Keep h0 h [r] ∧ Exa Z h r "com/example/pathloom/pathloom/web/MediaType$Reader" ∧ Fld Z h r "com/example/pathloom/pathloom/web/MediaType$Reader" "text" "Ljava/lang/String;" (.ref a) ∧ Fld Z h r "com/example/pathloom/pathloom/web/MediaType$Reader" "position" "I" (.int (0 : Int32))
set_option maxRecDepth 65536 in
set_option maxHeartbeats 40000000 in
theorem rm_rdini (l : Launch) (Z : State) (a0 : Array Value) (hw : ∀ d ∈ tables_1, d.before a0 Z = true) (ws : List Jvm.Cond) (r : Addr) (a : Addr) (h0 : Heap) (n0 : Nat) (Z0 : n0 ≤ h0.size) (rE : Exa Z h0 r "com/example/pathloom/pathloom/web/MediaType$Reader") (rT : Fld Z h0 r "com/example/pathloom/pathloom/web/MediaType$Reader" "text" "Ljava/lang/String;" .null) (rP : Fld Z h0 r "com/example/pathloom/pathloom/web/MediaType$Reader" "position" "I" (.int (0 : Int32))) (gr : n0 ≤ r) :
    MetFree l (⟨"com/example/pathloom/pathloom/web/MediaType$Reader", "<init>", "(Ljava/lang/String;)V"⟩ : MethodName) (head1 (Jvm.Cond.code (⟨"com/example/pathloom/pathloom/web/MediaType$Reader", "<init>", "(Ljava/lang/String;)V"⟩ : MethodName) prog_35_method_1_code 2 none :: ws) ({ frames := 1, cells := 0, slots := 0, locals := 12 } : Room)) (fun aa_ U => aa_ = #[(.ref r), (.ref a)] ∧ Z.Warmed39 U.vm ∧ U.heap = h0) (fun _ _ _ _ _ => True) (fun _ U o_ U' => RetG U (Q_rdini Z r a h0 n0) 0 0 U' o_) := by
  refine MetFree.of_bodySF (plainFor_of_name own_pn4) hisR ?_
  intro p e s m args below meth c_ s₁ Bd hml0 hP hK
  obtain ⟨rfl, hZ, hh⟩ := hP
  have hx := Bd.exec
  have hby := Bd.bytes
  have hml : c_.maxLocals = 2 := hml0
  have hown : s.vm.findClass "com/example/pathloom/pathloom/web/MediaType$Reader" = some m.cls := findClass_of_methodNamed Bd.named
  have hnm := (name_of_methodNamed Bd.named Bd.method).1
  have X0 : Stand p l e ({ frames := 1, cells := 0, slots := 0, locals := 12 } : Room) s m #[(.ref r), (.ref a)] below meth c_ s₁ [] 0 0 := Stand.of_body Bd
  have e0 : s₁.heap = h0 := by rw [← hh, Bd.state]; rfl
  have N0 := Fr.nil n0
  have w25_ := hw _ (List.mem_of_getElem? (i := 25) rfl)
  have w26_ := hw _ (List.mem_of_getElem? (i := 26) rfl)
  have w36_ := hw _ (List.mem_of_getElem? (i := 36) rfl)
  have w41_ := hw _ (List.mem_of_getElem? (i := 41) rfl)
  have w42_ := hw _ (List.mem_of_getElem? (i := 42) rfl)
  have w43_ := hw _ (List.mem_of_getElem? (i := 43) rfl)
  have w55_ := hw _ (List.mem_of_getElem? (i := 55) rfl)
  show Go p e below (RetG s (Q_rdini Z r a h0 n0) 0 0) (s₁.setTop (entryFrame m #[(.ref r), (.ref a)] 2))
  rw [show entryFrame m #[(.ref r), (.ref a)] 2 = mkF m 0 #[.val (.ref r), .val (.ref a)] [] from by first | (simp [entryFrame, mkF, argsToLocals, Value.category]; done) | rfl]
  refine g_aloadN X0 hx hby d7_0 rfl rfl ?_
  refine g_initO X0 hx hby hZ hown w41_ w25_ w26_ e0 (by rw [hml]; rfl) (Nat.le_of_ble_eq_true rfl) (Nat.le_of_ble_eq_true rfl) d7_1 (fun T1 X1 e1 => ?_)
  refine g_aloadN X1 hx hby d7_4 rfl rfl ?_
  refine g_aloadN X1 hx hby d7_5 rfl rfl ?_
  refine g_putF X1 hx hby hZ hown (host := "") (Or.inl w42_) Via.refl e1 rT rE (Or.inr ⟨w43_, rfl, hnm⟩) w36_ (.object "java/lang/String") (by decide) rfl rfl N0 gr d7_6 (fun T2 h2 X2 e2 W2 F2 N2 => ?_)
  have f3 := (rE.wr W2)
  have f4 := (rP.other W2 (Or.inr (slot_ne (Or.inl w55_) (Or.inr w43_) (by decide) (t := .int) (t' := (.object "java/lang/String")) (by decide) (by decide))))
  refine g_ret X2 hx hby Bd.returns Bd.notSynchronized d7_9 e2 (by decide) (by decide) ?_
  show (Q_rdini Z r a h0 n0) none _ _
  exact ⟨rfl, N2, ((Keep.refl h0 [r]).wr W2 (Or.inl (List.mem_of_getElem? (i := 0) rfl))), f3, F2, f4⟩

theorem d9_0 : decode prog_35_method_2_code 0 = .ok (.aload_n 0, 1) := by decide +kernel
theorem d9_1 : decode prog_35_method_2_code 1 = .ok (.getfield 13, 3) := by decide +kernel
theorem d9_4 : decode prog_35_method_2_code 4 = .ok (.aload_n 0, 1) := by decide +kernel
theorem d9_5 : decode prog_35_method_2_code 5 = .ok (.getfield 7, 3) := by decide +kernel
theorem d9_8 : decode prog_35_method_2_code 8 = .ok (.invokevirtual 17, 3) := by decide +kernel
theorem own_pd14 : parseMethodDescriptor "()I" = some ⟨[], some .int⟩ := by decide +kernel
theorem d9_11 : decode prog_35_method_2_code 11 = .ok (.if_icmp .ne 7, 3) := by decide +kernel
theorem d9_14 : decode prog_35_method_2_code 14 = .ok (.iconst 1, 1) := by decide +kernel
theorem d9_15 : decode prog_35_method_2_code 15 = .ok (.goto 4, 3) := by decide +kernel
theorem d9_19 : decode prog_35_method_2_code 19 = .ok (.ireturn, 1) := by decide +kernel
theorem d9_18 : decode prog_35_method_2_code 18 = .ok (.iconst 0, 1) := by decide +kernel
def Q_rdend (Z : State) (r : Addr) (a : Addr) (b : Addr) (kb : ClassId) (cs : List Int32) (N : Nat) (q : Int32) (cz : Int32) (h0 : Heap) (n0 : Nat) (v : Option Value) (h : Heap) (L : List Loc) : Prop := v = some (.int (if q = Int32.ofNat N then 1 else 0 : Int32)) ∧ Fr n0 L ∧ h = h0
set_option maxRecDepth 65536 in
set_option maxHeartbeats 40000000 in
theorem rm_rdend (l : Launch) (Z : State) (a0 : Array Value) (hw : ∀ d ∈ tables_1, d.before a0 Z = true) (ws : List Jvm.Cond) (r : Addr) (a : Addr) (b : Addr) (kb : ClassId) (cs : List Int32) (N : Nat) (q : Int32) (cz : Int32) (h0 : Heap) (n0 : Nat) (Z0 : n0 ≤ h0.size) (O2 : Sta Z Z.heap "java/lang/String" "COMPACT_STRINGS" "Z" (.int cz)) (P5 : ¬ cz = (0 : Int32)) (OLD : Old Z n0 h0) (E : Exa Z h0 a "java/lang/String") (VF : Fld Z h0 a "java/lang/String" "value" "[B" (.ref b)) (Dp : own_D Z h0 a b kb cs N) (hcl : cs.length = N) (hN : N ≤ 4) (rE : Exa Z h0 r "com/example/pathloom/pathloom/web/MediaType$Reader") (rT : Fld Z h0 r "com/example/pathloom/pathloom/web/MediaType$Reader" "text" "Ljava/lang/String;" (.ref a)) (rP : Fld Z h0 r "com/example/pathloom/pathloom/web/MediaType$Reader" "position" "I" (.int q)) :
    MetFree l (⟨"com/example/pathloom/pathloom/web/MediaType$Reader", "atEnd", "()Z"⟩ : MethodName) (head1 (Jvm.Cond.code (⟨"com/example/pathloom/pathloom/web/MediaType$Reader", "atEnd", "()Z"⟩ : MethodName) prog_35_method_2_code 1 (some .boolean) :: ws) ({ frames := 2, cells := 0, slots := 0, locals := 26 } : Room)) (fun aa_ U => aa_ = #[(.ref r)] ∧ Z.Warmed39 U.vm ∧ U.heap = h0) (fun _ _ _ _ _ => True) (fun _ U o_ U' => RetG U (Q_rdend Z r a b kb cs N q cz h0 n0) 0 0 U' o_) := by
  refine MetFree.of_bodySF (plainFor_of_name own_pn4) hisR ?_
  intro p e s m args below meth c_ s₁ Bd hml0 hP hK
  obtain ⟨rfl, hZ, hh⟩ := hP
  have hx := Bd.exec
  have hby := Bd.bytes
  have hml : c_.maxLocals = 1 := hml0
  have hown : s.vm.findClass "com/example/pathloom/pathloom/web/MediaType$Reader" = some m.cls := findClass_of_methodNamed Bd.named
  have hnm := (name_of_methodNamed Bd.named Bd.method).1
  have X0 : Stand p l e ({ frames := 2, cells := 0, slots := 0, locals := 26 } : Room) s m #[(.ref r)] below meth c_ s₁ [] 0 0 := Stand.of_body Bd
  have e0 : s₁.heap = h0 := by rw [← hh, Bd.state]; rfl
  have N0 := Fr.nil n0
  have w13_ := hw _ (List.mem_of_getElem? (i := 13) rfl)
  have w42_ := hw _ (List.mem_of_getElem? (i := 42) rfl)
  have w54_ := hw _ (List.mem_of_getElem? (i := 54) rfl)
  have w56_ := hw _ (List.mem_of_getElem? (i := 56) rfl)
  have w57_ := hw _ (List.mem_of_getElem? (i := 57) rfl)
  have w58_ := hw _ (List.mem_of_getElem? (i := 58) rfl)
  have w59_ := hw _ (List.mem_of_getElem? (i := 59) rfl)
  have w60_ := hw _ (List.mem_of_getElem? (i := 60) rfl)
  show Go p e below (RetG s (Q_rdend Z r a b kb cs N q cz h0 n0) 0 0) (s₁.setTop (entryFrame m #[(.ref r)] 1))
  rw [show entryFrame m #[(.ref r)] 1 = mkF m 0 #[.val (.ref r)] [] from by first | (simp [entryFrame, mkF, argsToLocals, Value.category]; done) | rfl]
  refine g_aloadN X0 hx hby d9_0 rfl rfl ?_
  refine g_getF X0 hx hby hZ hown (host := "") (Or.inl w54_) Via.refl e0 rP d9_1 (fun T1 X1 e1 => ?_)
  refine g_aloadN X1 hx hby d9_4 rfl rfl ?_
  refine g_getF X1 hx hby hZ hown (host := "") (Or.inl w42_) Via.refl e1 rT d9_5 (fun T2 X2 e2 => ?_)
  refine g_virtual X2 hx hby hZ hown (rm_slenG l Z a0 hw [] a b kb cs N cz h0 n0 Z0 O2 P5 OLD E VF Dp hcl hN) w56_ w57_ (notFace_of_selects (args := #[]) (mvT hZ w59_)) w59_ w58_ w13_ w60_ (by decide) e2 E (by rw [hml]; rfl) [] (lenOf own_pd14 rfl) rfl rfl (Nat.le_of_ble_eq_true rfl) (Nat.le_of_ble_eq_true rfl) (Nat.le_of_ble_eq_true rfl) (Nat.le_of_ble_eq_true rfl) d9_8 (fun v3 T3 L3 X3 hQ3 => ?_)
  obtain ⟨rfl, N3q, eh3⟩ := hQ3
  have N3 := Fr.app N0 N3q
  by_cases hc11_4 : q = (Int32.ofNat N)
  · skip
    refine g_icN X3 hx hby d9_11 (teq hc11_4).2 ?_
    refine g_iconst X3 hx hby (1 : Int32) d9_14 rfl ?_
    refine g_goto X3 hx hby 19 d9_15 (by decide) (by decide) ?_
    refine g_nret X3 hx hby (t := .boolean) (by simp) Bd.returns Bd.notSynchronized d9_19 eh3 (by decide) (by decide) ?_
    show (Q_rdend Z r a b kb cs N q cz h0 n0) (some (.int (1 : Int32))) _ _
    exact ⟨by rw [if_pos hc11_4], N3, rfl⟩
  · skip
    refine g_icY X3 hx hby 18 d9_11 (feq hc11_4).2 (by decide) (by decide) ?_
    refine g_iconst X3 hx hby (0 : Int32) d9_18 rfl ?_
    refine g_nret X3 hx hby (t := .boolean) (by simp) Bd.returns Bd.notSynchronized d9_19 eh3 (by decide) (by decide) ?_
    show (Q_rdend Z r a b kb cs N q cz h0 n0) (some (.int (0 : Int32))) _ _
    exact ⟨by rw [if_neg hc11_4], N3, rfl⟩

theorem d22_0 : decode prog_35_method_4_code 0 = .ok (.aload_n 0, 1) := by decide +kernel
theorem d22_1 : decode prog_35_method_4_code 1 = .ok (.invokevirtual 23, 3) := by decide +kernel
theorem d22_4 : decode prog_35_method_4_code 4 = .ok (.ifCond .ne 22, 3) := by decide +kernel
theorem d22_7 : decode prog_35_method_4_code 7 = .ok (.aload_n 0, 1) := by decide +kernel
theorem d22_8 : decode prog_35_method_4_code 8 = .ok (.getfield 7, 3) := by decide +kernel
theorem d22_11 : decode prog_35_method_4_code 11 = .ok (.aload_n 0, 1) := by decide +kernel
theorem d22_12 : decode prog_35_method_4_code 12 = .ok (.getfield 13, 3) := by decide +kernel
theorem d22_15 : decode prog_35_method_4_code 15 = .ok (.invokevirtual 27, 3) := by decide +kernel
theorem own_pd15 : parseMethodDescriptor "(I)C" = some ⟨[.int], some .char⟩ := by decide +kernel
theorem d22_18 : decode prog_35_method_4_code 18 = .ok (.iload_n 1, 1) := by decide +kernel
theorem d22_19 : decode prog_35_method_4_code 19 = .ok (.if_icmp .ne 7, 3) := by decide +kernel
theorem d22_22 : decode prog_35_method_4_code 22 = .ok (.iconst 1, 1) := by decide +kernel
theorem d22_23 : decode prog_35_method_4_code 23 = .ok (.goto 4, 3) := by decide +kernel
theorem d22_27 : decode prog_35_method_4_code 27 = .ok (.ireturn, 1) := by decide +kernel
def Q_rdat (Z : State) (r : Addr) (a : Addr) (b : Addr) (kb : ClassId) (cs : List Int32) (N : Nat) (j : Nat) (cc : Int32) (fz : Value) (cz : Int32) (h0 : Heap) (n0 : Nat) (v : Option Value) (h : Heap) (L : List Loc) : Prop := v = some (.int (1 : Int32)) ∧ Fr n0 L ∧ h = h0
set_option maxRecDepth 65536 in
set_option maxHeartbeats 40000000 in
theorem rm_rdat (l : Launch) (Z : State) (a0 : Array Value) (hw : ∀ d ∈ tables_1, d.before a0 Z = true) (ws : List Jvm.Cond) (r : Addr) (a : Addr) (b : Addr) (kb : ClassId) (cs : List Int32) (N : Nat) (j : Nat) (cc : Int32) (fz : Value) (cz : Int32) (h0 : Heap) (n0 : Nat) (Z0 : n0 ≤ h0.size) (O2 : Sta Z Z.heap "java/lang/String" "COMPACT_STRINGS" "Z" (.int cz)) (P5 : ¬ cz = (0 : Int32)) (OLD : Old Z n0 h0) (Uad : Sta Z Z.heap "java/lang/StringUTF16" "$assertionsDisabled" "Z" (.int (1 : Int32))) (Uhi : Sta Z Z.heap "java/lang/StringUTF16" "HI_BYTE_SHIFT" "I" (.int (0 : Int32))) (Ulo : Sta Z Z.heap "java/lang/StringUTF16" "LO_BYTE_SHIFT" "I" (.int (8 : Int32))) (E : Exa Z h0 a "java/lang/String") (VF : Fld Z h0 a "java/lang/String" "value" "[B" (.ref b)) (Dp : own_D Z h0 a b kb cs N) (hcl : cs.length = N) (hN : N ≤ 4) (rE : Exa Z h0 r "com/example/pathloom/pathloom/web/MediaType$Reader") (rT : Fld Z h0 r "com/example/pathloom/pathloom/web/MediaType$Reader" "text" "Ljava/lang/String;" (.ref a)) (rP : Fld Z h0 r "com/example/pathloom/pathloom/web/MediaType$Reader" "position" "I" (.int (Int32.ofNat j))) (hj : j < N) (hcc : cs.getD j 0 = cc) (hc : 0 ≤ cc.toInt ∧ cc.toInt < 65536) (rfz : Rf fz) (O4 : Sta Z Z.heap "jdk/internal/util/Preconditions" "SIOOBE_FORMATTER" "Ljava/util/function/BiFunction;" fz) :
    MetFree l (⟨"com/example/pathloom/pathloom/web/MediaType$Reader", "at", "(C)Z"⟩ : MethodName) (head1 (Jvm.Cond.code (⟨"com/example/pathloom/pathloom/web/MediaType$Reader", "at", "(C)Z"⟩ : MethodName) prog_35_method_4_code 2 (some .boolean) :: ws) ({ frames := 5, cells := 0, slots := 0, locals := 66 } : Room)) (fun aa_ U => aa_ = #[(.ref r), (.int cc)] ∧ Z.Warmed39 U.vm ∧ U.heap = h0) (fun _ _ _ _ _ => True) (fun _ U o_ U' => RetG U (Q_rdat Z r a b kb cs N j cc fz cz h0 n0) 0 0 U' o_) := by
  refine MetFree.of_bodySF (plainFor_of_name own_pn4) hisR ?_
  intro p e s m args below meth c_ s₁ Bd hml0 hP hK
  obtain ⟨rfl, hZ, hh⟩ := hP
  have hx := Bd.exec
  have hby := Bd.bytes
  have hml : c_.maxLocals = 2 := hml0
  have hown : s.vm.findClass "com/example/pathloom/pathloom/web/MediaType$Reader" = some m.cls := findClass_of_methodNamed Bd.named
  have hnm := (name_of_methodNamed Bd.named Bd.method).1
  have X0 : Stand p l e ({ frames := 5, cells := 0, slots := 0, locals := 66 } : Room) s m #[(.ref r), (.int cc)] below meth c_ s₁ [] 0 0 := Stand.of_body Bd
  have e0 : s₁.heap = h0 := by rw [← hh, Bd.state]; rfl
  have N0 := Fr.nil n0
  have w13_ := hw _ (List.mem_of_getElem? (i := 13) rfl)
  have w37_ := hw _ (List.mem_of_getElem? (i := 37) rfl)
  have w42_ := hw _ (List.mem_of_getElem? (i := 42) rfl)
  have w49_ := hw _ (List.mem_of_getElem? (i := 49) rfl)
  have w50_ := hw _ (List.mem_of_getElem? (i := 50) rfl)
  have w51_ := hw _ (List.mem_of_getElem? (i := 51) rfl)
  have w52_ := hw _ (List.mem_of_getElem? (i := 52) rfl)
  have w53_ := hw _ (List.mem_of_getElem? (i := 53) rfl)
  have w54_ := hw _ (List.mem_of_getElem? (i := 54) rfl)
  have w81_ := hw _ (List.mem_of_getElem? (i := 81) rfl)
  have w82_ := hw _ (List.mem_of_getElem? (i := 82) rfl)
  have w83_ := hw _ (List.mem_of_getElem? (i := 83) rfl)
  have w84_ := hw _ (List.mem_of_getElem? (i := 84) rfl)
  have w85_ := hw _ (List.mem_of_getElem? (i := 85) rfl)
  show Go p e below (RetG s (Q_rdat Z r a b kb cs N j cc fz cz h0 n0) 0 0) (s₁.setTop (entryFrame m #[(.ref r), (.int cc)] 2))
  rw [show entryFrame m #[(.ref r), (.int cc)] 2 = mkF m 0 #[.val (.ref r), .val (.int cc)] [] from by first | (simp [entryFrame, mkF, argsToLocals, Value.category]; done) | rfl]
  refine g_aloadN X0 hx hby d22_0 rfl rfl ?_
  refine g_virtual X0 hx hby hZ hown (rm_rdend l Z a0 hw [] r a b kb cs N (Int32.ofNat j) cz h0 n0 Z0 O2 P5 OLD E VF Dp hcl hN rE rT rP) w49_ w50_ (notFace_of_selects (args := #[]) (mvT hZ w52_)) w52_ w51_ w37_ w53_ (by decide) e0 rE (by rw [hml]; rfl) [] (lenOf own_pd13 rfl) rfl rfl (Nat.le_of_ble_eq_true rfl) (Nat.le_of_ble_eq_true rfl) (Nat.le_of_ble_eq_true rfl) (Nat.le_of_ble_eq_true rfl) d22_1 (fun v1 T1 L1 X1 hQ1 => ?_)
  obtain ⟨rfl, N1q, eh1⟩ := hQ1
  have N1 := Fr.app N0 N1q
  refine g_topI (T := T1) (0 : Int32) (if_neg (own_ne2 (by omega) (by omega) (by omega))) ?_
  refine g_ifN X1 hx hby d22_4 (teq (by decide : (0 : Int32) = (0 : Int32))).2 ?_
  refine g_aloadN X1 hx hby d22_7 rfl rfl ?_
  refine g_getF X1 hx hby hZ hown (host := "") (Or.inl w42_) Via.refl eh1 rT d22_8 (fun T2 X2 e2 => ?_)
  refine g_aloadN X2 hx hby d22_11 rfl rfl ?_
  refine g_getF X2 hx hby hZ hown (host := "") (Or.inl w54_) Via.refl e2 rP d22_12 (fun T3 X3 e3 => ?_)
  refine g_virtual X3 hx hby hZ hown (rm_scharG l Z a0 hw [] a b kb cs N j cc fz cz h0 n0 Z0 O2 P5 OLD Uad Uhi Ulo E VF Dp hcl hN hj hcc hc rfz O4) w81_ w82_ (notFace_of_selects (args := #[]) (mvT hZ w84_)) w84_ w83_ w13_ w85_ (by decide) e3 E (by rw [hml]; rfl) [(.int (Int32.ofNat j))] (lenOf own_pd15 rfl) rfl rfl (Nat.le_of_ble_eq_true rfl) (Nat.le_of_ble_eq_true rfl) (Nat.le_of_ble_eq_true rfl) (Nat.le_of_ble_eq_true rfl) d22_15 (fun v4 T4 L4 X4 hQ4 => ?_)
  obtain ⟨rfl, N4q, eh4⟩ := hQ4
  have N4 := Fr.app N1 N4q
  refine g_iloadN X4 hx hby d22_18 rfl ?_
  refine g_icN X4 hx hby d22_19 (teq (rfl : cc = cc)).2 ?_
  refine g_iconst X4 hx hby (1 : Int32) d22_22 rfl ?_
  refine g_goto X4 hx hby 27 d22_23 (by decide) (by decide) ?_
  refine g_nret X4 hx hby (t := .boolean) (by simp) Bd.returns Bd.notSynchronized d22_27 eh4 (by decide) (by decide) ?_
  show (Q_rdat Z r a b kb cs N j cc fz cz h0 n0) (some (.int (1 : Int32))) _ _
  exact ⟨rfl, N4, rfl⟩

theorem d21_0 : decode prog_35_method_5_code 0 = .ok (.aload_n 0, 1) := by decide +kernel
theorem d21_1 : decode prog_35_method_5_code 1 = .ok (.iload_n 1, 1) := by decide +kernel
theorem d21_2 : decode prog_35_method_5_code 2 = .ok (.invokevirtual 31, 3) := by decide +kernel
theorem own_pd16 : parseMethodDescriptor "(C)Z" = some ⟨[.char], some .boolean⟩ := by decide +kernel
theorem d21_5 : decode prog_35_method_5_code 5 = .ok (.istore_n 2, 1) := by decide +kernel
theorem d21_6 : decode prog_35_method_5_code 6 = .ok (.iload_n 2, 1) := by decide +kernel
theorem d21_7 : decode prog_35_method_5_code 7 = .ok (.ifCond .eq 13, 3) := by decide +kernel
theorem d21_10 : decode prog_35_method_5_code 10 = .ok (.aload_n 0, 1) := by decide +kernel
theorem d21_11 : decode prog_35_method_5_code 11 = .ok (.dup, 1) := by decide +kernel
theorem d21_12 : decode prog_35_method_5_code 12 = .ok (.getfield 13, 3) := by decide +kernel
theorem d21_15 : decode prog_35_method_5_code 15 = .ok (.iconst 1, 1) := by decide +kernel
theorem d21_16 : decode prog_35_method_5_code 16 = .ok (.iadd, 1) := by decide +kernel
theorem d21_17 : decode prog_35_method_5_code 17 = .ok (.putfield 13, 3) := by decide +kernel
theorem d21_20 : decode prog_35_method_5_code 20 = .ok (.iload_n 2, 1) := by decide +kernel
theorem d21_21 : decode prog_35_method_5_code 21 = .ok (.ireturn, 1) := by decide +kernel
def Q_rdtake (Z : State) (r : Addr) (a : Addr) (b : Addr) (kb : ClassId) (cs : List Int32) (N : Nat) (j : Nat) (cc : Int32) (fz : Value) (cz : Int32) (h0 : Heap) (n0 : Nat) (v : Option Value) (h : Heap) (L : List Loc) : Prop := v = some (.int (1 : Int32)) ∧ Fr n0 L ∧ Keep h0 h [r] ∧ Exa Z h r "com/example/pathloom/pathloom/web/MediaType$Reader" ∧ Fld Z h r "com/example/pathloom/pathloom/web/MediaType$Reader" "text" "Ljava/lang/String;" (.ref a) ∧ Fld Z h r "com/example/pathloom/pathloom/web/MediaType$Reader" "position" "I" (.int (Int32.ofNat (j + 1)))
set_option maxRecDepth 65536 in
set_option maxHeartbeats 40000000 in
theorem rm_rdtake (l : Launch) (Z : State) (a0 : Array Value) (hw : ∀ d ∈ tables_1, d.before a0 Z = true) (ws : List Jvm.Cond) (r : Addr) (a : Addr) (b : Addr) (kb : ClassId) (cs : List Int32) (N : Nat) (j : Nat) (cc : Int32) (fz : Value) (cz : Int32) (h0 : Heap) (n0 : Nat) (Z0 : n0 ≤ h0.size) (O2 : Sta Z Z.heap "java/lang/String" "COMPACT_STRINGS" "Z" (.int cz)) (P5 : ¬ cz = (0 : Int32)) (OLD : Old Z n0 h0) (Uad : Sta Z Z.heap "java/lang/StringUTF16" "$assertionsDisabled" "Z" (.int (1 : Int32))) (Uhi : Sta Z Z.heap "java/lang/StringUTF16" "HI_BYTE_SHIFT" "I" (.int (0 : Int32))) (Ulo : Sta Z Z.heap "java/lang/StringUTF16" "LO_BYTE_SHIFT" "I" (.int (8 : Int32))) (E : Exa Z h0 a "java/lang/String") (VF : Fld Z h0 a "java/lang/String" "value" "[B" (.ref b)) (Dp : own_D Z h0 a b kb cs N) (hcl : cs.length = N) (hN : N ≤ 4) (rE : Exa Z h0 r "com/example/pathloom/pathloom/web/MediaType$Reader") (rT : Fld Z h0 r "com/example/pathloom/pathloom/web/MediaType$Reader" "text" "Ljava/lang/String;" (.ref a)) (rP : Fld Z h0 r "com/example/pathloom/pathloom/web/MediaType$Reader" "position" "I" (.int (Int32.ofNat j))) (hj : j < N) (hcc : cs.getD j 0 = cc) (hc : 0 ≤ cc.toInt ∧ cc.toInt < 65536) (rfz : Rf fz) (O4 : Sta Z Z.heap "jdk/internal/util/Preconditions" "SIOOBE_FORMATTER" "Ljava/util/function/BiFunction;" fz) (gr : n0 ≤ r) (nra : r ≠ a) (nrb : r ≠ b) :
    MetFree l (⟨"com/example/pathloom/pathloom/web/MediaType$Reader", "take", "(C)Z"⟩ : MethodName) (head1 (Jvm.Cond.code (⟨"com/example/pathloom/pathloom/web/MediaType$Reader", "take", "(C)Z"⟩ : MethodName) prog_35_method_5_code 3 (some .boolean) :: ws) ({ frames := 6, cells := 0, slots := 0, locals := 79 } : Room)) (fun aa_ U => aa_ = #[(.ref r), (.int cc)] ∧ Z.Warmed39 U.vm ∧ U.heap = h0) (fun _ _ _ _ _ => True) (fun _ U o_ U' => RetG U (Q_rdtake Z r a b kb cs N j cc fz cz h0 n0) 0 0 U' o_) := by
  refine MetFree.of_bodySF (plainFor_of_name own_pn4) hisR ?_
  intro p e s m args below meth c_ s₁ Bd hml0 hP hK
  obtain ⟨rfl, hZ, hh⟩ := hP
  have hx := Bd.exec
  have hby := Bd.bytes
  have hml : c_.maxLocals = 3 := hml0
  have hown : s.vm.findClass "com/example/pathloom/pathloom/web/MediaType$Reader" = some m.cls := findClass_of_methodNamed Bd.named
  have hnm := (name_of_methodNamed Bd.named Bd.method).1
  have X0 : Stand p l e ({ frames := 6, cells := 0, slots := 0, locals := 79 } : Room) s m #[(.ref r), (.int cc)] below meth c_ s₁ [] 0 0 := Stand.of_body Bd
  have e0 : s₁.heap = h0 := by rw [← hh, Bd.state]; rfl
  have N0 := Fr.nil n0
  have w36_ := hw _ (List.mem_of_getElem? (i := 36) rfl)
  have w37_ := hw _ (List.mem_of_getElem? (i := 37) rfl)
  have w43_ := hw _ (List.mem_of_getElem? (i := 43) rfl)
  have w54_ := hw _ (List.mem_of_getElem? (i := 54) rfl)
  have w55_ := hw _ (List.mem_of_getElem? (i := 55) rfl)
  have w108_ := hw _ (List.mem_of_getElem? (i := 108) rfl)
  have w109_ := hw _ (List.mem_of_getElem? (i := 109) rfl)
  have w110_ := hw _ (List.mem_of_getElem? (i := 110) rfl)
  have w111_ := hw _ (List.mem_of_getElem? (i := 111) rfl)
  have w112_ := hw _ (List.mem_of_getElem? (i := 112) rfl)
  show Go p e below (RetG s (Q_rdtake Z r a b kb cs N j cc fz cz h0 n0) 0 0) (s₁.setTop (entryFrame m #[(.ref r), (.int cc)] 3))
  rw [show entryFrame m #[(.ref r), (.int cc)] 3 = mkF m 0 #[.val (.ref r), .val (.int cc), .unset] [] from by first | (simp [entryFrame, mkF, argsToLocals, Value.category]; done) | rfl]
  refine g_aloadN X0 hx hby d21_0 rfl rfl ?_
  refine g_iloadN X0 hx hby d21_1 rfl ?_
  refine g_virtual X0 hx hby hZ hown (rm_rdat l Z a0 hw [] r a b kb cs N j cc fz cz h0 n0 Z0 O2 P5 OLD Uad Uhi Ulo E VF Dp hcl hN rE rT rP hj hcc hc rfz O4) w108_ w109_ (notFace_of_selects (args := #[]) (mvT hZ w111_)) w111_ w110_ w37_ w112_ (by decide) e0 rE (by rw [hml]; rfl) [(.int cc)] (lenOf own_pd16 rfl) rfl rfl (Nat.le_of_ble_eq_true rfl) (Nat.le_of_ble_eq_true rfl) (Nat.le_of_ble_eq_true rfl) (Nat.le_of_ble_eq_true rfl) d21_2 (fun v1 T1 L1 X1 hQ1 => ?_)
  obtain ⟨rfl, N1q, eh1⟩ := hQ1
  have N1 := Fr.app N0 N1q
  refine g_istoreN X1 hx hby d21_5 (l' := #[.val (.ref r), .val (.int cc), .val (.int (1 : Int32))]) rfl ?_
  refine g_iloadN X1 hx hby d21_6 rfl ?_
  refine g_ifN X1 hx hby d21_7 (feq (by decide : ¬ ((1 : Int32) = (0 : Int32)))).1 ?_
  refine g_aloadN X1 hx hby d21_10 rfl rfl ?_
  refine g_dup X1 hx hby d21_11 rfl ?_
  refine g_getF X1 hx hby hZ hown (host := "") (Or.inl w54_) Via.refl eh1 rP d21_12 (fun T2 X2 e2 => ?_)
  refine g_iconst X2 hx hby (1 : Int32) d21_15 rfl ?_
  refine g_iadd X2 hx hby d21_16 ?_
  refine g_putF X2 hx hby hZ hown (host := "") (Or.inl w54_) Via.refl e2 rP rE (Or.inl w55_) w36_ .int (by decide) rfl rfl N1 gr d21_17 (fun T3 h3 X3 e3 W3 F3 N3 => ?_)
  refine g_iloadN X3 hx hby d21_20 rfl ?_
  have f4 := (rE.wr W3)
  have f5 := (rT.other W3 (Or.inr (slot_ne (Or.inr w43_) (Or.inl w55_) (by decide) (t := (.object "java/lang/String")) (t' := .int) (by decide) (by decide))))
  refine g_nret X3 hx hby (t := .boolean) (by simp) Bd.returns Bd.notSynchronized d21_21 e3 (by decide) (by decide) ?_
  show (Q_rdtake Z r a b kb cs N j cc fz cz h0 n0) (some (.int (1 : Int32))) _ _
  exact ⟨rfl, N3, ((Keep.refl h0 [r]).wr W3 (Or.inl (List.mem_of_getElem? (i := 0) rfl))), f4, f5, own_up j ▸ F3⟩

theorem d8_0 : decode prog_35_method_3_code 0 = .ok (.aload_n 0, 1) := by decide +kernel
theorem d8_1 : decode prog_35_method_3_code 1 = .ok (.invokevirtual 23, 3) := by decide +kernel
theorem d8_4 : decode prog_35_method_3_code 4 = .ok (.ifCond .ne 48, 3) := by decide +kernel
theorem d8_52 : decode prog_35_method_3_code 52 = .ok (.iconst 1, 1) := by decide +kernel
theorem d8_53 : decode prog_35_method_3_code 53 = .ok (.ireturn, 1) := by decide +kernel
theorem d8_7 : decode prog_35_method_3_code 7 = .ok (.aload_n 0, 1) := by decide +kernel
theorem d8_8 : decode prog_35_method_3_code 8 = .ok (.getfield 7, 3) := by decide +kernel
theorem d8_11 : decode prog_35_method_3_code 11 = .ok (.aload_n 0, 1) := by decide +kernel
theorem d8_12 : decode prog_35_method_3_code 12 = .ok (.getfield 13, 3) := by decide +kernel
theorem d8_15 : decode prog_35_method_3_code 15 = .ok (.invokevirtual 27, 3) := by decide +kernel
theorem d8_18 : decode prog_35_method_3_code 18 = .ok (.bipush 32, 2) := by decide +kernel
theorem d8_20 : decode prog_35_method_3_code 20 = .ok (.if_icmp .eq 19, 3) := by decide +kernel
theorem d8_39 : decode prog_35_method_3_code 39 = .ok (.aload_n 0, 1) := by decide +kernel
theorem d8_40 : decode prog_35_method_3_code 40 = .ok (.dup, 1) := by decide +kernel
theorem d8_41 : decode prog_35_method_3_code 41 = .ok (.getfield 13, 3) := by decide +kernel
theorem d8_44 : decode prog_35_method_3_code 44 = .ok (.iconst 1, 1) := by decide +kernel
theorem d8_45 : decode prog_35_method_3_code 45 = .ok (.iadd, 1) := by decide +kernel
theorem d8_46 : decode prog_35_method_3_code 46 = .ok (.putfield 13, 3) := by decide +kernel
theorem d8_49 : decode prog_35_method_3_code 49 = .ok (.goto (-49), 3) := by decide +kernel
theorem d8_23 : decode prog_35_method_3_code 23 = .ok (.aload_n 0, 1) := by decide +kernel
theorem d8_24 : decode prog_35_method_3_code 24 = .ok (.getfield 7, 3) := by decide +kernel
theorem d8_27 : decode prog_35_method_3_code 27 = .ok (.aload_n 0, 1) := by decide +kernel
theorem d8_28 : decode prog_35_method_3_code 28 = .ok (.getfield 13, 3) := by decide +kernel
theorem d8_31 : decode prog_35_method_3_code 31 = .ok (.invokevirtual 27, 3) := by decide +kernel
theorem d8_34 : decode prog_35_method_3_code 34 = .ok (.bipush 9, 2) := by decide +kernel
theorem d8_36 : decode prog_35_method_3_code 36 = .ok (.if_icmp .ne 16, 3) := by decide +kernel
def Q_rdskip (Z : State) (r : Addr) (a : Addr) (b : Addr) (kb : ClassId) (cs : List Int32) (N : Nat) (j0 : Nat) (fz : Value) (cz : Int32) (h0 : Heap) (n0 : Nat) (v : Option Value) (h : Heap) (L : List Loc) : Prop := v = some (.int (1 : Int32)) ∧ Fr n0 L ∧ Keep h0 h [r] ∧ Exa Z h r "com/example/pathloom/pathloom/web/MediaType$Reader" ∧ Fld Z h r "com/example/pathloom/pathloom/web/MediaType$Reader" "text" "Ljava/lang/String;" (.ref a) ∧ Fld Z h r "com/example/pathloom/pathloom/web/MediaType$Reader" "position" "I" (.int (Int32.ofNat (own_sk (N - j0) cs j0)))
set_option maxRecDepth 65536 in
set_option maxHeartbeats 40000000 in
theorem rm_rdskip (l : Launch) (Z : State) (a0 : Array Value) (hw : ∀ d ∈ tables_1, d.before a0 Z = true) (ws : List Jvm.Cond) (r : Addr) (a : Addr) (b : Addr) (kb : ClassId) (cs : List Int32) (N : Nat) (j0 : Nat) (fz : Value) (cz : Int32) (h0 : Heap) (n0 : Nat) (Z0 : n0 ≤ h0.size) (O2 : Sta Z Z.heap "java/lang/String" "COMPACT_STRINGS" "Z" (.int cz)) (P5 : ¬ cz = (0 : Int32)) (OLD : Old Z n0 h0) (Uad : Sta Z Z.heap "java/lang/StringUTF16" "$assertionsDisabled" "Z" (.int (1 : Int32))) (Uhi : Sta Z Z.heap "java/lang/StringUTF16" "HI_BYTE_SHIFT" "I" (.int (0 : Int32))) (Ulo : Sta Z Z.heap "java/lang/StringUTF16" "LO_BYTE_SHIFT" "I" (.int (8 : Int32))) (E : Exa Z h0 a "java/lang/String") (VF : Fld Z h0 a "java/lang/String" "value" "[B" (.ref b)) (Dp : own_D Z h0 a b kb cs N) (hcl : cs.length = N) (hN : N ≤ 4) (hr : ∀ i, i < N → 0 ≤ (cs.getD i 0).toInt ∧ (cs.getD i 0).toInt < 65536) (rE : Exa Z h0 r "com/example/pathloom/pathloom/web/MediaType$Reader") (rT : Fld Z h0 r "com/example/pathloom/pathloom/web/MediaType$Reader" "text" "Ljava/lang/String;" (.ref a)) (rP : Fld Z h0 r "com/example/pathloom/pathloom/web/MediaType$Reader" "position" "I" (.int (Int32.ofNat j0))) (hj0 : j0 ≤ N) (rfz : Rf fz) (O4 : Sta Z Z.heap "jdk/internal/util/Preconditions" "SIOOBE_FORMATTER" "Ljava/util/function/BiFunction;" fz) (gr : n0 ≤ r) (nra : r ≠ a) (nrb : r ≠ b) :
    MetFree l (⟨"com/example/pathloom/pathloom/web/MediaType$Reader", "skipSpace", "()Z"⟩ : MethodName) (head1 (Jvm.Cond.code (⟨"com/example/pathloom/pathloom/web/MediaType$Reader", "skipSpace", "()Z"⟩ : MethodName) prog_35_method_3_code 1 (some .boolean) :: ws) ({ frames := 5, cells := 0, slots := 0, locals := 66 } : Room)) (fun aa_ U => aa_ = #[(.ref r)] ∧ Z.Warmed39 U.vm ∧ U.heap = h0) (fun _ _ _ _ _ => True) (fun _ U o_ U' => RetG U (Q_rdskip Z r a b kb cs N j0 fz cz h0 n0) 0 0 U' o_) := by
  refine MetFree.of_bodySF (plainFor_of_name own_pn4) hisR ?_
  intro p e s m args below meth c_ s₁ Bd hml0 hP hK
  obtain ⟨rfl, hZ, hh⟩ := hP
  have hx := Bd.exec
  have hby := Bd.bytes
  have hml : c_.maxLocals = 1 := hml0
  have hown : s.vm.findClass "com/example/pathloom/pathloom/web/MediaType$Reader" = some m.cls := findClass_of_methodNamed Bd.named
  have hnm := (name_of_methodNamed Bd.named Bd.method).1
  have X0 : Stand p l e ({ frames := 5, cells := 0, slots := 0, locals := 66 } : Room) s m #[(.ref r)] below meth c_ s₁ [] 0 0 := Stand.of_body Bd
  have e0 : s₁.heap = h0 := by rw [← hh, Bd.state]; rfl
  have N0 := Fr.nil n0
  have w13_ := hw _ (List.mem_of_getElem? (i := 13) rfl)
  have w36_ := hw _ (List.mem_of_getElem? (i := 36) rfl)
  have w37_ := hw _ (List.mem_of_getElem? (i := 37) rfl)
  have w42_ := hw _ (List.mem_of_getElem? (i := 42) rfl)
  have w43_ := hw _ (List.mem_of_getElem? (i := 43) rfl)
  have w49_ := hw _ (List.mem_of_getElem? (i := 49) rfl)
  have w50_ := hw _ (List.mem_of_getElem? (i := 50) rfl)
  have w51_ := hw _ (List.mem_of_getElem? (i := 51) rfl)
  have w52_ := hw _ (List.mem_of_getElem? (i := 52) rfl)
  have w53_ := hw _ (List.mem_of_getElem? (i := 53) rfl)
  have w54_ := hw _ (List.mem_of_getElem? (i := 54) rfl)
  have w55_ := hw _ (List.mem_of_getElem? (i := 55) rfl)
  have w81_ := hw _ (List.mem_of_getElem? (i := 81) rfl)
  have w82_ := hw _ (List.mem_of_getElem? (i := 82) rfl)
  have w83_ := hw _ (List.mem_of_getElem? (i := 83) rfl)
  have w84_ := hw _ (List.mem_of_getElem? (i := 84) rfl)
  have w85_ := hw _ (List.mem_of_getElem? (i := 85) rfl)
  show Go p e below (RetG s (Q_rdskip Z r a b kb cs N j0 fz cz h0 n0) 0 0) (s₁.setTop (entryFrame m #[(.ref r)] 1))
  rw [show entryFrame m #[(.ref r)] 1 = mkF m 0 #[.val (.ref r)] [] from by first | (simp [entryFrame, mkF, argsToLocals, Value.category]; done) | rfl]
  have loop : ∀ (kk j : Nat)  (T9 : State) (locs9 : List Loc) (h9 : Heap), j + kk = N → Stand p l e ({ frames := 5, cells := 0, slots := 0, locals := 66 } : Room) s m #[(.ref r)] below meth c_ T9 locs9 0 0 → T9.heap = h9 → Fr n0 locs9 → Keep h0 h9 [r] → (Old Z n0 h9) → (Exa Z h9 r "com/example/pathloom/pathloom/web/MediaType$Reader") → (Fld Z h9 r "com/example/pathloom/pathloom/web/MediaType$Reader" "text" "Ljava/lang/String;" (.ref a)) → (Fld Z h9 r "com/example/pathloom/pathloom/web/MediaType$Reader" "position" "I" (.int (Int32.ofNat j))) → (Exa Z h9 a "java/lang/String") → (Fld Z h9 a "java/lang/String" "value" "[B" (.ref b)) → (own_D Z h9 a b kb cs N) → (own_sk kk cs j = own_sk (N - j0) cs j0) →  Go p e below (RetG s (Q_rdskip Z r a b kb cs N j0 fz cz h0 n0) 0 0) (T9.setTop (mkF m 0 #[.val (.ref r)] [])) := by
    intro kk
    induction kk with
    | zero =>
      intro j  T9 locs9 h9 hj X9 e9 N9 K9 OL9 rE9 rT9 rP9 E9 VF9 D9 hs9
      have z9 : n0 ≤ h9.size := Nat.le_trans Z0 K9.1
      obtain rfl : N = j := by omega
      refine g_aloadN X9 hx hby d8_0 rfl rfl ?_
      refine g_virtual X9 hx hby hZ hown (rm_rdend l Z a0 hw [] r a b kb cs N (Int32.ofNat N) cz h9 n0 z9 O2 P5 OL9 E9 VF9 D9 hcl hN rE9 rT9 rP9) w49_ w50_ (notFace_of_selects (args := #[]) (mvT hZ w52_)) w52_ w51_ w37_ w53_ (by decide) e9 rE9 (by rw [hml]; rfl) [] (lenOf own_pd13 rfl) rfl rfl (Nat.le_of_ble_eq_true rfl) (Nat.le_of_ble_eq_true rfl) (Nat.le_of_ble_eq_true rfl) (Nat.le_of_ble_eq_true rfl) d8_1 (fun v1 T1 L1 X1 hQ1 => ?_)
      obtain ⟨rfl, N1q, eh1⟩ := hQ1
      have N1 := Fr.app N9 N1q
      refine g_topI (T := T1) (1 : Int32) (if_pos rfl) ?_
      refine g_ifY X1 hx hby 52 d8_4 (feq (by decide : ¬ ((1 : Int32) = (0 : Int32)))).2 (by decide) (by decide) ?_
      refine g_iconst X1 hx hby (1 : Int32) d8_52 rfl ?_
      refine g_nret X1 hx hby (t := .boolean) (by simp) Bd.returns Bd.notSynchronized d8_53 eh1 (by decide) (by decide) ?_
      show (Q_rdskip Z r a b kb cs N j0 fz cz h0 n0) (some (.int (1 : Int32))) _ _
      exact ⟨rfl, N1, K9, rE9, rT9, by rw [← hs9]; exact rP9⟩
    | succ kk ih =>
      intro j  T9 locs9 h9 hj X9 e9 N9 K9 OL9 rE9 rT9 rP9 E9 VF9 D9 hs9
      have z9 : n0 ≤ h9.size := Nat.le_trans Z0 K9.1
      refine g_aloadN X9 hx hby d8_0 rfl rfl ?_
      refine g_virtual X9 hx hby hZ hown (rm_rdend l Z a0 hw [] r a b kb cs N (Int32.ofNat j) cz h9 n0 z9 O2 P5 OL9 E9 VF9 D9 hcl hN rE9 rT9 rP9) w49_ w50_ (notFace_of_selects (args := #[]) (mvT hZ w52_)) w52_ w51_ w37_ w53_ (by decide) e9 rE9 (by rw [hml]; rfl) [] (lenOf own_pd13 rfl) rfl rfl (Nat.le_of_ble_eq_true rfl) (Nat.le_of_ble_eq_true rfl) (Nat.le_of_ble_eq_true rfl) (Nat.le_of_ble_eq_true rfl) d8_1 (fun v2 T2 L2 X2 hQ2 => ?_)
      obtain ⟨rfl, N2q, eh2⟩ := hQ2
      have N2 := Fr.app N9 N2q
      refine g_topI (T := T2) (0 : Int32) (if_neg (own_ne2 (by omega) (by omega) (by omega))) ?_
      refine g_ifN X2 hx hby d8_4 (teq (by decide : (0 : Int32) = (0 : Int32))).2 ?_
      refine g_aloadN X2 hx hby d8_7 rfl rfl ?_
      refine g_getF X2 hx hby hZ hown (host := "") (Or.inl w42_) Via.refl eh2 rT9 d8_8 (fun T3 X3 e3 => ?_)
      refine g_aloadN X3 hx hby d8_11 rfl rfl ?_
      refine g_getF X3 hx hby hZ hown (host := "") (Or.inl w54_) Via.refl e3 rP9 d8_12 (fun T4 X4 e4 => ?_)
      refine g_virtual X4 hx hby hZ hown (rm_scharG l Z a0 hw [] a b kb cs N j (cs.getD j 0) fz cz h9 n0 z9 O2 P5 OL9 Uad Uhi Ulo E9 VF9 D9 hcl hN (by omega) rfl (hr j (by omega)) rfz O4) w81_ w82_ (notFace_of_selects (args := #[]) (mvT hZ w84_)) w84_ w83_ w13_ w85_ (by decide) e4 E9 (by rw [hml]; rfl) [(.int (Int32.ofNat j))] (lenOf own_pd15 rfl) rfl rfl (Nat.le_of_ble_eq_true rfl) (Nat.le_of_ble_eq_true rfl) (Nat.le_of_ble_eq_true rfl) (Nat.le_of_ble_eq_true rfl) d8_15 (fun v5 T5 L5 X5 hQ5 => ?_)
      obtain ⟨rfl, N5q, eh5⟩ := hQ5
      have N5 := Fr.app N2 N5q
      refine g_bipush X5 hx hby (32 : Int32) d8_18 rfl ?_
      by_cases hc20_6 : (cs.getD j 0) = (32 : Int32)
      · skip
        refine g_icY X5 hx hby 39 d8_20 (teq hc20_6).1 (by decide) (by decide) ?_
        refine g_aloadN X5 hx hby d8_39 rfl rfl ?_
        refine g_dup X5 hx hby d8_40 rfl ?_
        refine g_getF X5 hx hby hZ hown (host := "") (Or.inl w54_) Via.refl eh5 rP9 d8_41 (fun T7 X7 e7 => ?_)
        refine g_iconst X7 hx hby (1 : Int32) d8_44 rfl ?_
        refine g_iadd X7 hx hby d8_45 ?_
        refine g_putF X7 hx hby hZ hown (host := "") (Or.inl w54_) Via.refl e7 rP9 rE9 (Or.inl w55_) w36_ .int (by decide) rfl rfl N5 gr d8_46 (fun T8 h8 X8 e8 W8 F8 N8 => ?_)
        refine g_goto X8 hx hby 0 d8_49 (by decide) (by decide) ?_
        have f9 := (rE9.wr W8)
        have f10 := (rT9.other W8 (Or.inr (slot_ne (Or.inr w43_) (Or.inl w55_) (by decide) (t := (.object "java/lang/String")) (t' := .int) (by decide) (by decide))))
        have f11 := (OL9.wr W8 gr)
        have f12 := (E9.wr W8)
        have f13 := (VF9.other W8 (Or.inl (Ne.symm nra)))
        have f14 := (D9.wr W8 (Ne.symm nra) (Ne.symm nrb))
        exact ih (j + 1) _ _ _ (by omega) X8 e8 N8 (K9.wr W8 (Or.inl (List.mem_of_getElem? (i := 0) rfl))) f11 f9 f10 (own_up j ▸ F8) f12 f13 f14 (by rw [own_sk, if_pos (Or.inl hc20_6)] at hs9; exact hs9)
      · skip
        refine g_icN X5 hx hby d8_20 (feq hc20_6).1 ?_
        refine g_aloadN X5 hx hby d8_23 rfl rfl ?_
        refine g_getF X5 hx hby hZ hown (host := "") (Or.inl w42_) Via.refl eh5 rT9 d8_24 (fun T15 X15 e15 => ?_)
        refine g_aloadN X15 hx hby d8_27 rfl rfl ?_
        refine g_getF X15 hx hby hZ hown (host := "") (Or.inl w54_) Via.refl e15 rP9 d8_28 (fun T16 X16 e16 => ?_)
        refine g_virtual X16 hx hby hZ hown (rm_scharG l Z a0 hw [] a b kb cs N j (cs.getD j 0) fz cz h9 n0 z9 O2 P5 OL9 Uad Uhi Ulo E9 VF9 D9 hcl hN (by omega) rfl (hr j (by omega)) rfz O4) w81_ w82_ (notFace_of_selects (args := #[]) (mvT hZ w84_)) w84_ w83_ w13_ w85_ (by decide) e16 E9 (by rw [hml]; rfl) [(.int (Int32.ofNat j))] (lenOf own_pd15 rfl) rfl rfl (Nat.le_of_ble_eq_true rfl) (Nat.le_of_ble_eq_true rfl) (Nat.le_of_ble_eq_true rfl) (Nat.le_of_ble_eq_true rfl) d8_31 (fun v17 T17 L17 X17 hQ17 => ?_)
        obtain ⟨rfl, N17q, eh17⟩ := hQ17
        have N17 := Fr.app N5 N17q
        refine g_at 34 rfl rfl rfl ?_
        refine g_bipush X17 hx hby (9 : Int32) d8_34 rfl ?_
        by_cases hc36_18 : (cs.getD j 0) = (9 : Int32)
        · skip
          refine g_icN X17 hx hby d8_36 (teq hc36_18).2 ?_
          refine g_aloadN X17 hx hby d8_39 rfl rfl ?_
          refine g_dup X17 hx hby d8_40 rfl ?_
          refine g_getF X17 hx hby hZ hown (host := "") (Or.inl w54_) Via.refl eh17 rP9 d8_41 (fun T19 X19 e19 => ?_)
          refine g_iconst X19 hx hby (1 : Int32) d8_44 rfl ?_
          refine g_iadd X19 hx hby d8_45 ?_
          refine g_putF X19 hx hby hZ hown (host := "") (Or.inl w54_) Via.refl e19 rP9 rE9 (Or.inl w55_) w36_ .int (by decide) rfl rfl N17 gr d8_46 (fun T20 h20 X20 e20 W20 F20 N20 => ?_)
          refine g_goto X20 hx hby 0 d8_49 (by decide) (by decide) ?_
          have f21 := (rE9.wr W20)
          have f22 := (rT9.other W20 (Or.inr (slot_ne (Or.inr w43_) (Or.inl w55_) (by decide) (t := (.object "java/lang/String")) (t' := .int) (by decide) (by decide))))
          have f23 := (OL9.wr W20 gr)
          have f24 := (E9.wr W20)
          have f25 := (VF9.other W20 (Or.inl (Ne.symm nra)))
          have f26 := (D9.wr W20 (Ne.symm nra) (Ne.symm nrb))
          exact ih (j + 1) _ _ _ (by omega) X20 e20 N20 (K9.wr W20 (Or.inl (List.mem_of_getElem? (i := 0) rfl))) f23 f21 f22 (own_up j ▸ F20) f24 f25 f26 (by rw [own_sk, if_pos (Or.inr hc36_18)] at hs9; exact hs9)
        · skip
          refine g_icY X17 hx hby 52 d8_36 (feq hc36_18).2 (by decide) (by decide) ?_
          refine g_iconst X17 hx hby (1 : Int32) d8_52 rfl ?_
          refine g_nret X17 hx hby (t := .boolean) (by simp) Bd.returns Bd.notSynchronized d8_53 eh17 (by decide) (by decide) ?_
          show (Q_rdskip Z r a b kb cs N j0 fz cz h0 n0) (some (.int (1 : Int32))) _ _
          exact ⟨rfl, N17, K9, rE9, rT9, by rw [← hs9, own_sk, if_neg (fun q => q.elim hc20_6 hc36_18)]; exact rP9⟩
  refine loop (N - j0) j0  _ _ _ (by omega) X0 e0 N0 (Keep.refl h0 [r]) OLD rE rT rP E VF Dp rfl

theorem d2_0 : decode method_2_code 0 = .ok (.iload_n 0, 1) := by decide +kernel
theorem d2_1 : decode method_2_code 1 = .ok (.iconst 3, 1) := by decide +kernel
theorem d2_2 : decode method_2_code 2 = .ok (.iand, 1) := by decide +kernel
theorem d2_3 : decode method_2_code 3 = .ok (.istore_n 1, 1) := by decide +kernel
theorem d2_4 : decode method_2_code 4 = .ok (.iload_n 1, 1) := by decide +kernel
theorem d2_5 : decode method_2_code 5 = .ok (.ifCond .ne 6, 3) := by decide +kernel
theorem d2_8 : decode method_2_code 8 = .ok (.bipush 32, 2) := by decide +kernel
theorem d2_10 : decode method_2_code 10 = .ok (.ireturn, 1) := by decide +kernel
theorem d2_11 : decode method_2_code 11 = .ok (.iload_n 1, 1) := by decide +kernel
theorem d2_12 : decode method_2_code 12 = .ok (.iconst 1, 1) := by decide +kernel
theorem d2_13 : decode method_2_code 13 = .ok (.if_icmp .ne 6, 3) := by decide +kernel
theorem d2_16 : decode method_2_code 16 = .ok (.bipush 9, 2) := by decide +kernel
theorem d2_18 : decode method_2_code 18 = .ok (.ireturn, 1) := by decide +kernel
theorem d2_19 : decode method_2_code 19 = .ok (.iload_n 0, 1) := by decide +kernel
theorem d2_20 : decode method_2_code 20 = .ok (.iconst 2, 1) := by decide +kernel
theorem d2_21 : decode method_2_code 21 = .ok (.iushr, 1) := by decide +kernel
theorem d2_22 : decode method_2_code 22 = .ok (.ldc 7, 2) := by decide +kernel
theorem d2_24 : decode method_2_code 24 = .ok (.iand, 1) := by decide +kernel
theorem d2_25 : decode method_2_code 25 = .ok (.i2c, 1) := by decide +kernel
theorem d2_26 : decode method_2_code 26 = .ok (.ireturn, 1) := by decide +kernel
theorem own_pn5 : plainName "com/example/pathloom/pathloom/web/ReaderSkipSpacePinLaw" = true := by first | (simp [plainName, overriddenIn]; done) | decide +kernel
def Q_pick (Z : State) (x : Int32) (h0 : Heap) (n0 : Nat) (v : Option Value) (h : Heap) (L : List Loc) : Prop := v = some (.int (own_pk x)) ∧ Fr n0 L ∧ h = h0
set_option maxRecDepth 65536 in
set_option maxHeartbeats 40000000 in
theorem rm_pick (l : Launch) (Z : State) (a0 : Array Value) (hw : ∀ d ∈ tables_1, d.before a0 Z = true) (ws : List Jvm.Cond) (x : Int32) (h0 : Heap) (n0 : Nat) (Z0 : n0 ≤ h0.size) :
    MetFree l (⟨"com/example/pathloom/pathloom/web/ReaderSkipSpacePinLaw", "pick", "(I)C"⟩ : MethodName) (head1 (Jvm.Cond.code (⟨"com/example/pathloom/pathloom/web/ReaderSkipSpacePinLaw", "pick", "(I)C"⟩ : MethodName) method_2_code 2 (some .char) :: ws) ({ frames := 0, cells := 0, slots := 0, locals := 0 } : Room)) (fun aa_ U => aa_ = #[(.int x)] ∧ Z.Warmed39 U.vm ∧ U.heap = h0) (fun _ _ _ _ _ => True) (fun _ U o_ U' => RetG U (Q_pick Z x h0 n0) 0 0 U' o_) := by
  refine MetFree.of_bodySF (plainFor_of_name own_pn5) hisR ?_
  intro p e s m args below meth c_ s₁ Bd hml0 hP hK
  obtain ⟨rfl, hZ, hh⟩ := hP
  have hx := Bd.exec
  have hby := Bd.bytes
  have hml : c_.maxLocals = 2 := hml0
  have hown : s.vm.findClass "com/example/pathloom/pathloom/web/ReaderSkipSpacePinLaw" = some m.cls := findClass_of_methodNamed Bd.named
  have hnm := (name_of_methodNamed Bd.named Bd.method).1
  have X0 : Stand p l e ({ frames := 0, cells := 0, slots := 0, locals := 0 } : Room) s m #[(.int x)] below meth c_ s₁ [] 0 0 := Stand.of_body Bd
  have e0 : s₁.heap = h0 := by rw [← hh, Bd.state]; rfl
  have N0 := Fr.nil n0
  have w10_ := hw _ (List.mem_of_getElem? (i := 10) rfl)
  show Go p e below (RetG s (Q_pick Z x h0 n0) 0 0) (s₁.setTop (entryFrame m #[(.int x)] 2))
  rw [show entryFrame m #[(.int x)] 2 = mkF m 0 #[.val (.int x), .unset] [] from by first | (simp [entryFrame, mkF, argsToLocals, Value.category]; done) | rfl]
  refine g_iloadN X0 hx hby d2_0 rfl ?_
  refine g_iconst X0 hx hby (3 : Int32) d2_1 rfl ?_
  refine g_iand X0 hx hby d2_2 ?_
  refine g_istoreN X0 hx hby d2_3 (l' := #[.val (.int x), .val (.int (x &&& (3 : Int32)))]) rfl ?_
  refine g_iloadN X0 hx hby d2_4 rfl ?_
  by_cases hc5_1 : (x &&& (3 : Int32)) = (0 : Int32)
  · skip
    refine g_ifN X0 hx hby d2_5 (teq hc5_1).2 ?_
    refine g_bipush X0 hx hby (32 : Int32) d2_8 rfl ?_
    refine g_nret X0 hx hby (t := .char) (by simp) Bd.returns Bd.notSynchronized d2_10 e0 (by decide) (by decide) ?_
    show (Q_pick Z x h0 n0) (some (.int (32 : Int32))) _ _
    exact ⟨by rw [own_pk, if_pos hc5_1], N0, rfl⟩
  · skip
    refine g_ifY X0 hx hby 11 d2_5 (feq hc5_1).2 (by decide) (by decide) ?_
    refine g_iloadN X0 hx hby d2_11 rfl ?_
    refine g_iconst X0 hx hby (1 : Int32) d2_12 rfl ?_
    by_cases hc13_2 : (x &&& (3 : Int32)) = (1 : Int32)
    · skip
      refine g_icN X0 hx hby d2_13 (teq hc13_2).2 ?_
      refine g_bipush X0 hx hby (9 : Int32) d2_16 rfl ?_
      refine g_nret X0 hx hby (t := .char) (by simp) Bd.returns Bd.notSynchronized d2_18 e0 (by decide) (by decide) ?_
      show (Q_pick Z x h0 n0) (some (.int (9 : Int32))) _ _
      exact ⟨by rw [own_pk, if_neg hc5_1, if_pos hc13_2], N0, rfl⟩
    · skip
      refine g_icY X0 hx hby 19 d2_13 (feq hc13_2).2 (by decide) (by decide) ?_
      refine g_iloadN X0 hx hby d2_19 rfl ?_
      refine g_iconst X0 hx hby (2 : Int32) d2_20 rfl ?_
      refine g_iushr X0 hx hby d2_21 ?_
      refine g_ldcI X0 hx hby hZ hown w10_ d2_22 ?_
      refine g_iand X0 hx hby d2_24 ?_
      refine g_i2c X0 hx hby d2_25 ?_
      refine g_nret X0 hx hby (t := .char) (by simp) Bd.returns Bd.notSynchronized d2_26 e0 (by decide) (by decide) ?_
      show (Q_pick Z x h0 n0) (some (.int (nar .char ((((x.toUInt32 >>> ((2 : Int32) &&& 31).toUInt32).toInt32) &&& (65535 : Int32)).toUInt32.toUInt16.toUInt32.toInt32)))) _ _
      exact ⟨by rw [own_pk, if_neg hc5_1, if_neg hc13_2], N0, rfl⟩

theorem d15_0 : decode method_3_code 0 = .ok (.iload_n 0, 1) := by decide +kernel
theorem d15_1 : decode method_3_code 1 = .ok (.bipush 32, 2) := by decide +kernel
theorem d15_3 : decode method_3_code 3 = .ok (.if_icmp .eq 9, 3) := by decide +kernel
theorem d15_12 : decode method_3_code 12 = .ok (.iconst 1, 1) := by decide +kernel
theorem d15_13 : decode method_3_code 13 = .ok (.goto 4, 3) := by decide +kernel
theorem d15_17 : decode method_3_code 17 = .ok (.ireturn, 1) := by decide +kernel
theorem d15_6 : decode method_3_code 6 = .ok (.iload_n 0, 1) := by decide +kernel
theorem d15_7 : decode method_3_code 7 = .ok (.bipush 9, 2) := by decide +kernel
theorem d15_9 : decode method_3_code 9 = .ok (.if_icmp .ne 7, 3) := by decide +kernel
theorem d15_16 : decode method_3_code 16 = .ok (.iconst 0, 1) := by decide +kernel
def Q_blank (Z : State) (x : Int32) (h0 : Heap) (n0 : Nat) (v : Option Value) (h : Heap) (L : List Loc) : Prop := v = some (.int (own_blk x)) ∧ Fr n0 L ∧ h = h0
set_option maxRecDepth 65536 in
set_option maxHeartbeats 40000000 in
theorem rm_blank (l : Launch) (Z : State) (a0 : Array Value) (hw : ∀ d ∈ tables_1, d.before a0 Z = true) (ws : List Jvm.Cond) (x : Int32) (h0 : Heap) (n0 : Nat) (Z0 : n0 ≤ h0.size) :
    MetFree l (⟨"com/example/pathloom/pathloom/web/ReaderSkipSpacePinLaw", "blank", "(C)Z"⟩ : MethodName) (head1 (Jvm.Cond.code (⟨"com/example/pathloom/pathloom/web/ReaderSkipSpacePinLaw", "blank", "(C)Z"⟩ : MethodName) method_3_code 1 (some .boolean) :: ws) ({ frames := 0, cells := 0, slots := 0, locals := 0 } : Room)) (fun aa_ U => aa_ = #[(.int x)] ∧ Z.Warmed39 U.vm ∧ U.heap = h0) (fun _ _ _ _ _ => True) (fun _ U o_ U' => RetG U (Q_blank Z x h0 n0) 0 0 U' o_) := by
  refine MetFree.of_bodySF (plainFor_of_name own_pn5) hisR ?_
  intro p e s m args below meth c_ s₁ Bd hml0 hP hK
  obtain ⟨rfl, hZ, hh⟩ := hP
  have hx := Bd.exec
  have hby := Bd.bytes
  have hml : c_.maxLocals = 1 := hml0
  have hown : s.vm.findClass "com/example/pathloom/pathloom/web/ReaderSkipSpacePinLaw" = some m.cls := findClass_of_methodNamed Bd.named
  have hnm := (name_of_methodNamed Bd.named Bd.method).1
  have X0 : Stand p l e ({ frames := 0, cells := 0, slots := 0, locals := 0 } : Room) s m #[(.int x)] below meth c_ s₁ [] 0 0 := Stand.of_body Bd
  have e0 : s₁.heap = h0 := by rw [← hh, Bd.state]; rfl
  have N0 := Fr.nil n0
  show Go p e below (RetG s (Q_blank Z x h0 n0) 0 0) (s₁.setTop (entryFrame m #[(.int x)] 1))
  rw [show entryFrame m #[(.int x)] 1 = mkF m 0 #[.val (.int x)] [] from by first | (simp [entryFrame, mkF, argsToLocals, Value.category]; done) | rfl]
  refine g_iloadN X0 hx hby d15_0 rfl ?_
  refine g_bipush X0 hx hby (32 : Int32) d15_1 rfl ?_
  by_cases hc3_1 : x = (32 : Int32)
  · skip
    refine g_icY X0 hx hby 12 d15_3 (teq hc3_1).1 (by decide) (by decide) ?_
    refine g_iconst X0 hx hby (1 : Int32) d15_12 rfl ?_
    refine g_goto X0 hx hby 17 d15_13 (by decide) (by decide) ?_
    refine g_nret X0 hx hby (t := .boolean) (by simp) Bd.returns Bd.notSynchronized d15_17 e0 (by decide) (by decide) ?_
    show (Q_blank Z x h0 n0) (some (.int (1 : Int32))) _ _
    exact ⟨by simp [own_blk, hc3_1], N0, rfl⟩
  · skip
    refine g_icN X0 hx hby d15_3 (feq hc3_1).1 ?_
    refine g_iloadN X0 hx hby d15_6 rfl ?_
    refine g_bipush X0 hx hby (9 : Int32) d15_7 rfl ?_
    by_cases hc9_2 : x = (9 : Int32)
    · skip
      refine g_icN X0 hx hby d15_9 (teq hc9_2).2 ?_
      refine g_iconst X0 hx hby (1 : Int32) d15_12 rfl ?_
      refine g_goto X0 hx hby 17 d15_13 (by decide) (by decide) ?_
      refine g_nret X0 hx hby (t := .boolean) (by simp) Bd.returns Bd.notSynchronized d15_17 e0 (by decide) (by decide) ?_
      show (Q_blank Z x h0 n0) (some (.int (1 : Int32))) _ _
      exact ⟨by simp [own_blk, hc3_1, hc9_2], N0, rfl⟩
    · skip
      refine g_icY X0 hx hby 16 d15_9 (feq hc9_2).2 (by decide) (by decide) ?_
      refine g_iconst X0 hx hby (0 : Int32) d15_16 rfl ?_
      refine g_nret X0 hx hby (t := .boolean) (by simp) Bd.returns Bd.notSynchronized d15_17 e0 (by decide) (by decide) ?_
      show (Q_blank Z x h0 n0) (some (.int (0 : Int32))) _ _
      exact ⟨by simp [own_blk, hc3_1, hc9_2], N0, rfl⟩

theorem d1_0 : decode jdk_29_method_69_code 0 = .ok (.iload_n 0, 1) := by decide +kernel
theorem d1_1 : decode jdk_29_method_69_code 1 = .ok (.iload_n 1, 1) := by decide +kernel
theorem d1_2 : decode jdk_29_method_69_code 2 = .ok (.if_icmp .gt 7, 3) := by decide +kernel
theorem d1_9 : decode jdk_29_method_69_code 9 = .ok (.iload_n 1, 1) := by decide +kernel
theorem d1_10 : decode jdk_29_method_69_code 10 = .ok (.ireturn, 1) := by decide +kernel
theorem d1_5 : decode jdk_29_method_69_code 5 = .ok (.iload_n 0, 1) := by decide +kernel
theorem d1_6 : decode jdk_29_method_69_code 6 = .ok (.goto 4, 3) := by decide +kernel
def Q_mmin (Z : State) (x : Int32) (y : Int32) (h0 : Heap) (n0 : Nat) (v : Option Value) (h : Heap) (L : List Loc) : Prop := v = some (.int (own_min x y)) ∧ Fr n0 L ∧ h = h0
set_option maxRecDepth 65536 in
set_option maxHeartbeats 40000000 in
theorem rm_mmin (l : Launch) (Z : State) (a0 : Array Value) (hw : ∀ d ∈ tables_1, d.before a0 Z = true) (ws : List Jvm.Cond) (x : Int32) (y : Int32) (h0 : Heap) (n0 : Nat) (Z0 : n0 ≤ h0.size) :
    MetFree l (⟨"java/lang/Math", "min", "(II)I"⟩ : MethodName) (head1 (Jvm.Cond.code (⟨"java/lang/Math", "min", "(II)I"⟩ : MethodName) jdk_29_method_69_code 2 (some .int) :: ws) ({ frames := 0, cells := 0, slots := 0, locals := 0 } : Room)) (fun aa_ U => aa_ = #[(.int x), (.int y)] ∧ Z.Warmed39 U.vm ∧ U.heap = h0) (fun _ _ _ _ _ => True) (fun _ U o_ U' => RetG U (Q_mmin Z x y h0 n0) 0 0 U' o_) := by
  refine MetFree.of_bodySF (Jvm.Free.JP.mathPlain rfl (by decide +kernel)) hisR ?_
  intro p e s m args below meth c_ s₁ Bd hml0 hP hK
  obtain ⟨rfl, hZ, hh⟩ := hP
  have hx := Bd.exec
  have hby := Bd.bytes
  have hml : c_.maxLocals = 2 := hml0
  have hown : s.vm.findClass "java/lang/Math" = some m.cls := findClass_of_methodNamed Bd.named
  have hnm := (name_of_methodNamed Bd.named Bd.method).1
  have X0 : Stand p l e ({ frames := 0, cells := 0, slots := 0, locals := 0 } : Room) s m #[(.int x), (.int y)] below meth c_ s₁ [] 0 0 := Stand.of_body Bd
  have e0 : s₁.heap = h0 := by rw [← hh, Bd.state]; rfl
  have N0 := Fr.nil n0
  show Go p e below (RetG s (Q_mmin Z x y h0 n0) 0 0) (s₁.setTop (entryFrame m #[(.int x), (.int y)] 2))
  rw [show entryFrame m #[(.int x), (.int y)] 2 = mkF m 0 #[.val (.int x), .val (.int y)] [] from by first | (simp [entryFrame, mkF, argsToLocals, Value.category]; done) | rfl]
  refine g_iloadN X0 hx hby d1_0 rfl ?_
  refine g_iloadN X0 hx hby d1_1 rfl ?_
  by_cases hc2_1 : y < x
  · skip
    refine g_icY X0 hx hby 9 d1_2 (tlt hc2_1).2.2.1 (by decide) (by decide) ?_
    refine g_iloadN X0 hx hby d1_9 rfl ?_
    refine g_iret X0 hx hby Bd.returns Bd.notSynchronized d1_10 e0 (by decide) (by decide) ?_
    show (Q_mmin Z x y h0 n0) (some (.int y)) _ _
    exact ⟨by simp [own_min, hc2_1], N0, rfl⟩
  · skip
    refine g_icN X0 hx hby d1_2 (flt hc2_1).2.2.1 ?_
    refine g_iloadN X0 hx hby d1_5 rfl ?_
    refine g_goto X0 hx hby 10 d1_6 (by decide) (by decide) ?_
    refine g_iret X0 hx hby Bd.returns Bd.notSynchronized d1_10 e0 (by decide) (by decide) ?_
    show (Q_mmin Z x y h0 n0) (some (.int x)) _ _
    exact ⟨by simp [own_min, hc2_1], N0, rfl⟩

theorem d3_0 : decode method_4_code 0 = .ok (.iload_n 1, 1) := by decide +kernel
theorem d3_1 : decode method_4_code 1 = .ok (.ifCond .ne 7, 3) := by decide +kernel
theorem d3_4 : decode method_4_code 4 = .ok (.iconst 0, 1) := by decide +kernel
theorem d3_5 : decode method_4_code 5 = .ok (.newarray .char, 2) := by decide +kernel
theorem d3_7 : decode method_4_code 7 = .ok (.areturn, 1) := by decide +kernel
def Q_pref0 (Z : State) (ch : Addr) (kc : ClassId) (d0 : Int32) (d1 : Int32) (d2 : Int32) (d3 : Int32) (h0 : Heap) (n0 : Nat) (v : Option Value) (h : Heap) (L : List Loc) : Prop := Fr n0 L ∧ Keep h0 h [] ∧ ∃ (b : Addr) (kb : ClassId), v = some (.ref b) ∧ h0.size ≤ b ∧ Arv Z h b kb .char (0 : Int32) [] (.int (0 : Int32))
set_option maxRecDepth 65536 in
set_option maxHeartbeats 40000000 in
theorem rm_pref0 (l : Launch) (Z : State) (a0 : Array Value) (hw : ∀ d ∈ tables_1, d.before a0 Z = true) (ws : List Jvm.Cond) (ch : Addr) (kc : ClassId) (d0 : Int32) (d1 : Int32) (d2 : Int32) (d3 : Int32) (h0 : Heap) (n0 : Nat) (Z0 : n0 ≤ h0.size) (VA : Arv Z h0 ch kc .char (4 : Int32) [(.int d0), (.int d1), (.int d2), (.int d3)] (.int (0 : Int32))) (hr0 : 0 ≤ d0.toInt ∧ d0.toInt < 65536) (hr1 : 0 ≤ d1.toInt ∧ d1.toInt < 65536) (hr2 : 0 ≤ d2.toInt ∧ d2.toInt < 65536) (hr3 : 0 ≤ d3.toInt ∧ d3.toInt < 65536) :
    MetFree l (⟨"com/example/pathloom/pathloom/web/ReaderSkipSpacePinLaw", "prefix", "([CI)[C"⟩ : MethodName) (head1 (Jvm.Cond.code (⟨"com/example/pathloom/pathloom/web/ReaderSkipSpacePinLaw", "prefix", "([CI)[C"⟩ : MethodName) method_4_code 2 (some (.array .char)) :: ws) ({ frames := 0, cells := 1, slots := 0, locals := 0 } : Room)) (fun aa_ U => aa_ = #[(.ref ch), (.int (0 : Int32))] ∧ Z.Warmed39 U.vm ∧ U.heap = h0) (fun _ _ _ _ _ => True) (fun _ U o_ U' => RetG U (Q_pref0 Z ch kc d0 d1 d2 d3 h0 n0) 1 0 U' o_) := by
  refine MetFree.of_bodySF (plainFor_of_name own_pn5) hisR ?_
  intro p e s m args below meth c_ s₁ Bd hml0 hP hK
  obtain ⟨rfl, hZ, hh⟩ := hP
  have hx := Bd.exec
  have hby := Bd.bytes
  have hml : c_.maxLocals = 2 := hml0
  have hown : s.vm.findClass "com/example/pathloom/pathloom/web/ReaderSkipSpacePinLaw" = some m.cls := findClass_of_methodNamed Bd.named
  have hnm := (name_of_methodNamed Bd.named Bd.method).1
  have X0 : Stand p l e ({ frames := 0, cells := 1, slots := 0, locals := 0 } : Room) s m #[(.ref ch), (.int (0 : Int32))] below meth c_ s₁ [] 0 0 := Stand.of_body Bd
  have e0 : s₁.heap = h0 := by rw [← hh, Bd.state]; rfl
  have N0 := Fr.nil n0
  have w5_ := hw _ (List.mem_of_getElem? (i := 5) rfl)
  show Go p e below (RetG s (Q_pref0 Z ch kc d0 d1 d2 d3 h0 n0) 1 0) (s₁.setTop (entryFrame m #[(.ref ch), (.int (0 : Int32))] 2))
  rw [show entryFrame m #[(.ref ch), (.int (0 : Int32))] 2 = mkF m 0 #[.val (.ref ch), .val (.int (0 : Int32))] [] from by first | (simp [entryFrame, mkF, argsToLocals, Value.category]; done) | rfl]
  refine g_iloadN X0 hx hby d3_0 rfl ?_
  refine g_ifN X0 hx hby d3_1 (teq (by decide : (0 : Int32) = (0 : Int32))).2 ?_
  refine g_iconst X0 hx hby (0 : Int32) d3_4 rfl ?_
  refine g_newarray X0 hx hby hZ .char .char (.int (0 : Int32)) [] rfl rfl w5_ e0 (by decide) 0 rfl (by decide) (by decide) (by decide) (by decide) d3_5 (fun T1 h1 k1 b1 g1 X1 e1 E1 V1 => ?_)
  refine g_aret X1 hx hby (t := (.array .char)) rfl rfl rfl Bd.returns Bd.notSynchronized d3_7 e1 (by decide) (by decide) ?_
  show (Q_pref0 Z ch kc d0 d1 d2 d3 h0 n0) (some (.ref b1)) _ _
  exact ⟨N0, ((Keep.refl h0 []).ext E1), b1, k1, rfl, (Nat.le_trans (Nat.le_refl _) (Nat.le_of_eq g1)), V1⟩

theorem d3_8 : decode method_4_code 8 = .ok (.iload_n 1, 1) := by decide +kernel
theorem d3_9 : decode method_4_code 9 = .ok (.iconst 1, 1) := by decide +kernel
theorem d3_10 : decode method_4_code 10 = .ok (.if_icmp .ne 13, 3) := by decide +kernel
theorem d3_13 : decode method_4_code 13 = .ok (.iconst 1, 1) := by decide +kernel
theorem d3_14 : decode method_4_code 14 = .ok (.newarray .char, 2) := by decide +kernel
theorem d3_16 : decode method_4_code 16 = .ok (.dup, 1) := by decide +kernel
theorem d3_17 : decode method_4_code 17 = .ok (.iconst 0, 1) := by decide +kernel
theorem d3_18 : decode method_4_code 18 = .ok (.aload_n 0, 1) := by decide +kernel
theorem d3_19 : decode method_4_code 19 = .ok (.iconst 0, 1) := by decide +kernel
theorem d3_20 : decode method_4_code 20 = .ok (.caload, 1) := by decide +kernel
theorem d3_21 : decode method_4_code 21 = .ok (.castore, 1) := by decide +kernel
theorem d3_22 : decode method_4_code 22 = .ok (.areturn, 1) := by decide +kernel
def Q_pref1 (Z : State) (ch : Addr) (kc : ClassId) (d0 : Int32) (d1 : Int32) (d2 : Int32) (d3 : Int32) (h0 : Heap) (n0 : Nat) (v : Option Value) (h : Heap) (L : List Loc) : Prop := Fr n0 L ∧ Keep h0 h [] ∧ ∃ (b : Addr) (kb : ClassId), v = some (.ref b) ∧ h0.size ≤ b ∧ Arv Z h b kb .char (1 : Int32) [(.int d0)] (.int (0 : Int32))
set_option maxRecDepth 65536 in
set_option maxHeartbeats 40000000 in
theorem rm_pref1 (l : Launch) (Z : State) (a0 : Array Value) (hw : ∀ d ∈ tables_1, d.before a0 Z = true) (ws : List Jvm.Cond) (ch : Addr) (kc : ClassId) (d0 : Int32) (d1 : Int32) (d2 : Int32) (d3 : Int32) (h0 : Heap) (n0 : Nat) (Z0 : n0 ≤ h0.size) (VA : Arv Z h0 ch kc .char (4 : Int32) [(.int d0), (.int d1), (.int d2), (.int d3)] (.int (0 : Int32))) (hr0 : 0 ≤ d0.toInt ∧ d0.toInt < 65536) (hr1 : 0 ≤ d1.toInt ∧ d1.toInt < 65536) (hr2 : 0 ≤ d2.toInt ∧ d2.toInt < 65536) (hr3 : 0 ≤ d3.toInt ∧ d3.toInt < 65536) :
    MetFree l (⟨"com/example/pathloom/pathloom/web/ReaderSkipSpacePinLaw", "prefix", "([CI)[C"⟩ : MethodName) (head1 (Jvm.Cond.code (⟨"com/example/pathloom/pathloom/web/ReaderSkipSpacePinLaw", "prefix", "([CI)[C"⟩ : MethodName) method_4_code 2 (some (.array .char)) :: ws) ({ frames := 0, cells := 1, slots := 1, locals := 0 } : Room)) (fun aa_ U => aa_ = #[(.ref ch), (.int (1 : Int32))] ∧ Z.Warmed39 U.vm ∧ U.heap = h0) (fun _ _ _ _ _ => True) (fun _ U o_ U' => RetG U (Q_pref1 Z ch kc d0 d1 d2 d3 h0 n0) 1 1 U' o_) := by
  refine MetFree.of_bodySF (plainFor_of_name own_pn5) hisR ?_
  intro p e s m args below meth c_ s₁ Bd hml0 hP hK
  obtain ⟨rfl, hZ, hh⟩ := hP
  have hx := Bd.exec
  have hby := Bd.bytes
  have hml : c_.maxLocals = 2 := hml0
  have hown : s.vm.findClass "com/example/pathloom/pathloom/web/ReaderSkipSpacePinLaw" = some m.cls := findClass_of_methodNamed Bd.named
  have hnm := (name_of_methodNamed Bd.named Bd.method).1
  have X0 : Stand p l e ({ frames := 0, cells := 1, slots := 1, locals := 0 } : Room) s m #[(.ref ch), (.int (1 : Int32))] below meth c_ s₁ [] 0 0 := Stand.of_body Bd
  have e0 : s₁.heap = h0 := by rw [← hh, Bd.state]; rfl
  have N0 := Fr.nil n0
  have w5_ := hw _ (List.mem_of_getElem? (i := 5) rfl)
  show Go p e below (RetG s (Q_pref1 Z ch kc d0 d1 d2 d3 h0 n0) 1 1) (s₁.setTop (entryFrame m #[(.ref ch), (.int (1 : Int32))] 2))
  rw [show entryFrame m #[(.ref ch), (.int (1 : Int32))] 2 = mkF m 0 #[.val (.ref ch), .val (.int (1 : Int32))] [] from by first | (simp [entryFrame, mkF, argsToLocals, Value.category]; done) | rfl]
  refine g_iloadN X0 hx hby d3_0 rfl ?_
  refine g_ifY X0 hx hby 8 d3_1 (feq (by decide : ¬ ((1 : Int32) = (0 : Int32)))).2 (by decide) (by decide) ?_
  refine g_iloadN X0 hx hby d3_8 rfl ?_
  refine g_iconst X0 hx hby (1 : Int32) d3_9 rfl ?_
  refine g_icN X0 hx hby d3_10 (teq (by decide : (1 : Int32) = (1 : Int32))).2 ?_
  refine g_iconst X0 hx hby (1 : Int32) d3_13 rfl ?_
  refine g_newarray X0 hx hby hZ .char .char (.int (0 : Int32)) [(.int (0 : Int32))] rfl rfl w5_ e0 (by decide) 1 rfl (by decide) (by decide) (by decide) (by decide) d3_14 (fun T1 h1 k1 b1 g1 X1 e1 E1 V1 => ?_)
  refine g_dup X1 hx hby d3_16 rfl ?_
  refine g_iconst X1 hx hby (0 : Int32) d3_17 rfl ?_
  refine g_aloadN X1 hx hby d3_18 rfl rfl ?_
  refine g_iconst X1 hx hby (0 : Int32) d3_19 rfl ?_
  have f2 := (VA.ext E1)
  refine g_caload X1 hx hby hZ e1 f2 (.int d0) ⟨by decide, by decide⟩ rfl d3_20 ?_
  have g_b1 : n0 ≤ b1 := Nat.le_trans Z0 (Nat.le_of_eq g1)
  refine g_castore X1 hx hby hZ e1 V1 0 [(.int d0)] (by first | (rw [own_nc16 hr0]; done) | (rw [own_nc16 hr0]; rfl)) ⟨by decide, by decide⟩ rfl (Nat.le_of_ble_eq_true rfl) N0 g_b1 d3_21 (fun T3 h3 X3 e3 W3 V3 N3 => ?_)
  refine g_aret X3 hx hby (t := (.array .char)) rfl rfl rfl Bd.returns Bd.notSynchronized d3_22 e3 (by decide) (by decide) ?_
  show (Q_pref1 Z ch kc d0 d1 d2 d3 h0 n0) (some (.ref b1)) _ _
  exact ⟨N3, (((Keep.refl h0 []).ext E1).wr W3 (Or.inr (Nat.le_trans (Nat.le_refl _) (Nat.le_of_eq g1)))), b1, k1, rfl, (Nat.le_trans (Nat.le_refl _) (Nat.le_of_eq g1)), V3⟩

theorem d3_23 : decode method_4_code 23 = .ok (.iload_n 1, 1) := by decide +kernel
theorem d3_24 : decode method_4_code 24 = .ok (.iconst 2, 1) := by decide +kernel
theorem d3_25 : decode method_4_code 25 = .ok (.if_icmp .ne 19, 3) := by decide +kernel
theorem d3_28 : decode method_4_code 28 = .ok (.iconst 2, 1) := by decide +kernel
theorem d3_29 : decode method_4_code 29 = .ok (.newarray .char, 2) := by decide +kernel
theorem d3_31 : decode method_4_code 31 = .ok (.dup, 1) := by decide +kernel
theorem d3_32 : decode method_4_code 32 = .ok (.iconst 0, 1) := by decide +kernel
theorem d3_33 : decode method_4_code 33 = .ok (.aload_n 0, 1) := by decide +kernel
theorem d3_34 : decode method_4_code 34 = .ok (.iconst 0, 1) := by decide +kernel
theorem d3_35 : decode method_4_code 35 = .ok (.caload, 1) := by decide +kernel
theorem d3_36 : decode method_4_code 36 = .ok (.castore, 1) := by decide +kernel
theorem d3_37 : decode method_4_code 37 = .ok (.dup, 1) := by decide +kernel
theorem d3_38 : decode method_4_code 38 = .ok (.iconst 1, 1) := by decide +kernel
theorem d3_39 : decode method_4_code 39 = .ok (.aload_n 0, 1) := by decide +kernel
theorem d3_40 : decode method_4_code 40 = .ok (.iconst 1, 1) := by decide +kernel
theorem d3_41 : decode method_4_code 41 = .ok (.caload, 1) := by decide +kernel
theorem d3_42 : decode method_4_code 42 = .ok (.castore, 1) := by decide +kernel
theorem d3_43 : decode method_4_code 43 = .ok (.areturn, 1) := by decide +kernel
def Q_pref2 (Z : State) (ch : Addr) (kc : ClassId) (d0 : Int32) (d1 : Int32) (d2 : Int32) (d3 : Int32) (h0 : Heap) (n0 : Nat) (v : Option Value) (h : Heap) (L : List Loc) : Prop := Fr n0 L ∧ Keep h0 h [] ∧ ∃ (b : Addr) (kb : ClassId), v = some (.ref b) ∧ h0.size ≤ b ∧ Arv Z h b kb .char (2 : Int32) [(.int d0), (.int d1)] (.int (0 : Int32))
set_option maxRecDepth 65536 in
set_option maxHeartbeats 40000000 in
theorem rm_pref2 (l : Launch) (Z : State) (a0 : Array Value) (hw : ∀ d ∈ tables_1, d.before a0 Z = true) (ws : List Jvm.Cond) (ch : Addr) (kc : ClassId) (d0 : Int32) (d1 : Int32) (d2 : Int32) (d3 : Int32) (h0 : Heap) (n0 : Nat) (Z0 : n0 ≤ h0.size) (VA : Arv Z h0 ch kc .char (4 : Int32) [(.int d0), (.int d1), (.int d2), (.int d3)] (.int (0 : Int32))) (hr0 : 0 ≤ d0.toInt ∧ d0.toInt < 65536) (hr1 : 0 ≤ d1.toInt ∧ d1.toInt < 65536) (hr2 : 0 ≤ d2.toInt ∧ d2.toInt < 65536) (hr3 : 0 ≤ d3.toInt ∧ d3.toInt < 65536) :
    MetFree l (⟨"com/example/pathloom/pathloom/web/ReaderSkipSpacePinLaw", "prefix", "([CI)[C"⟩ : MethodName) (head1 (Jvm.Cond.code (⟨"com/example/pathloom/pathloom/web/ReaderSkipSpacePinLaw", "prefix", "([CI)[C"⟩ : MethodName) method_4_code 2 (some (.array .char)) :: ws) ({ frames := 0, cells := 1, slots := 2, locals := 0 } : Room)) (fun aa_ U => aa_ = #[(.ref ch), (.int (2 : Int32))] ∧ Z.Warmed39 U.vm ∧ U.heap = h0) (fun _ _ _ _ _ => True) (fun _ U o_ U' => RetG U (Q_pref2 Z ch kc d0 d1 d2 d3 h0 n0) 1 2 U' o_) := by
  refine MetFree.of_bodySF (plainFor_of_name own_pn5) hisR ?_
  intro p e s m args below meth c_ s₁ Bd hml0 hP hK
  obtain ⟨rfl, hZ, hh⟩ := hP
  have hx := Bd.exec
  have hby := Bd.bytes
  have hml : c_.maxLocals = 2 := hml0
  have hown : s.vm.findClass "com/example/pathloom/pathloom/web/ReaderSkipSpacePinLaw" = some m.cls := findClass_of_methodNamed Bd.named
  have hnm := (name_of_methodNamed Bd.named Bd.method).1
  have X0 : Stand p l e ({ frames := 0, cells := 1, slots := 2, locals := 0 } : Room) s m #[(.ref ch), (.int (2 : Int32))] below meth c_ s₁ [] 0 0 := Stand.of_body Bd
  have e0 : s₁.heap = h0 := by rw [← hh, Bd.state]; rfl
  have N0 := Fr.nil n0
  have w5_ := hw _ (List.mem_of_getElem? (i := 5) rfl)
  show Go p e below (RetG s (Q_pref2 Z ch kc d0 d1 d2 d3 h0 n0) 1 2) (s₁.setTop (entryFrame m #[(.ref ch), (.int (2 : Int32))] 2))
  rw [show entryFrame m #[(.ref ch), (.int (2 : Int32))] 2 = mkF m 0 #[.val (.ref ch), .val (.int (2 : Int32))] [] from by first | (simp [entryFrame, mkF, argsToLocals, Value.category]; done) | rfl]
  refine g_iloadN X0 hx hby d3_0 rfl ?_
  refine g_ifY X0 hx hby 8 d3_1 (feq (by decide : ¬ ((2 : Int32) = (0 : Int32)))).2 (by decide) (by decide) ?_
  refine g_iloadN X0 hx hby d3_8 rfl ?_
  refine g_iconst X0 hx hby (1 : Int32) d3_9 rfl ?_
  refine g_icY X0 hx hby 23 d3_10 (feq (by decide : ¬ ((2 : Int32) = (1 : Int32)))).2 (by decide) (by decide) ?_
  refine g_iloadN X0 hx hby d3_23 rfl ?_
  refine g_iconst X0 hx hby (2 : Int32) d3_24 rfl ?_
  refine g_icN X0 hx hby d3_25 (teq (by decide : (2 : Int32) = (2 : Int32))).2 ?_
  refine g_iconst X0 hx hby (2 : Int32) d3_28 rfl ?_
  refine g_newarray X0 hx hby hZ .char .char (.int (0 : Int32)) [(.int (0 : Int32)), (.int (0 : Int32))] rfl rfl w5_ e0 (by decide) 2 rfl (by decide) (by decide) (by decide) (by decide) d3_29 (fun T1 h1 k1 b1 g1 X1 e1 E1 V1 => ?_)
  refine g_dup X1 hx hby d3_31 rfl ?_
  refine g_iconst X1 hx hby (0 : Int32) d3_32 rfl ?_
  refine g_aloadN X1 hx hby d3_33 rfl rfl ?_
  refine g_iconst X1 hx hby (0 : Int32) d3_34 rfl ?_
  have f2 := (VA.ext E1)
  refine g_caload X1 hx hby hZ e1 f2 (.int d0) ⟨by decide, by decide⟩ rfl d3_35 ?_
  have g_b1 : n0 ≤ b1 := Nat.le_trans Z0 (Nat.le_of_eq g1)
  refine g_castore X1 hx hby hZ e1 V1 0 [(.int d0), (.int (0 : Int32))] (by first | (rw [own_nc16 hr0]; done) | (rw [own_nc16 hr0]; rfl)) ⟨by decide, by decide⟩ rfl (Nat.le_of_ble_eq_true rfl) N0 g_b1 d3_36 (fun T3 h3 X3 e3 W3 V3 N3 => ?_)
  refine g_dup X3 hx hby d3_37 rfl ?_
  refine g_iconst X3 hx hby (1 : Int32) d3_38 rfl ?_
  refine g_aloadN X3 hx hby d3_39 rfl rfl ?_
  refine g_iconst X3 hx hby (1 : Int32) d3_40 rfl ?_
  have ne4 : ch ≠ b1 := (Nat.ne_of_lt (Nat.lt_of_lt_of_le VA.lt (Nat.le_of_eq g1)))
  have f5 := (f2.other W3 ne4)
  refine g_caload X3 hx hby hZ e3 f5 (.int d1) ⟨by decide, by decide⟩ rfl d3_41 ?_
  refine g_castore X3 hx hby hZ e3 V3 1 [(.int d0), (.int d1)] (by first | (rw [own_nc16 hr1]; done) | (rw [own_nc16 hr1]; rfl)) ⟨by decide, by decide⟩ rfl (Nat.le_of_ble_eq_true rfl) N3 g_b1 d3_42 (fun T6 h6 X6 e6 W6 V6 N6 => ?_)
  refine g_aret X6 hx hby (t := (.array .char)) rfl rfl rfl Bd.returns Bd.notSynchronized d3_43 e6 (by decide) (by decide) ?_
  show (Q_pref2 Z ch kc d0 d1 d2 d3 h0 n0) (some (.ref b1)) _ _
  exact ⟨N6, ((((Keep.refl h0 []).ext E1).wr W3 (Or.inr (Nat.le_trans (Nat.le_refl _) (Nat.le_of_eq g1)))).wr W6 (Or.inr (Nat.le_trans (Nat.le_refl _) (Nat.le_of_eq g1)))), b1, k1, rfl, (Nat.le_trans (Nat.le_refl _) (Nat.le_of_eq g1)), V6⟩

theorem d3_44 : decode method_4_code 44 = .ok (.iload_n 1, 1) := by decide +kernel
theorem d3_45 : decode method_4_code 45 = .ok (.iconst 3, 1) := by decide +kernel
theorem d3_46 : decode method_4_code 46 = .ok (.if_icmp .ne 25, 3) := by decide +kernel
theorem d3_49 : decode method_4_code 49 = .ok (.iconst 3, 1) := by decide +kernel
theorem d3_50 : decode method_4_code 50 = .ok (.newarray .char, 2) := by decide +kernel
theorem d3_52 : decode method_4_code 52 = .ok (.dup, 1) := by decide +kernel
theorem d3_53 : decode method_4_code 53 = .ok (.iconst 0, 1) := by decide +kernel
theorem d3_54 : decode method_4_code 54 = .ok (.aload_n 0, 1) := by decide +kernel
theorem d3_55 : decode method_4_code 55 = .ok (.iconst 0, 1) := by decide +kernel
theorem d3_56 : decode method_4_code 56 = .ok (.caload, 1) := by decide +kernel
theorem d3_57 : decode method_4_code 57 = .ok (.castore, 1) := by decide +kernel
theorem d3_58 : decode method_4_code 58 = .ok (.dup, 1) := by decide +kernel
theorem d3_59 : decode method_4_code 59 = .ok (.iconst 1, 1) := by decide +kernel
theorem d3_60 : decode method_4_code 60 = .ok (.aload_n 0, 1) := by decide +kernel
theorem d3_61 : decode method_4_code 61 = .ok (.iconst 1, 1) := by decide +kernel
theorem d3_62 : decode method_4_code 62 = .ok (.caload, 1) := by decide +kernel
theorem d3_63 : decode method_4_code 63 = .ok (.castore, 1) := by decide +kernel
theorem d3_64 : decode method_4_code 64 = .ok (.dup, 1) := by decide +kernel
theorem d3_65 : decode method_4_code 65 = .ok (.iconst 2, 1) := by decide +kernel
theorem d3_66 : decode method_4_code 66 = .ok (.aload_n 0, 1) := by decide +kernel
theorem d3_67 : decode method_4_code 67 = .ok (.iconst 2, 1) := by decide +kernel
theorem d3_68 : decode method_4_code 68 = .ok (.caload, 1) := by decide +kernel
theorem d3_69 : decode method_4_code 69 = .ok (.castore, 1) := by decide +kernel
theorem d3_70 : decode method_4_code 70 = .ok (.areturn, 1) := by decide +kernel
def Q_pref3 (Z : State) (ch : Addr) (kc : ClassId) (d0 : Int32) (d1 : Int32) (d2 : Int32) (d3 : Int32) (h0 : Heap) (n0 : Nat) (v : Option Value) (h : Heap) (L : List Loc) : Prop := Fr n0 L ∧ Keep h0 h [] ∧ ∃ (b : Addr) (kb : ClassId), v = some (.ref b) ∧ h0.size ≤ b ∧ Arv Z h b kb .char (3 : Int32) [(.int d0), (.int d1), (.int d2)] (.int (0 : Int32))
set_option maxRecDepth 65536 in
set_option maxHeartbeats 40000000 in
theorem rm_pref3 (l : Launch) (Z : State) (a0 : Array Value) (hw : ∀ d ∈ tables_1, d.before a0 Z = true) (ws : List Jvm.Cond) (ch : Addr) (kc : ClassId) (d0 : Int32) (d1 : Int32) (d2 : Int32) (d3 : Int32) (h0 : Heap) (n0 : Nat) (Z0 : n0 ≤ h0.size) (VA : Arv Z h0 ch kc .char (4 : Int32) [(.int d0), (.int d1), (.int d2), (.int d3)] (.int (0 : Int32))) (hr0 : 0 ≤ d0.toInt ∧ d0.toInt < 65536) (hr1 : 0 ≤ d1.toInt ∧ d1.toInt < 65536) (hr2 : 0 ≤ d2.toInt ∧ d2.toInt < 65536) (hr3 : 0 ≤ d3.toInt ∧ d3.toInt < 65536) :
    MetFree l (⟨"com/example/pathloom/pathloom/web/ReaderSkipSpacePinLaw", "prefix", "([CI)[C"⟩ : MethodName) (head1 (Jvm.Cond.code (⟨"com/example/pathloom/pathloom/web/ReaderSkipSpacePinLaw", "prefix", "([CI)[C"⟩ : MethodName) method_4_code 2 (some (.array .char)) :: ws) ({ frames := 0, cells := 1, slots := 3, locals := 0 } : Room)) (fun aa_ U => aa_ = #[(.ref ch), (.int (3 : Int32))] ∧ Z.Warmed39 U.vm ∧ U.heap = h0) (fun _ _ _ _ _ => True) (fun _ U o_ U' => RetG U (Q_pref3 Z ch kc d0 d1 d2 d3 h0 n0) 1 3 U' o_) := by
  refine MetFree.of_bodySF (plainFor_of_name own_pn5) hisR ?_
  intro p e s m args below meth c_ s₁ Bd hml0 hP hK
  obtain ⟨rfl, hZ, hh⟩ := hP
  have hx := Bd.exec
  have hby := Bd.bytes
  have hml : c_.maxLocals = 2 := hml0
  have hown : s.vm.findClass "com/example/pathloom/pathloom/web/ReaderSkipSpacePinLaw" = some m.cls := findClass_of_methodNamed Bd.named
  have hnm := (name_of_methodNamed Bd.named Bd.method).1
  have X0 : Stand p l e ({ frames := 0, cells := 1, slots := 3, locals := 0 } : Room) s m #[(.ref ch), (.int (3 : Int32))] below meth c_ s₁ [] 0 0 := Stand.of_body Bd
  have e0 : s₁.heap = h0 := by rw [← hh, Bd.state]; rfl
  have N0 := Fr.nil n0
  have w5_ := hw _ (List.mem_of_getElem? (i := 5) rfl)
  show Go p e below (RetG s (Q_pref3 Z ch kc d0 d1 d2 d3 h0 n0) 1 3) (s₁.setTop (entryFrame m #[(.ref ch), (.int (3 : Int32))] 2))
  rw [show entryFrame m #[(.ref ch), (.int (3 : Int32))] 2 = mkF m 0 #[.val (.ref ch), .val (.int (3 : Int32))] [] from by first | (simp [entryFrame, mkF, argsToLocals, Value.category]; done) | rfl]
  refine g_iloadN X0 hx hby d3_0 rfl ?_
  refine g_ifY X0 hx hby 8 d3_1 (feq (by decide : ¬ ((3 : Int32) = (0 : Int32)))).2 (by decide) (by decide) ?_
  refine g_iloadN X0 hx hby d3_8 rfl ?_
  refine g_iconst X0 hx hby (1 : Int32) d3_9 rfl ?_
  refine g_icY X0 hx hby 23 d3_10 (feq (by decide : ¬ ((3 : Int32) = (1 : Int32)))).2 (by decide) (by decide) ?_
  refine g_iloadN X0 hx hby d3_23 rfl ?_
  refine g_iconst X0 hx hby (2 : Int32) d3_24 rfl ?_
  refine g_icY X0 hx hby 44 d3_25 (feq (by decide : ¬ ((3 : Int32) = (2 : Int32)))).2 (by decide) (by decide) ?_
  refine g_iloadN X0 hx hby d3_44 rfl ?_
  refine g_iconst X0 hx hby (3 : Int32) d3_45 rfl ?_
  refine g_icN X0 hx hby d3_46 (teq (by decide : (3 : Int32) = (3 : Int32))).2 ?_
  refine g_iconst X0 hx hby (3 : Int32) d3_49 rfl ?_
  refine g_newarray X0 hx hby hZ .char .char (.int (0 : Int32)) [(.int (0 : Int32)), (.int (0 : Int32)), (.int (0 : Int32))] rfl rfl w5_ e0 (by decide) 3 rfl (by decide) (by decide) (by decide) (by decide) d3_50 (fun T1 h1 k1 b1 g1 X1 e1 E1 V1 => ?_)
  refine g_dup X1 hx hby d3_52 rfl ?_
  refine g_iconst X1 hx hby (0 : Int32) d3_53 rfl ?_
  refine g_aloadN X1 hx hby d3_54 rfl rfl ?_
  refine g_iconst X1 hx hby (0 : Int32) d3_55 rfl ?_
  have f2 := (VA.ext E1)
  refine g_caload X1 hx hby hZ e1 f2 (.int d0) ⟨by decide, by decide⟩ rfl d3_56 ?_
  have g_b1 : n0 ≤ b1 := Nat.le_trans Z0 (Nat.le_of_eq g1)
  refine g_castore X1 hx hby hZ e1 V1 0 [(.int d0), (.int (0 : Int32)), (.int (0 : Int32))] (by first | (rw [own_nc16 hr0]; done) | (rw [own_nc16 hr0]; rfl)) ⟨by decide, by decide⟩ rfl (Nat.le_of_ble_eq_true rfl) N0 g_b1 d3_57 (fun T3 h3 X3 e3 W3 V3 N3 => ?_)
  refine g_dup X3 hx hby d3_58 rfl ?_
  refine g_iconst X3 hx hby (1 : Int32) d3_59 rfl ?_
  refine g_aloadN X3 hx hby d3_60 rfl rfl ?_
  refine g_iconst X3 hx hby (1 : Int32) d3_61 rfl ?_
  have ne4 : ch ≠ b1 := (Nat.ne_of_lt (Nat.lt_of_lt_of_le VA.lt (Nat.le_of_eq g1)))
  have f5 := (f2.other W3 ne4)
  refine g_caload X3 hx hby hZ e3 f5 (.int d1) ⟨by decide, by decide⟩ rfl d3_62 ?_
  refine g_castore X3 hx hby hZ e3 V3 1 [(.int d0), (.int d1), (.int (0 : Int32))] (by first | (rw [own_nc16 hr1]; done) | (rw [own_nc16 hr1]; rfl)) ⟨by decide, by decide⟩ rfl (Nat.le_of_ble_eq_true rfl) N3 g_b1 d3_63 (fun T6 h6 X6 e6 W6 V6 N6 => ?_)
  refine g_dup X6 hx hby d3_64 rfl ?_
  refine g_iconst X6 hx hby (2 : Int32) d3_65 rfl ?_
  refine g_aloadN X6 hx hby d3_66 rfl rfl ?_
  refine g_iconst X6 hx hby (2 : Int32) d3_67 rfl ?_
  have f7 := (f5.other W6 ne4)
  refine g_caload X6 hx hby hZ e6 f7 (.int d2) ⟨by decide, by decide⟩ rfl d3_68 ?_
  refine g_castore X6 hx hby hZ e6 V6 2 [(.int d0), (.int d1), (.int d2)] (by first | (rw [own_nc16 hr2]; done) | (rw [own_nc16 hr2]; rfl)) ⟨by decide, by decide⟩ rfl (Nat.le_of_ble_eq_true rfl) N6 g_b1 d3_69 (fun T8 h8 X8 e8 W8 V8 N8 => ?_)
  refine g_aret X8 hx hby (t := (.array .char)) rfl rfl rfl Bd.returns Bd.notSynchronized d3_70 e8 (by decide) (by decide) ?_
  show (Q_pref3 Z ch kc d0 d1 d2 d3 h0 n0) (some (.ref b1)) _ _
  exact ⟨N8, (((((Keep.refl h0 []).ext E1).wr W3 (Or.inr (Nat.le_trans (Nat.le_refl _) (Nat.le_of_eq g1)))).wr W6 (Or.inr (Nat.le_trans (Nat.le_refl _) (Nat.le_of_eq g1)))).wr W8 (Or.inr (Nat.le_trans (Nat.le_refl _) (Nat.le_of_eq g1)))), b1, k1, rfl, (Nat.le_trans (Nat.le_refl _) (Nat.le_of_eq g1)), V8⟩

theorem d3_71 : decode method_4_code 71 = .ok (.iconst 4, 1) := by decide +kernel
theorem d3_72 : decode method_4_code 72 = .ok (.newarray .char, 2) := by decide +kernel
theorem d3_74 : decode method_4_code 74 = .ok (.dup, 1) := by decide +kernel
theorem d3_75 : decode method_4_code 75 = .ok (.iconst 0, 1) := by decide +kernel
theorem d3_76 : decode method_4_code 76 = .ok (.aload_n 0, 1) := by decide +kernel
theorem d3_77 : decode method_4_code 77 = .ok (.iconst 0, 1) := by decide +kernel
theorem d3_78 : decode method_4_code 78 = .ok (.caload, 1) := by decide +kernel
theorem d3_79 : decode method_4_code 79 = .ok (.castore, 1) := by decide +kernel
theorem d3_80 : decode method_4_code 80 = .ok (.dup, 1) := by decide +kernel
theorem d3_81 : decode method_4_code 81 = .ok (.iconst 1, 1) := by decide +kernel
theorem d3_82 : decode method_4_code 82 = .ok (.aload_n 0, 1) := by decide +kernel
theorem d3_83 : decode method_4_code 83 = .ok (.iconst 1, 1) := by decide +kernel
theorem d3_84 : decode method_4_code 84 = .ok (.caload, 1) := by decide +kernel
theorem d3_85 : decode method_4_code 85 = .ok (.castore, 1) := by decide +kernel
theorem d3_86 : decode method_4_code 86 = .ok (.dup, 1) := by decide +kernel
theorem d3_87 : decode method_4_code 87 = .ok (.iconst 2, 1) := by decide +kernel
theorem d3_88 : decode method_4_code 88 = .ok (.aload_n 0, 1) := by decide +kernel
theorem d3_89 : decode method_4_code 89 = .ok (.iconst 2, 1) := by decide +kernel
theorem d3_90 : decode method_4_code 90 = .ok (.caload, 1) := by decide +kernel
theorem d3_91 : decode method_4_code 91 = .ok (.castore, 1) := by decide +kernel
theorem d3_92 : decode method_4_code 92 = .ok (.dup, 1) := by decide +kernel
theorem d3_93 : decode method_4_code 93 = .ok (.iconst 3, 1) := by decide +kernel
theorem d3_94 : decode method_4_code 94 = .ok (.aload_n 0, 1) := by decide +kernel
theorem d3_95 : decode method_4_code 95 = .ok (.iconst 3, 1) := by decide +kernel
theorem d3_96 : decode method_4_code 96 = .ok (.caload, 1) := by decide +kernel
theorem d3_97 : decode method_4_code 97 = .ok (.castore, 1) := by decide +kernel
theorem d3_98 : decode method_4_code 98 = .ok (.areturn, 1) := by decide +kernel
def Q_pref4 (Z : State) (ch : Addr) (kc : ClassId) (d0 : Int32) (d1 : Int32) (d2 : Int32) (d3 : Int32) (h0 : Heap) (n0 : Nat) (v : Option Value) (h : Heap) (L : List Loc) : Prop := Fr n0 L ∧ Keep h0 h [] ∧ ∃ (b : Addr) (kb : ClassId), v = some (.ref b) ∧ h0.size ≤ b ∧ Arv Z h b kb .char (4 : Int32) [(.int d0), (.int d1), (.int d2), (.int d3)] (.int (0 : Int32))
set_option maxRecDepth 65536 in
set_option maxHeartbeats 40000000 in
theorem rm_pref4 (l : Launch) (Z : State) (a0 : Array Value) (hw : ∀ d ∈ tables_1, d.before a0 Z = true) (ws : List Jvm.Cond) (ch : Addr) (kc : ClassId) (d0 : Int32) (d1 : Int32) (d2 : Int32) (d3 : Int32) (h0 : Heap) (n0 : Nat) (Z0 : n0 ≤ h0.size) (VA : Arv Z h0 ch kc .char (4 : Int32) [(.int d0), (.int d1), (.int d2), (.int d3)] (.int (0 : Int32))) (hr0 : 0 ≤ d0.toInt ∧ d0.toInt < 65536) (hr1 : 0 ≤ d1.toInt ∧ d1.toInt < 65536) (hr2 : 0 ≤ d2.toInt ∧ d2.toInt < 65536) (hr3 : 0 ≤ d3.toInt ∧ d3.toInt < 65536) :
    MetFree l (⟨"com/example/pathloom/pathloom/web/ReaderSkipSpacePinLaw", "prefix", "([CI)[C"⟩ : MethodName) (head1 (Jvm.Cond.code (⟨"com/example/pathloom/pathloom/web/ReaderSkipSpacePinLaw", "prefix", "([CI)[C"⟩ : MethodName) method_4_code 2 (some (.array .char)) :: ws) ({ frames := 0, cells := 1, slots := 4, locals := 0 } : Room)) (fun aa_ U => aa_ = #[(.ref ch), (.int (4 : Int32))] ∧ Z.Warmed39 U.vm ∧ U.heap = h0) (fun _ _ _ _ _ => True) (fun _ U o_ U' => RetG U (Q_pref4 Z ch kc d0 d1 d2 d3 h0 n0) 1 4 U' o_) := by
  refine MetFree.of_bodySF (plainFor_of_name own_pn5) hisR ?_
  intro p e s m args below meth c_ s₁ Bd hml0 hP hK
  obtain ⟨rfl, hZ, hh⟩ := hP
  have hx := Bd.exec
  have hby := Bd.bytes
  have hml : c_.maxLocals = 2 := hml0
  have hown : s.vm.findClass "com/example/pathloom/pathloom/web/ReaderSkipSpacePinLaw" = some m.cls := findClass_of_methodNamed Bd.named
  have hnm := (name_of_methodNamed Bd.named Bd.method).1
  have X0 : Stand p l e ({ frames := 0, cells := 1, slots := 4, locals := 0 } : Room) s m #[(.ref ch), (.int (4 : Int32))] below meth c_ s₁ [] 0 0 := Stand.of_body Bd
  have e0 : s₁.heap = h0 := by rw [← hh, Bd.state]; rfl
  have N0 := Fr.nil n0
  have w5_ := hw _ (List.mem_of_getElem? (i := 5) rfl)
  show Go p e below (RetG s (Q_pref4 Z ch kc d0 d1 d2 d3 h0 n0) 1 4) (s₁.setTop (entryFrame m #[(.ref ch), (.int (4 : Int32))] 2))
  rw [show entryFrame m #[(.ref ch), (.int (4 : Int32))] 2 = mkF m 0 #[.val (.ref ch), .val (.int (4 : Int32))] [] from by first | (simp [entryFrame, mkF, argsToLocals, Value.category]; done) | rfl]
  refine g_iloadN X0 hx hby d3_0 rfl ?_
  refine g_ifY X0 hx hby 8 d3_1 (feq (by decide : ¬ ((4 : Int32) = (0 : Int32)))).2 (by decide) (by decide) ?_
  refine g_iloadN X0 hx hby d3_8 rfl ?_
  refine g_iconst X0 hx hby (1 : Int32) d3_9 rfl ?_
  refine g_icY X0 hx hby 23 d3_10 (feq (by decide : ¬ ((4 : Int32) = (1 : Int32)))).2 (by decide) (by decide) ?_
  refine g_iloadN X0 hx hby d3_23 rfl ?_
  refine g_iconst X0 hx hby (2 : Int32) d3_24 rfl ?_
  refine g_icY X0 hx hby 44 d3_25 (feq (by decide : ¬ ((4 : Int32) = (2 : Int32)))).2 (by decide) (by decide) ?_
  refine g_iloadN X0 hx hby d3_44 rfl ?_
  refine g_iconst X0 hx hby (3 : Int32) d3_45 rfl ?_
  refine g_icY X0 hx hby 71 d3_46 (feq (by decide : ¬ ((4 : Int32) = (3 : Int32)))).2 (by decide) (by decide) ?_
  refine g_iconst X0 hx hby (4 : Int32) d3_71 rfl ?_
  refine g_newarray X0 hx hby hZ .char .char (.int (0 : Int32)) [(.int (0 : Int32)), (.int (0 : Int32)), (.int (0 : Int32)), (.int (0 : Int32))] rfl rfl w5_ e0 (by decide) 4 rfl (by decide) (by decide) (by decide) (by decide) d3_72 (fun T1 h1 k1 b1 g1 X1 e1 E1 V1 => ?_)
  refine g_dup X1 hx hby d3_74 rfl ?_
  refine g_iconst X1 hx hby (0 : Int32) d3_75 rfl ?_
  refine g_aloadN X1 hx hby d3_76 rfl rfl ?_
  refine g_iconst X1 hx hby (0 : Int32) d3_77 rfl ?_
  have f2 := (VA.ext E1)
  refine g_caload X1 hx hby hZ e1 f2 (.int d0) ⟨by decide, by decide⟩ rfl d3_78 ?_
  have g_b1 : n0 ≤ b1 := Nat.le_trans Z0 (Nat.le_of_eq g1)
  refine g_castore X1 hx hby hZ e1 V1 0 [(.int d0), (.int (0 : Int32)), (.int (0 : Int32)), (.int (0 : Int32))] (by first | (rw [own_nc16 hr0]; done) | (rw [own_nc16 hr0]; rfl)) ⟨by decide, by decide⟩ rfl (Nat.le_of_ble_eq_true rfl) N0 g_b1 d3_79 (fun T3 h3 X3 e3 W3 V3 N3 => ?_)
  refine g_dup X3 hx hby d3_80 rfl ?_
  refine g_iconst X3 hx hby (1 : Int32) d3_81 rfl ?_
  refine g_aloadN X3 hx hby d3_82 rfl rfl ?_
  refine g_iconst X3 hx hby (1 : Int32) d3_83 rfl ?_
  have ne4 : ch ≠ b1 := (Nat.ne_of_lt (Nat.lt_of_lt_of_le VA.lt (Nat.le_of_eq g1)))
  have f5 := (f2.other W3 ne4)
  refine g_caload X3 hx hby hZ e3 f5 (.int d1) ⟨by decide, by decide⟩ rfl d3_84 ?_
  refine g_castore X3 hx hby hZ e3 V3 1 [(.int d0), (.int d1), (.int (0 : Int32)), (.int (0 : Int32))] (by first | (rw [own_nc16 hr1]; done) | (rw [own_nc16 hr1]; rfl)) ⟨by decide, by decide⟩ rfl (Nat.le_of_ble_eq_true rfl) N3 g_b1 d3_85 (fun T6 h6 X6 e6 W6 V6 N6 => ?_)
  refine g_dup X6 hx hby d3_86 rfl ?_
  refine g_iconst X6 hx hby (2 : Int32) d3_87 rfl ?_
  refine g_aloadN X6 hx hby d3_88 rfl rfl ?_
  refine g_iconst X6 hx hby (2 : Int32) d3_89 rfl ?_
  have f7 := (f5.other W6 ne4)
  refine g_caload X6 hx hby hZ e6 f7 (.int d2) ⟨by decide, by decide⟩ rfl d3_90 ?_
  refine g_castore X6 hx hby hZ e6 V6 2 [(.int d0), (.int d1), (.int d2), (.int (0 : Int32))] (by first | (rw [own_nc16 hr2]; done) | (rw [own_nc16 hr2]; rfl)) ⟨by decide, by decide⟩ rfl (Nat.le_of_ble_eq_true rfl) N6 g_b1 d3_91 (fun T8 h8 X8 e8 W8 V8 N8 => ?_)
  refine g_dup X8 hx hby d3_92 rfl ?_
  refine g_iconst X8 hx hby (3 : Int32) d3_93 rfl ?_
  refine g_aloadN X8 hx hby d3_94 rfl rfl ?_
  refine g_iconst X8 hx hby (3 : Int32) d3_95 rfl ?_
  have f9 := (f7.other W8 ne4)
  refine g_caload X8 hx hby hZ e8 f9 (.int d3) ⟨by decide, by decide⟩ rfl d3_96 ?_
  refine g_at 97 rfl rfl rfl ?_
  refine g_castore X8 hx hby hZ e8 V8 3 [(.int d0), (.int d1), (.int d2), (.int d3)] (by first | (rw [own_nc16 hr3]; done) | (rw [own_nc16 hr3]; rfl)) ⟨by decide, by decide⟩ rfl (Nat.le_of_ble_eq_true rfl) N8 g_b1 d3_97 (fun T10 h10 X10 e10 W10 V10 N10 => ?_)
  refine g_aret X10 hx hby (t := (.array .char)) rfl rfl rfl Bd.returns Bd.notSynchronized d3_98 e10 (by decide) (by decide) ?_
  show (Q_pref4 Z ch kc d0 d1 d2 d3 h0 n0) (some (.ref b1)) _ _
  exact ⟨N10, ((((((Keep.refl h0 []).ext E1).wr W3 (Or.inr (Nat.le_trans (Nat.le_refl _) (Nat.le_of_eq g1)))).wr W6 (Or.inr (Nat.le_trans (Nat.le_refl _) (Nat.le_of_eq g1)))).wr W8 (Or.inr (Nat.le_trans (Nat.le_refl _) (Nat.le_of_eq g1)))).wr W10 (Or.inr (Nat.le_trans (Nat.le_refl _) (Nat.le_of_eq g1)))), b1, k1, rfl, (Nat.le_trans (Nat.le_refl _) (Nat.le_of_eq g1)), V10⟩

theorem d5_8 : decode jdk_42_method_149_code 8 = .ok (.aload_n 0, 1) := by decide +kernel
theorem d5_9 : decode jdk_42_method_149_code 9 = .ok (.ldc 7, 2) := by decide +kernel
theorem d5_11 : decode jdk_42_method_149_code 11 = .ok (.getfield 9, 3) := by decide +kernel
theorem d5_14 : decode jdk_42_method_149_code 14 = .ok (.putfield 9, 3) := by decide +kernel
theorem d5_17 : decode jdk_42_method_149_code 17 = .ok (.aload_n 0, 1) := by decide +kernel
theorem d5_18 : decode jdk_42_method_149_code 18 = .ok (.ldc 7, 2) := by decide +kernel
theorem d5_20 : decode jdk_42_method_149_code 20 = .ok (.getfield 15, 3) := by decide +kernel
theorem d5_23 : decode jdk_42_method_149_code 23 = .ok (.putfield 15, 3) := by decide +kernel
theorem d5_26 : decode jdk_42_method_149_code 26 = .ok (.return_, 1) := by decide +kernel
def Q_ini2_e (Z : State) (a : Addr) (ca : Addr) (kc : ClassId) (cvs : List Value) (cz : Int32) (h0 : Heap) (n0 : Nat) (v : Option Value) (h : Heap) (L : List Loc) : Prop := v = none ∧ Fr n0 L ∧ Keep h0 h [a] ∧ ∃ (b : Addr) (kb : ClassId), a ≠ b ∧ Exa Z h a "java/lang/String" ∧ Fld Z h a "java/lang/String" "coder" "B" (.int (0 : Int32)) ∧ Fld Z h a "java/lang/String" "value" "[B" (.ref b) ∧ Arv Z h b kb .byte (0 : Int32) [] (.int (0 : Int32))
set_option maxRecDepth 65536 in
set_option maxHeartbeats 40000000 in
theorem rm_ini2_e (l : Launch) (Z : State) (a0 : Array Value) (hw : ∀ d ∈ tables_1, d.before a0 Z = true) (ws : List Jvm.Cond) (a : Addr) (ca : Addr) (kc : ClassId) (cvs : List Value) (cz : Int32) (h0 : Heap) (n0 : Nat) (Z0 : n0 ≤ h0.size) (O2 : Sta Z Z.heap "java/lang/String" "COMPACT_STRINGS" "Z" (.int cz)) (P5 : ¬ cz = (0 : Int32)) (OLD : Old Z n0 h0) (hheld : Jvm.Lit.constHeld Z "java/lang/String" 7) (hcw : Jvm.Lit.compactW.before a0 Z = true) (E : Exa Z h0 a "java/lang/String") (FC : Fld Z h0 a "java/lang/String" "coder" "B" (.int (0 : Int32))) (FV : Fld Z h0 a "java/lang/String" "value" "[B" .null) (VC : Arv Z h0 ca kc .char (0 : Int32) cvs (.int (0 : Int32))) (ga : n0 ≤ a) :
    MetFree l (⟨"java/lang/String", "<init>", "([CIILjava/lang/Void;)V"⟩ : MethodName) (head1 (Jvm.Cond.code (⟨"java/lang/String", "<init>", "([CIILjava/lang/Void;)V"⟩ : MethodName) jdk_42_method_149_code 6 none :: ws) ({ frames := 1, cells := 2, slots := 4, locals := 12 } : Room)) (fun aa_ U => aa_ = #[(.ref a), (.ref ca), (.int (0 : Int32)), (.int (0 : Int32)), .null] ∧ (Z.Warmed39 U.vm ∧ U.vm.interned = Z.vm.interned) ∧ U.heap = h0) (fun _ _ _ _ _ => True) (fun _ U o_ U' => RetW U (Q_ini2_e Z a ca kc cvs cz h0 n0) 2 4 U' o_) := by
  refine MetFree.of_bodySF (plainFor_of_name own_pn1) hisR ?_
  intro p e s m args below meth c_ s₁ Bd hml0 hP hK
  obtain ⟨rfl, ⟨hZ, hI0⟩, hh⟩ := hP
  have hx := Bd.exec
  have hby := Bd.bytes
  have hml : c_.maxLocals = 6 := hml0
  have hS0 : s.Since s.vm 0 := (State.WarmedH.refl s).since 0
  have hown : s.vm.findClass "java/lang/String" = some m.cls := findClass_of_methodNamed Bd.named
  have hnm := (name_of_methodNamed Bd.named Bd.method).1
  have X0 : Stand p l e ({ frames := 1, cells := 2, slots := 4, locals := 12 } : Room) (s.setVm s.vm) m #[(.ref a), (.ref ca), (.int (0 : Int32)), (.int (0 : Int32)), .null] below meth c_ s₁ [] 0 0 := Stand.of_body Bd
  have e0 : s₁.heap = h0 := by rw [← hh, Bd.state]; rfl
  have N0 := Fr.nil n0
  have w12_ := hw _ (List.mem_of_getElem? (i := 12) rfl)
  have w24_ := hw _ (List.mem_of_getElem? (i := 24) rfl)
  have w25_ := hw _ (List.mem_of_getElem? (i := 25) rfl)
  have w26_ := hw _ (List.mem_of_getElem? (i := 26) rfl)
  have w27_ := hw _ (List.mem_of_getElem? (i := 27) rfl)
  have w29_ := hw _ (List.mem_of_getElem? (i := 29) rfl)
  have w30_ := hw _ (List.mem_of_getElem? (i := 30) rfl)
  have w33_ := hw _ (List.mem_of_getElem? (i := 33) rfl)
  have w34_ := hw _ (List.mem_of_getElem? (i := 34) rfl)
  have hkeep : ∀ (b : Addr) (cl : Cell), Z.heap[b]? = some cl → s.heap[b]? = some cl := fun b cl q => by rw [hh]; exact OLD.2.2 b cl q
  have wS : ∀ d ∈ Bundle.stringAtoms, d.before a0 Z = true := fun d hd => hw d ((by decide +kernel : ∀ d ∈ Bundle.stringAtoms, d ∈ tables_1) d hd)
  show Go p e below (RetW s (Q_ini2_e Z a ca kc cvs cz h0 n0) 2 4) (s₁.setTop (entryFrame m #[(.ref a), (.ref ca), (.int (0 : Int32)), (.int (0 : Int32)), .null] 6))
  rw [show entryFrame m #[(.ref a), (.ref ca), (.int (0 : Int32)), (.int (0 : Int32)), .null] 6 = mkF m 0 #[.val (.ref a), .val (.ref ca), .val (.int (0 : Int32)), .val (.int (0 : Int32)), .val .null, .unset] [] from by first | (simp [entryFrame, mkF, argsToLocals, Value.category]; done) | rfl]
  refine g_aloadN X0 hx hby d5_0 rfl rfl ?_
  refine g_initO X0 hx hby hZ hown w24_ w25_ w26_ e0 (by rw [hml]; rfl) (Nat.le_of_ble_eq_true rfl) (Nat.le_of_ble_eq_true rfl) d5_1 (fun T1 X1 e1 => ?_)
  refine g_iloadN X1 hx hby d5_4 rfl ?_
  refine g_ifN X1 hx hby d5_5 (teq (by decide : (0 : Int32) = (0 : Int32))).2 ?_
  refine g_aloadN X1 hx hby d5_8 rfl rfl ?_
  refine g_ldcSV X1 hx hby hZ hown w27_ wS e1 hS0 (Nat.zero_le _) (Fr.nil _) hkeep hI0 hheld hcw [] (0 : Int32) ⟨by decide, by decide⟩ (by decide) rfl 0 (by decide) (by decide) (by decide) (by decide) d5_9 (fun a2 T2 h2 kk2 t2 kt2 X2 e2 E2 hS2 hk2 hZ2 ho2 Es2 Cs2 Vs2 Bs2 Li2 => ?_)
  have ne3 : a2 ≠ a := (Fld.ne Vs2 (FV.ext E2) nofun)
  refine g_getF X2 hx hby hZ2 ho2 (host := "") (Or.inl w33_) Via.refl e2 Vs2 d5_11 (fun T4 X4 e4 => ?_)
  have f5 := (E.ext E2)
  have f6 := (FV.ext E2)
  refine g_putF X4 hx hby hZ2 ho2 (host := "") (Or.inl w33_) Via.refl e4 f6 f5 (Or.inr ⟨w29_, rfl, hnm⟩) w12_ (.array .byte) (by decide) rfl rfl N0 ga d5_14 (fun T7 h7 X7 e7 W7 F7 N7 => ?_)
  refine g_aloadN X7 hx hby d5_17 rfl rfl ?_
  refine g_ldcAgain X7 hx hby hZ2 ho2 w27_ Li2 d5_18 ?_
  have f8 := (Cs2.other W7 (Or.inl ne3))
  refine g_getF X7 hx hby hZ2 ho2 (host := "") (Or.inl w34_) Via.refl e7 f8 d5_20 (fun T9 X9 e9 => ?_)
  have f10 := (f5.wr W7)
  have f11 := ((FC.ext E2).other W7 (Or.inr (slot_ne (Or.inr w30_) (Or.inr w29_) (by decide) (t := .byte) (t' := (.array .byte)) (by decide) (by decide))))
  refine g_putFN X9 hx hby hZ2 ho2 w34_ Via.refl e9 f11 f10 (Or.inr ⟨w30_, rfl, hnm⟩) w12_ .byte (by decide) (.int (0 : Int32)) rfl rfl N7 ga d5_23 (fun T12 h12 X12 e12 W12 F12 N12 => ?_)
  have ne13 : a ≠ t2 := (Exa.neArv f5 Bs2 w12_)
  have f14 := (f10.wr W12)
  have f15 := (F7.other W12 (Or.inr (slot_ne (Or.inr w29_) (Or.inr w30_) (by decide) (t := (.array .byte)) (t' := .byte) (by decide) (by decide))))
  have f16 := ((Bs2.other W7 (Ne.symm ne13)).other W12 (Ne.symm ne13))
  refine g_retW X12 hx hby Bd.returns Bd.notSynchronized hS2 d5_26 e12 (Nat.le_trans hk2 (Nat.le_trans (Keep.of_wr W7).1 (Keep.of_wr W12).1)) (by decide) (by decide) ?_
  show (Q_ini2_e Z a ca kc cvs cz h0 n0) none _ _
  exact ⟨rfl, N12, ((((Keep.refl h0 [a]).ext E2).wr W7 (Or.inl (List.mem_of_getElem? (i := 0) rfl))).wr W12 (Or.inl (List.mem_of_getElem? (i := 0) rfl))), t2, kt2, ne13, f14, F12, f15, f16⟩

def Q_ini1_e (Z : State) (a : Addr) (ca : Addr) (kc : ClassId) (cvs : List Value) (cz : Int32) (h0 : Heap) (n0 : Nat) (v : Option Value) (h : Heap) (L : List Loc) : Prop := v = none ∧ Fr n0 L ∧ Keep h0 h [a] ∧ ∃ (b : Addr) (kb : ClassId), a ≠ b ∧ Exa Z h a "java/lang/String" ∧ Fld Z h a "java/lang/String" "coder" "B" (.int (0 : Int32)) ∧ Fld Z h a "java/lang/String" "value" "[B" (.ref b) ∧ Arv Z h b kb .byte (0 : Int32) [] (.int (0 : Int32))
set_option maxRecDepth 65536 in
set_option maxHeartbeats 40000000 in
theorem rm_ini1_e (l : Launch) (Z : State) (a0 : Array Value) (hw : ∀ d ∈ tables_1, d.before a0 Z = true) (ws : List Jvm.Cond) (a : Addr) (ca : Addr) (kc : ClassId) (cvs : List Value) (cz : Int32) (h0 : Heap) (n0 : Nat) (Z0 : n0 ≤ h0.size) (O2 : Sta Z Z.heap "java/lang/String" "COMPACT_STRINGS" "Z" (.int cz)) (P5 : ¬ cz = (0 : Int32)) (OLD : Old Z n0 h0) (hheld : Jvm.Lit.constHeld Z "java/lang/String" 7) (hcw : Jvm.Lit.compactW.before a0 Z = true) (E : Exa Z h0 a "java/lang/String") (FC : Fld Z h0 a "java/lang/String" "coder" "B" (.int (0 : Int32))) (FV : Fld Z h0 a "java/lang/String" "value" "[B" .null) (VC : Arv Z h0 ca kc .char (0 : Int32) cvs (.int (0 : Int32))) (ga : n0 ≤ a) :
    MetFree l (⟨"java/lang/String", "<init>", "([C)V"⟩ : MethodName) (head1 (Jvm.Cond.code (⟨"java/lang/String", "<init>", "([C)V"⟩ : MethodName) jdk_42_method_3_code 2 none :: ws) ({ frames := 2, cells := 2, slots := 4, locals := 29 } : Room)) (fun aa_ U => aa_ = #[(.ref a), (.ref ca)] ∧ (Z.Warmed39 U.vm ∧ U.vm.interned = Z.vm.interned) ∧ U.heap = h0) (fun _ _ _ _ _ => True) (fun _ U o_ U' => RetW U (Q_ini1_e Z a ca kc cvs cz h0 n0) 2 4 U' o_) := by
  refine MetFree.of_bodySF (plainFor_of_name own_pn1) hisR ?_
  intro p e s m args below meth c_ s₁ Bd hml0 hP hK
  obtain ⟨rfl, ⟨hZ, hI0⟩, hh⟩ := hP
  have hx := Bd.exec
  have hby := Bd.bytes
  have hml : c_.maxLocals = 2 := hml0
  have hS0 : s.Since s.vm 0 := (State.WarmedH.refl s).since 0
  have hown : s.vm.findClass "java/lang/String" = some m.cls := findClass_of_methodNamed Bd.named
  have hnm := (name_of_methodNamed Bd.named Bd.method).1
  have X0 : Stand p l e ({ frames := 2, cells := 2, slots := 4, locals := 29 } : Room) (s.setVm s.vm) m #[(.ref a), (.ref ca)] below meth c_ s₁ [] 0 0 := Stand.of_body Bd
  have e0 : s₁.heap = h0 := by rw [← hh, Bd.state]; rfl
  have N0 := Fr.nil n0
  have w13_ := hw _ (List.mem_of_getElem? (i := 13) rfl)
  have w20_ := hw _ (List.mem_of_getElem? (i := 20) rfl)
  have w21_ := hw _ (List.mem_of_getElem? (i := 21) rfl)
  have w23_ := hw _ (List.mem_of_getElem? (i := 23) rfl)
  show Go p e below (RetW s (Q_ini1_e Z a ca kc cvs cz h0 n0) 2 4) (s₁.setTop (entryFrame m #[(.ref a), (.ref ca)] 2))
  rw [show entryFrame m #[(.ref a), (.ref ca)] 2 = mkF m 0 #[.val (.ref a), .val (.ref ca)] [] from by first | (simp [entryFrame, mkF, argsToLocals, Value.category]; done) | rfl]
  refine g_aloadN X0 hx hby d4_0 rfl rfl ?_
  refine g_aloadN X0 hx hby d4_1 rfl rfl ?_
  refine g_iconst X0 hx hby (0 : Int32) d4_2 rfl ?_
  refine g_aloadN X0 hx hby d4_3 rfl rfl ?_
  refine g_arraylength X0 hx hby hZ e0 VC d4_4 ?_
  refine g_aconst_null X0 hx hby d4_5 ?_
  refine g_specialW X0 hx hby hZ hown (PV := fun vm => Z.Warmed39 vm ∧ vm.interned = Z.vm.interned) (rm_ini2_e l Z a0 hw [] a ca kc cvs cz h0 n0 Z0 O2 P5 OLD hheld hcw E FC FV VC ga) (fun _ q => ⟨State.Warmed39.trans hZ q.wide, q.interned_eq.trans hI0⟩) hS0 (Nat.zero_le _) rfl rfl w20_ w21_ w13_ w23_ (by decide) e0 (by rw [hml]; rfl) [(.ref ca), (.int (0 : Int32)), (.int (0 : Int32)), .null] (lenOf own_pd7 rfl) rfl rfl (Nat.le_of_ble_eq_true rfl) (Nat.le_of_ble_eq_true rfl) (Nat.le_of_ble_eq_true rfl) (Nat.le_of_ble_eq_true rfl) d4_6 (fun v1 T1 L1 X1 hS1 hZ1 ho1 hQ1 => ?_)
  obtain ⟨rfl, N1q, R1⟩ := hQ1
  have N1 := Fr.app N0 N1q
  refine g_retW X1 hx hby Bd.returns Bd.notSynchronized hS1 d4_9 rfl (Nat.le_refl _) (by decide) (by decide) ?_
  show (Q_ini1_e Z a ca kc cvs cz h0 n0) none _ _
  exact ⟨rfl, N1, R1⟩

theorem own_pd17 : parseMethodDescriptor "(II)I" = some ⟨[.int, .int], some .int⟩ := by decide +kernel
theorem own_pd18 : parseMethodDescriptor "([CI)[C" = some ⟨[(.array .char), .int], some (.array .char)⟩ := by decide +kernel
theorem own_pd19 : parseMethodDescriptor "([C)V" = some ⟨[(.array .char)], none⟩ := by decide +kernel
theorem own_pd20 : parseMethodDescriptor "(Ljava/lang/String;)V" = some ⟨[(.object "java/lang/String")], none⟩ := by decide +kernel
def Q_law (Z : State) (pa : Int32) (pb : Int32) (pc0 : Int32) (pd : Int32) (pe : Int32) (fz : Value) (cz : Int32) (h0 : Heap) (n0 : Nat) (v : Option Value) (h : Heap) (L : List Loc) : Prop := v = some (.int 1) ∧ Fr n0 L
set_option maxRecDepth 65536 in
set_option maxHeartbeats 40000000 in
theorem rm_law (l : Launch) (Z : State) (a0 : Array Value) (hw : ∀ d ∈ tables_1, d.before a0 Z = true) (ws : List Jvm.Cond) (pa : Int32) (pb : Int32) (pc0 : Int32) (pd : Int32) (pe : Int32) (fz : Value) (cz : Int32) (h0 : Heap) (n0 : Nat) (Z0 : n0 ≤ h0.size) (O2 : Sta Z Z.heap "java/lang/String" "COMPACT_STRINGS" "Z" (.int cz)) (P5 : ¬ cz = (0 : Int32)) (OLD : Old Z n0 h0) (Uad : Sta Z Z.heap "java/lang/StringUTF16" "$assertionsDisabled" "Z" (.int (1 : Int32))) (Uhi : Sta Z Z.heap "java/lang/StringUTF16" "HI_BYTE_SHIFT" "I" (.int (0 : Int32))) (Ulo : Sta Z Z.heap "java/lang/StringUTF16" "LO_BYTE_SHIFT" "I" (.int (8 : Int32))) (rfz : Rf fz) (O4 : Sta Z Z.heap "jdk/internal/util/Preconditions" "SIOOBE_FORMATTER" "Ljava/util/function/BiFunction;" fz) (hheld : Jvm.Lit.constHeld Z "java/lang/String" 7) (hcw : Jvm.Lit.compactW.before a0 Z = true) :
    MetFree l Jvm.Pilot.@@N@@.x (head1 (Jvm.Cond.code Jvm.Pilot.@@N@@.x Jvm.Pilot.@@N@@.code Jvm.Pilot.@@N@@.maxLocals Jvm.Pilot.@@N@@.ret :: ws) room_1) (fun aa_ U => aa_ = #[(.int pa), (.int pb), (.int pc0), (.int pd), (.int pe)] ∧ (Z.Warmed39 U.vm ∧ U.vm.interned = Z.vm.interned) ∧ U.heap = h0) (fun _ _ _ _ _ => True) (fun _ U o_ U' => RetW U (Q_law Z pa pb pc0 pd pe fz cz h0 n0) 24 1152 U' o_) := by
  refine MetFree.of_bodySF (plainFor_of_name own_pn5) hisR ?_
  intro p e s m args below meth c_ s₁ Bd hml0 hP hK
  obtain ⟨rfl, ⟨hZ, hI0⟩, hh⟩ := hP
  have hx := Bd.exec
  have hby := Bd.bytes
  have hml : c_.maxLocals = 13 := hml0
  have hS0 : s.Since s.vm 0 := (State.WarmedH.refl s).since 0
  have hown : s.vm.findClass "com/example/pathloom/pathloom/web/ReaderSkipSpacePinLaw" = some m.cls := findClass_of_methodNamed Bd.named
  have hnm := (name_of_methodNamed Bd.named Bd.method).1
  have X0 : Stand p l e room_1 (s.setVm s.vm) m #[(.int pa), (.int pb), (.int pc0), (.int pd), (.int pe)] below meth c_ s₁ [] 0 0 := Stand.of_body Bd
  have e0 : s₁.heap = h0 := by rw [← hh, Bd.state]; rfl
  have N0 := Fr.nil n0
  have w0_ := hw _ (List.mem_of_getElem? (i := 0) rfl)
  have w1_ := hw _ (List.mem_of_getElem? (i := 1) rfl)
  have w2_ := hw _ (List.mem_of_getElem? (i := 2) rfl)
  have w3_ := hw _ (List.mem_of_getElem? (i := 3) rfl)
  have w4_ := hw _ (List.mem_of_getElem? (i := 4) rfl)
  have w5_ := hw _ (List.mem_of_getElem? (i := 5) rfl)
  have w6_ := hw _ (List.mem_of_getElem? (i := 6) rfl)
  have w7_ := hw _ (List.mem_of_getElem? (i := 7) rfl)
  have w8_ := hw _ (List.mem_of_getElem? (i := 8) rfl)
  have w9_ := hw _ (List.mem_of_getElem? (i := 9) rfl)
  have w11_ := hw _ (List.mem_of_getElem? (i := 11) rfl)
  have w12_ := hw _ (List.mem_of_getElem? (i := 12) rfl)
  have w13_ := hw _ (List.mem_of_getElem? (i := 13) rfl)
  have w14_ := hw _ (List.mem_of_getElem? (i := 14) rfl)
  have w15_ := hw _ (List.mem_of_getElem? (i := 15) rfl)
  have w16_ := hw _ (List.mem_of_getElem? (i := 16) rfl)
  have w17_ := hw _ (List.mem_of_getElem? (i := 17) rfl)
  have w18_ := hw _ (List.mem_of_getElem? (i := 18) rfl)
  have w19_ := hw _ (List.mem_of_getElem? (i := 19) rfl)
  have w29_ := hw _ (List.mem_of_getElem? (i := 29) rfl)
  have w30_ := hw _ (List.mem_of_getElem? (i := 30) rfl)
  have w35_ := hw _ (List.mem_of_getElem? (i := 35) rfl)
  have w36_ := hw _ (List.mem_of_getElem? (i := 36) rfl)
  have w37_ := hw _ (List.mem_of_getElem? (i := 37) rfl)
  have w38_ := hw _ (List.mem_of_getElem? (i := 38) rfl)
  have w39_ := hw _ (List.mem_of_getElem? (i := 39) rfl)
  have w40_ := hw _ (List.mem_of_getElem? (i := 40) rfl)
  have w43_ := hw _ (List.mem_of_getElem? (i := 43) rfl)
  have w44_ := hw _ (List.mem_of_getElem? (i := 44) rfl)
  have w45_ := hw _ (List.mem_of_getElem? (i := 45) rfl)
  have w46_ := hw _ (List.mem_of_getElem? (i := 46) rfl)
  have w47_ := hw _ (List.mem_of_getElem? (i := 47) rfl)
  have w48_ := hw _ (List.mem_of_getElem? (i := 48) rfl)
  have w50_ := hw _ (List.mem_of_getElem? (i := 50) rfl)
  have w51_ := hw _ (List.mem_of_getElem? (i := 51) rfl)
  have w52_ := hw _ (List.mem_of_getElem? (i := 52) rfl)
  have w53_ := hw _ (List.mem_of_getElem? (i := 53) rfl)
  have w55_ := hw _ (List.mem_of_getElem? (i := 55) rfl)
  have w67_ := hw _ (List.mem_of_getElem? (i := 67) rfl)
  have w78_ := hw _ (List.mem_of_getElem? (i := 78) rfl)
  have w79_ := hw _ (List.mem_of_getElem? (i := 79) rfl)
  have w80_ := hw _ (List.mem_of_getElem? (i := 80) rfl)
  have w103_ := hw _ (List.mem_of_getElem? (i := 103) rfl)
  have w104_ := hw _ (List.mem_of_getElem? (i := 104) rfl)
  have w105_ := hw _ (List.mem_of_getElem? (i := 105) rfl)
  have w106_ := hw _ (List.mem_of_getElem? (i := 106) rfl)
  have w107_ := hw _ (List.mem_of_getElem? (i := 107) rfl)
  show Go p e below (RetW s (Q_law Z pa pb pc0 pd pe fz cz h0 n0) 24 1152) (s₁.setTop (entryFrame m #[(.int pa), (.int pb), (.int pc0), (.int pd), (.int pe)] maxLocals))
  rw [show entryFrame m #[(.int pa), (.int pb), (.int pc0), (.int pd), (.int pe)] maxLocals = mkF m 0 #[.val (.int pa), .val (.int pb), .val (.int pc0), .val (.int pd), .val (.int pe), .unset, .unset, .unset, .unset, .unset, .unset, .unset, .unset] [] from by first | (simp [entryFrame, mkF, argsToLocals, Value.category, maxLocals]; done) | rfl]
  refine g_iload X0 hx hby at_0 rfl ?_
  refine g_ldcI X0 hx hby hZ hown w0_ at_2 ?_
  refine g_iand X0 hx hby at_4 ?_
  refine g_iconst X0 hx hby (5 : Int32) at_5 rfl ?_
  refine g_irem X0 hx hby at_6 (by decide) ?_
  refine g_istore X0 hx hby at_7 (l' := #[.val (.int pa), .val (.int pb), .val (.int pc0), .val (.int pd), .val (.int pe), .val (.int ((pe &&& (2147483647 : Int32)) % (5 : Int32))), .unset, .unset, .unset, .unset, .unset, .unset, .unset]) rfl ?_
  refine g_iload X0 hx hby at_9 rfl ?_
  refine g_bipush X0 hx hby (8 : Int32) at_11 rfl ?_
  refine g_iushr X0 hx hby at_13 ?_
  refine g_iconst X0 hx hby (3 : Int32) at_14 rfl ?_
  refine g_iand X0 hx hby at_15 ?_
  refine g_iload X0 hx hby at_16 rfl ?_
  refine g_static X0 hx hby hZ hown (rm_mmin l Z a0 hw [] (((pe.toUInt32 >>> ((8 : Int32) &&& 31).toUInt32).toInt32) &&& (3 : Int32)) ((pe &&& (2147483647 : Int32)) % (5 : Int32)) h0 n0 Z0 ) w1_ w2_ w3_ w4_ (by decide) e0 (by rw [hml]; rfl) [(.int (((pe.toUInt32 >>> ((8 : Int32) &&& 31).toUInt32).toInt32) &&& (3 : Int32))), (.int ((pe &&& (2147483647 : Int32)) % (5 : Int32)))] (lenOf own_pd17 rfl) rfl rfl (Nat.le_of_ble_eq_true rfl) (Nat.le_of_ble_eq_true rfl) (Nat.le_of_ble_eq_true rfl) (Nat.le_of_ble_eq_true rfl) at_18 (fun v1 T1 L1 X1 hQ1 => ?_)
  obtain ⟨rfl, N1q, eh1⟩ := hQ1
  have N1 := Fr.app N0 N1q
  refine g_istore X1 hx hby at_21 (l' := #[.val (.int pa), .val (.int pb), .val (.int pc0), .val (.int pd), .val (.int pe), .val (.int ((pe &&& (2147483647 : Int32)) % (5 : Int32))), .val (.int (own_min (((pe.toUInt32 >>> ((8 : Int32) &&& 31).toUInt32).toInt32) &&& (3 : Int32)) ((pe &&& (2147483647 : Int32)) % (5 : Int32)))), .unset, .unset, .unset, .unset, .unset, .unset]) rfl ?_
  refine g_iconst X1 hx hby (4 : Int32) at_23 rfl ?_
  refine g_newarray X1 hx hby hZ .char .char (.int (0 : Int32)) [(.int (0 : Int32)), (.int (0 : Int32)), (.int (0 : Int32)), (.int (0 : Int32))] rfl rfl w5_ eh1 (by decide) 4 rfl (by decide) (by decide) (by decide) (by decide) at_24 (fun T2 h2 k2 b2 g2 X2 e2 E2 V2 => ?_)
  refine g_astore X2 hx hby at_26 rfl (l' := #[.val (.int pa), .val (.int pb), .val (.int pc0), .val (.int pd), .val (.int pe), .val (.int ((pe &&& (2147483647 : Int32)) % (5 : Int32))), .val (.int (own_min (((pe.toUInt32 >>> ((8 : Int32) &&& 31).toUInt32).toInt32) &&& (3 : Int32)) ((pe &&& (2147483647 : Int32)) % (5 : Int32)))), .val (.ref b2), .unset, .unset, .unset, .unset, .unset]) rfl ?_
  refine g_aload X2 hx hby at_28 rfl rfl ?_
  refine g_iconst X2 hx hby (0 : Int32) at_30 rfl ?_
  refine g_iloadN X2 hx hby at_31 rfl ?_
  refine g_at 32 rfl rfl rfl ?_
  have z4 := (Nat.le_trans Z0 E2.1)
  refine g_static X2 hx hby hZ hown (rm_pick l Z a0 hw [] pa h2 n0 z4 ) w6_ w7_ w8_ w9_ (by decide) e2 (by rw [hml]; rfl) [(.int pa)] (lenOf own_pd15 rfl) rfl rfl (Nat.le_of_ble_eq_true rfl) (Nat.le_of_ble_eq_true rfl) (Nat.le_of_ble_eq_true rfl) (Nat.le_of_ble_eq_true rfl) at_32 (fun v3 T3 L3 X3 hQ3 => ?_)
  obtain ⟨rfl, N3q, eh3⟩ := hQ3
  have N3 := Fr.app N1 N3q
  have g_b2 : n0 ≤ b2 := Nat.le_trans Z0 (Nat.le_of_eq g2)
  refine g_castore X3 hx hby hZ eh3 V2 0 [(.int (nar .char (own_pk pa))), (.int (0 : Int32)), (.int (0 : Int32)), (.int (0 : Int32))] rfl ⟨by decide, by decide⟩ rfl (Nat.le_of_ble_eq_true rfl) N3 g_b2 at_35 (fun T5 h5 X5 e5 W5 V5 N5 => ?_)
  refine g_aload X5 hx hby at_36 rfl rfl ?_
  refine g_iconst X5 hx hby (1 : Int32) at_38 rfl ?_
  refine g_iloadN X5 hx hby at_39 rfl ?_
  have z7 := (Nat.le_trans z4 (Keep.of_wr W5).1)
  refine g_static X5 hx hby hZ hown (rm_pick l Z a0 hw [] pb h5 n0 z7 ) w6_ w7_ w8_ w9_ (by decide) e5 (by rw [hml]; rfl) [(.int pb)] (lenOf own_pd15 rfl) rfl rfl (Nat.le_of_ble_eq_true rfl) (Nat.le_of_ble_eq_true rfl) (Nat.le_of_ble_eq_true rfl) (Nat.le_of_ble_eq_true rfl) at_40 (fun v6 T6 L6 X6 hQ6 => ?_)
  obtain ⟨rfl, N6q, eh6⟩ := hQ6
  have N6 := Fr.app N5 N6q
  refine g_castore X6 hx hby hZ eh6 V5 1 [(.int (nar .char (own_pk pa))), (.int (nar .char (own_pk pb))), (.int (0 : Int32)), (.int (0 : Int32))] rfl ⟨by decide, by decide⟩ rfl (Nat.le_of_ble_eq_true rfl) N6 g_b2 at_43 (fun T8 h8 X8 e8 W8 V8 N8 => ?_)
  refine g_aload X8 hx hby at_44 rfl rfl ?_
  refine g_iconst X8 hx hby (2 : Int32) at_46 rfl ?_
  refine g_iloadN X8 hx hby at_47 rfl ?_
  have z10 := (Nat.le_trans z7 (Keep.of_wr W8).1)
  refine g_static X8 hx hby hZ hown (rm_pick l Z a0 hw [] pc0 h8 n0 z10 ) w6_ w7_ w8_ w9_ (by decide) e8 (by rw [hml]; rfl) [(.int pc0)] (lenOf own_pd15 rfl) rfl rfl (Nat.le_of_ble_eq_true rfl) (Nat.le_of_ble_eq_true rfl) (Nat.le_of_ble_eq_true rfl) (Nat.le_of_ble_eq_true rfl) at_48 (fun v9 T9 L9 X9 hQ9 => ?_)
  obtain ⟨rfl, N9q, eh9⟩ := hQ9
  have N9 := Fr.app N8 N9q
  refine g_at 51 rfl rfl rfl ?_
  refine g_castore X9 hx hby hZ eh9 V8 2 [(.int (nar .char (own_pk pa))), (.int (nar .char (own_pk pb))), (.int (nar .char (own_pk pc0))), (.int (0 : Int32))] rfl ⟨by decide, by decide⟩ rfl (Nat.le_of_ble_eq_true rfl) N9 g_b2 at_51 (fun T11 h11 X11 e11 W11 V11 N11 => ?_)
  refine g_aload X11 hx hby at_52 rfl rfl ?_
  refine g_iconst X11 hx hby (3 : Int32) at_54 rfl ?_
  refine g_iloadN X11 hx hby at_55 rfl ?_
  have z13 := (Nat.le_trans z10 (Keep.of_wr W11).1)
  refine g_static X11 hx hby hZ hown (rm_pick l Z a0 hw [] pd h11 n0 z13 ) w6_ w7_ w8_ w9_ (by decide) e11 (by rw [hml]; rfl) [(.int pd)] (lenOf own_pd15 rfl) rfl rfl (Nat.le_of_ble_eq_true rfl) (Nat.le_of_ble_eq_true rfl) (Nat.le_of_ble_eq_true rfl) (Nat.le_of_ble_eq_true rfl) at_56 (fun v12 T12 L12 X12 hQ12 => ?_)
  obtain ⟨rfl, N12q, eh12⟩ := hQ12
  have N12 := Fr.app N11 N12q
  refine g_castore X12 hx hby hZ eh12 V11 3 [(.int (nar .char (own_pk pa))), (.int (nar .char (own_pk pb))), (.int (nar .char (own_pk pc0))), (.int (nar .char (own_pk pd)))] rfl ⟨by decide, by decide⟩ rfl (Nat.le_of_ble_eq_true rfl) N12 g_b2 at_59 (fun T14 h14 X14 e14 W14 V14 N14 => ?_)
  have VQ := V14
  rw [own_nc16 (own_pkr pa), own_nc16 (own_pkr pb), own_nc16 (own_pkr pc0), own_nc16 (own_pkr pd)] at VQ
  obtain ⟨d0, e_d0⟩ : ∃ z, z = own_pk pa := ⟨_, rfl⟩
  have hr0 : 0 ≤ d0.toInt ∧ d0.toInt < 65536 := by rw [e_d0]; exact own_pkr _
  rw [← e_d0] at VQ
  clear e_d0
  obtain ⟨d1, e_d1⟩ : ∃ z, z = own_pk pb := ⟨_, rfl⟩
  have hr1 : 0 ≤ d1.toInt ∧ d1.toInt < 65536 := by rw [e_d1]; exact own_pkr _
  rw [← e_d1] at VQ
  clear e_d1
  obtain ⟨d2, e_d2⟩ : ∃ z, z = own_pk pc0 := ⟨_, rfl⟩
  have hr2 : 0 ≤ d2.toInt ∧ d2.toInt < 65536 := by rw [e_d2]; exact own_pkr _
  rw [← e_d2] at VQ
  clear e_d2
  obtain ⟨d3, e_d3⟩ : ∃ z, z = own_pk pd := ⟨_, rfl⟩
  have hr3 : 0 ≤ d3.toInt ∧ d3.toInt < 65536 := by rw [e_d3]; exact own_pkr _
  rw [← e_d3] at VQ
  clear e_d3
  obtain ⟨ln, e_ln⟩ : ∃ z, z = ((pe &&& (2147483647 : Int32)) % (5 : Int32)) := ⟨_, rfl⟩
  rw [← e_ln]
  have c_ln : ln = (0 : Int32) ∨ ln = (1 : Int32) ∨ ln = (2 : Int32) ∨ ln = (3 : Int32) ∨ ln = (4 : Int32) := by rw [e_ln]; exact own_mod5 _
  clear e_ln
  rcases c_ln with rfl | rfl | rfl | rfl | rfl
  · skip
    obtain ⟨J, e_J, hJm, hJ3⟩ := own_mn (x := ((pe.toUInt32 >>> ((8 : Int32) &&& 31).toUInt32).toInt32)) (m := (0 : Int32)) (M := 0) rfl
    rw [e_J]
    clear e_J
    refine g_new X14 hx hby hZ hown w11_ w12_ w13_ e14 (by decide) (by decide) at_60 (fun T15 h15 b15 g15 X15 e15 E15 A15 D15 => ?_)
    have F_value_b15 : Fld Z h15 b15 "java/lang/String" "value" "[B" .null := D15 (Or.inr w29_) (ty := (.array .byte)) (by decide)
    have F_coder_b15 : Fld Z h15 b15 "java/lang/String" "coder" "B" (.int (0 : Int32)) := D15 (Or.inr w30_) (ty := .byte) (by decide)
    refine g_dup X15 hx hby at_63 rfl ?_
    refine g_aload X15 hx hby at_64 rfl rfl ?_
    refine g_iload X15 hx hby at_66 rfl ?_
    have f17 := (VQ.ext E15)
    have z18 := (Nat.le_trans z13 (Nat.le_trans (Keep.of_wr W14).1 E15.1))
    refine g_static X15 hx hby hZ hown (rm_pref0 l Z a0 hw [] b2 k2 d0 d1 d2 d3 h15 n0 z18 f17 hr0 hr1 hr2 hr3) w14_ w15_ w8_ w16_ (by decide) e15 (by rw [hml]; rfl) [(.ref b2), (.int (0 : Int32))] (lenOf own_pd18 rfl) rfl rfl (Nat.le_of_ble_eq_true rfl) (Nat.le_of_ble_eq_true rfl) (Nat.le_of_ble_eq_true rfl) (Nat.le_of_ble_eq_true rfl) at_68 (fun v16 T16 L16 X16 hQ16 => ?_)
    obtain ⟨N16q, K16, pf16, kp16, rfl, lp16, Vp16⟩ := hQ16
    have N16 := Fr.app N14 N16q
    have f20 := (((((((OLD.ext E2).wr W5 g_b2).wr W8 g_b2).wr W11 g_b2).wr W14 g_b2).ext E15).keep K16 all0)
    have f21 := (A15.keep K16)
    have f22 := (F_coder_b15.keep K16 nin0)
    have f23 := (F_value_b15.keep K16 nin0)
    have g_b15 : n0 ≤ b15 := Nat.le_trans (Nat.le_trans z13 (Keep.of_wr W14).1) (Nat.le_of_eq g15)
    have z24 := (Nat.le_trans z18 K16.1)
    refine g_specialW X16 hx hby hZ hown (PV := fun vm => Z.Warmed39 vm ∧ vm.interned = Z.vm.interned) (rm_ini1_e l Z a0 hw [] b15 pf16 kp16 [] cz T16.heap n0 z24 O2 P5 f20 hheld hcw f21 f22 f23 Vp16 g_b15) (fun _ q => ⟨State.Warmed39.trans hZ q.wide, q.interned_eq.trans hI0⟩) hS0 (Nat.zero_le _) rfl rfl w17_ w18_ w13_ w19_ (by decide) rfl (by rw [hml]; rfl) [(.ref pf16)] (lenOf own_pd19 rfl) rfl rfl (Nat.le_of_ble_eq_true rfl) (Nat.le_of_ble_eq_true rfl) (Nat.le_of_ble_eq_true rfl) (Nat.le_of_ble_eq_true rfl) at_71 (fun v19 T19 L19 X19 hS19 hZ19 ho19 hQ19 => ?_)
    obtain ⟨rfl, N19q, K19, t19, kb19, nx19, Es19, Cs19, Vs19, Bs19⟩ := hQ19
    have N19 := Fr.app N16 N19q
    have D19 : own_D Z T19.heap b15 t19 kb19 [] 0 := Or.inl ⟨Cs19, [], Bs19, fun i hi => absurd hi (Nat.not_lt_zero i)⟩
    refine g_at 74 rfl rfl rfl ?_
    refine g_astore X19 hx hby at_74 rfl (l' := #[.val (.int pa), .val (.int pb), .val (.int pc0), .val (.int pd), .val (.int pe), .val (.int (0 : Int32)), .val (.int (Int32.ofNat J)), .val (.ref b2), .val (.ref b15), .unset, .unset, .unset, .unset]) rfl ?_
    refine g_iload X19 hx hby at_76 rfl ?_
    refine g_istore X19 hx hby at_78 (l' := #[.val (.int pa), .val (.int pb), .val (.int pc0), .val (.int pd), .val (.int pe), .val (.int (0 : Int32)), .val (.int (Int32.ofNat J)), .val (.ref b2), .val (.ref b15), .val (.int (Int32.ofNat J)), .unset, .unset, .unset]) rfl ?_
    have J25 : ∀ (T25 : State) (L25 : List Loc) (kv0 : Int32), Stand p l e room_1 (s.setVm T19.vm) m #[(.int pa), (.int pb), (.int pc0), (.int pd), (.int pe)] below meth c_ T25 L25 5 12 → T25.heap = T19.heap → Fr n0 L25 → (kv0 = Int32.ofNat (own_st 0 [d0, d1, d2, d3] J)) → Go p e below (RetW s (Q_law Z pa pb pc0 pd pe fz cz h0 n0) 24 1152) (T25.setTop (mkF m 101 #[.val (.int pa), .val (.int pb), .val (.int pc0), .val (.int pd), .val (.int pe), .val (.int (0 : Int32)), .val (.int (Int32.ofNat J)), .val (.ref b2), .val (.ref b15), .val (.int kv0), .unset, .unset, .unset] [])) := by
      intro T25 L25 kv0 X25 e25 N25 h_kv0
      obtain ⟨J1, e_J1⟩ : ∃ z, z = own_st 0 [d0, d1, d2, d3] J := ⟨_, rfl⟩
      have hle1 : J1 ≤ 0 := by rw [e_J1]; exact own_st_le hJm
      rw [← e_J1] at h_kv0
      subst h_kv0
      have J26 : ∀ (T26 : State) (L26 : List Loc) (kv1 : Int32), Stand p l e room_1 (s.setVm T19.vm) m #[(.int pa), (.int pb), (.int pc0), (.int pd), (.int pe)] below meth c_ T26 L26 5 12 → T26.heap = T19.heap → Fr n0 L26 → (kv1 = Int32.ofNat (own_st 0 [d0, d1, d2, d3] J1)) → Go p e below (RetW s (Q_law Z pa pb pc0 pd pe fz cz h0 n0) 24 1152) (T26.setTop (mkF m 122 #[.val (.int pa), .val (.int pb), .val (.int pc0), .val (.int pd), .val (.int pe), .val (.int (0 : Int32)), .val (.int (Int32.ofNat J)), .val (.ref b2), .val (.ref b15), .val (.int kv1), .unset, .unset, .unset] [])) := by
        intro T26 L26 kv1 X26 e26 N26 h_kv1
        obtain ⟨J2, e_J2⟩ : ∃ z, z = own_st 0 [d0, d1, d2, d3] J1 := ⟨_, rfl⟩
        have hle2 : J2 ≤ 0 := by rw [e_J2]; exact own_st_le hle1
        rw [← e_J2] at h_kv1
        subst h_kv1
        have J27 : ∀ (T27 : State) (L27 : List Loc) (kv2 : Int32), Stand p l e room_1 (s.setVm T19.vm) m #[(.int pa), (.int pb), (.int pc0), (.int pd), (.int pe)] below meth c_ T27 L27 5 12 → T27.heap = T19.heap → Fr n0 L27 → (kv2 = Int32.ofNat (own_st 0 [d0, d1, d2, d3] J2)) → Go p e below (RetW s (Q_law Z pa pb pc0 pd pe fz cz h0 n0) 24 1152) (T27.setTop (mkF m 143 #[.val (.int pa), .val (.int pb), .val (.int pc0), .val (.int pd), .val (.int pe), .val (.int (0 : Int32)), .val (.int (Int32.ofNat J)), .val (.ref b2), .val (.ref b15), .val (.int kv2), .unset, .unset, .unset] [])) := by
          intro T27 L27 kv2 X27 e27 N27 h_kv2
          obtain ⟨J3, e_J3⟩ : ∃ z, z = own_st 0 [d0, d1, d2, d3] J2 := ⟨_, rfl⟩
          have hle3 : J3 ≤ 0 := by rw [e_J3]; exact own_st_le hle2
          rw [← e_J3] at h_kv2
          subst h_kv2
          have J28 : ∀ (T28 : State) (L28 : List Loc) (kv3 : Int32), Stand p l e room_1 (s.setVm T19.vm) m #[(.int pa), (.int pb), (.int pc0), (.int pd), (.int pe)] below meth c_ T28 L28 5 12 → T28.heap = T19.heap → Fr n0 L28 → (kv3 = Int32.ofNat (own_st 0 [d0, d1, d2, d3] J3)) → Go p e below (RetW s (Q_law Z pa pb pc0 pd pe fz cz h0 n0) 24 1152) (T28.setTop (mkF m 164 #[.val (.int pa), .val (.int pb), .val (.int pc0), .val (.int pd), .val (.int pe), .val (.int (0 : Int32)), .val (.int (Int32.ofNat J)), .val (.ref b2), .val (.ref b15), .val (.int kv3), .unset, .unset, .unset] [])) := by
            intro T28 L28 kv3 X28 e28 N28 h_kv3
            obtain ⟨J4, e_J4⟩ : ∃ z, z = own_st 0 [d0, d1, d2, d3] J3 := ⟨_, rfl⟩
            have hle4 : J4 ≤ 0 := by rw [e_J4]; exact own_st_le hle3
            rw [← e_J4] at h_kv3
            subst h_kv3
            refine g_new X28 hx hby hZ19 ho19 w35_ w36_ w37_ e28 (by decide) (by decide) at_164 (fun T29 h29 b29 g29 X29 e29 E29 A29 D29 => ?_)
            have F_text_b29 : Fld Z h29 b29 "com/example/pathloom/pathloom/web/MediaType$Reader" "text" "Ljava/lang/String;" .null := D29 (Or.inr w43_) (ty := (.object "java/lang/String")) (by decide)
            have F_position_b29 : Fld Z h29 b29 "com/example/pathloom/pathloom/web/MediaType$Reader" "position" "I" (.int (0 : Int32)) := D29 (Or.inl w55_) (ty := .int) (by decide)
            refine g_dup X29 hx hby at_167 rfl ?_
            refine g_aload X29 hx hby at_168 rfl rfl ?_
            have g_b29 : n0 ≤ b29 := Nat.le_trans (Nat.le_trans z24 K19.1) (Nat.le_of_eq g29)
            have z31 := (Nat.le_trans z24 (Nat.le_trans K19.1 E29.1))
            refine g_special X29 hx hby hZ19 ho19 (rm_rdini l Z a0 hw [] b29 b15 h29 n0 z31 A29 F_text_b29 F_position_b29 g_b29) rfl rfl w38_ w39_ w37_ w40_ (by decide) e29 (by rw [hml]; rfl) [(.ref b15)] (lenOf own_pd20 rfl) rfl rfl (Nat.le_of_ble_eq_true rfl) (Nat.le_of_ble_eq_true rfl) (Nat.le_of_ble_eq_true rfl) (Nat.le_of_ble_eq_true rfl) at_170 (fun v30 T30 L30 X30 hQ30 => ?_)
            obtain ⟨rfl, N30q, K30, Er30, Tr30, Pr30⟩ := hQ30
            have N30 := Fr.app N28 N30q
            refine g_astore X30 hx hby at_173 rfl (l' := #[.val (.int pa), .val (.int pb), .val (.int pc0), .val (.int pd), .val (.int pe), .val (.int (0 : Int32)), .val (.int (Int32.ofNat J)), .val (.ref b2), .val (.ref b15), .val (.int (Int32.ofNat J4)), .val (.ref b29), .unset, .unset]) rfl ?_
            refine g_iconst X30 hx hby (1 : Int32) at_175 rfl ?_
            refine g_istore X30 hx hby at_176 (l' := #[.val (.int pa), .val (.int pb), .val (.int pc0), .val (.int pd), .val (.int pe), .val (.int (0 : Int32)), .val (.int (Int32.ofNat J)), .val (.ref b2), .val (.ref b15), .val (.int (Int32.ofNat J4)), .val (.ref b29), .val (.int (1 : Int32)), .unset]) rfl ?_
            have z32 := (Nat.le_trans z31 K30.1)
            have ne33 : b29 ≠ b15 := (Ne.symm (Nat.ne_of_lt (Nat.lt_of_lt_of_le A15.lt (Nat.le_trans (Nat.le_trans K16.1 K19.1) (Nat.le_of_eq g29)))))
            have ne34 : b29 ≠ t19 := (Ne.symm (Nat.ne_of_lt (Nat.lt_of_lt_of_le D19.lt (Nat.le_of_eq g29))))
            have JT : ∀ (T9 : State) (L9 : List Loc) (h9 : Heap), Stand p l e room_1 (s.setVm T19.vm) m #[(.int pa), (.int pb), (.int pc0), (.int pd), (.int pe)] below meth c_ T9 L9 6 14 → T9.heap = h9 → Fr n0 L9 → ((T30.heap).size ≤ h9.size) → (Old Z n0 h9) → (Exa Z h9 b29 "com/example/pathloom/pathloom/web/MediaType$Reader") → (Fld Z h9 b29 "com/example/pathloom/pathloom/web/MediaType$Reader" "text" "Ljava/lang/String;" (.ref b15)) → (Fld Z h9 b29 "com/example/pathloom/pathloom/web/MediaType$Reader" "position" "I" (.int (Int32.ofNat J))) → (Exa Z h9 b15 "java/lang/String") → (Fld Z h9 b15 "java/lang/String" "value" "[B" (.ref t19)) → (own_D Z h9 b15 t19 kb19 [] 0) → (Arv Z h9 b2 k2 .char (4 : Int32) [(.int d0), (.int d1), (.int d2), (.int d3)] (.int (0 : Int32))) →  Go p e below (RetW s (Q_law Z pa pb pc0 pd pe fz cz h0 n0) 24 1152) (T9.setTop (mkF m 238 #[.val (.int pa), .val (.int pb), .val (.int pc0), .val (.int pd), .val (.int pe), .val (.int (0 : Int32)), .val (.int (Int32.ofNat J)), .val (.ref b2), .val (.ref b15), .val (.int (Int32.ofNat J4)), .val (.ref b29), .val (.int (1 : Int32)), .unset] [])) := by
              intro T9 L9 h9 X9 e9 N9 hsz9 OL9 rE9 rT9 rP9 E9 VF9 D9 VC9
              have z9 : n0 ≤ h9.size := Nat.le_trans z32 hsz9
              refine g_aload X9 hx hby at_238 rfl rfl ?_
              refine g_virtual X9 hx hby hZ19 ho19 (rm_rdskip l Z a0 hw [] b29 b15 t19 kb19 [] 0 J fz cz h9 n0 z9 O2 P5 OL9 Uad Uhi Ulo E9 VF9 D9 rfl (by decide) (fun i hi => absurd hi (Nat.not_lt_zero i)) rE9 rT9 rP9 hJm rfz O4 g_b29 ne33 ne34) w44_ w45_ (notFace_of_selects (args := #[]) (mvT hZ19 w47_)) w47_ w46_ w37_ w48_ (by decide) e9 rE9 (by rw [hml]; rfl) [] (lenOf own_pd13 rfl) rfl rfl (Nat.le_of_ble_eq_true rfl) (Nat.le_of_ble_eq_true rfl) (Nat.le_of_ble_eq_true rfl) (Nat.le_of_ble_eq_true rfl) at_240 (fun v35 T35 L35 X35 hQ35 => ?_)
              obtain ⟨rfl, N35q, K35, Er35, Tr35, Pr35⟩ := hQ35
              have N35 := Fr.app N9 N35q
              have eK : own_sk (0 - J) [] J = J4 := by rw [own_it4 (ds := [d0, d1, d2, d3]) (fun i hi => absurd hi (Nat.not_lt_zero i)) hJm (by decide), ← e_J1, ← e_J2, ← e_J3, ← e_J4]
              rw [eK] at Pr35
              refine g_istore X35 hx hby at_243 (l' := #[.val (.int pa), .val (.int pb), .val (.int pc0), .val (.int pd), .val (.int pe), .val (.int (0 : Int32)), .val (.int (Int32.ofNat J)), .val (.ref b2), .val (.ref b15), .val (.int (Int32.ofNat J4)), .val (.ref b29), .val (.int (1 : Int32)), .val (.int (1 : Int32))]) rfl ?_
              refine g_iconst X35 hx hby (0 : Int32) at_245 rfl ?_
              refine g_iload X35 hx hby at_246 rfl ?_
              refine g_icN X35 hx hby at_248 (flt ((fun q => absurd ((own_ltI (a := 0) (b := J4) (by omega) (by omega)).mp q) (by omega)) : ¬ ((0 : Int32) < (Int32.ofNat J4)))).1 ?_
              refine g_iconst X35 hx hby (0 : Int32) at_251 rfl ?_
              refine g_iload X35 hx hby at_252 rfl ?_
              refine g_icY X35 hx hby 271 at_254 (flt (by decide : ¬ ((0 : Int32) < (0 : Int32)))).2.1 (by decide) (by decide) ?_
              refine g_iconst X35 hx hby (1 : Int32) at_271 rfl ?_
              refine g_iload X35 hx hby at_272 rfl ?_
              refine g_icN X35 hx hby at_274 (flt ((fun q => absurd ((own_ltI (a := 1) (b := J4) (by omega) (by omega)).mp q) (by omega)) : ¬ ((1 : Int32) < (Int32.ofNat J4)))).1 ?_
              refine g_iconst X35 hx hby (1 : Int32) at_277 rfl ?_
              refine g_iload X35 hx hby at_278 rfl ?_
              refine g_icY X35 hx hby 297 at_280 (flt (by decide : ¬ ((1 : Int32) < (0 : Int32)))).2.1 (by decide) (by decide) ?_
              refine g_iconst X35 hx hby (2 : Int32) at_297 rfl ?_
              refine g_iload X35 hx hby at_298 rfl ?_
              refine g_icN X35 hx hby at_300 (flt ((fun q => absurd ((own_ltI (a := 2) (b := J4) (by omega) (by omega)).mp q) (by omega)) : ¬ ((2 : Int32) < (Int32.ofNat J4)))).1 ?_
              refine g_iconst X35 hx hby (2 : Int32) at_303 rfl ?_
              refine g_iload X35 hx hby at_304 rfl ?_
              refine g_icY X35 hx hby 323 at_306 (flt (by decide : ¬ ((2 : Int32) < (0 : Int32)))).2.1 (by decide) (by decide) ?_
              refine g_iconst X35 hx hby (3 : Int32) at_323 rfl ?_
              refine g_iload X35 hx hby at_324 rfl ?_
              refine g_icN X35 hx hby at_326 (flt ((fun q => absurd ((own_ltI (a := 3) (b := J4) (by omega) (by omega)).mp q) (by omega)) : ¬ ((3 : Int32) < (Int32.ofNat J4)))).1 ?_
              refine g_iconst X35 hx hby (3 : Int32) at_329 rfl ?_
              refine g_iload X35 hx hby at_330 rfl ?_
              refine g_icY X35 hx hby 349 at_332 (flt (by decide : ¬ ((3 : Int32) < (0 : Int32)))).2.1 (by decide) (by decide) ?_
              have hK : J4 = 0 := by
                omega
              subst hK
              refine g_iload X35 hx hby at_349 rfl ?_
              refine g_aload X35 hx hby at_351 rfl rfl ?_
              have f37 := (OL9.keep K35 (allS g_b29 all0))
              have f38 := (E9.keep K35)
              have f39 := (VF9.keep K35 (ninS (Ne.symm ne33) nin0))
              have f40 := (D9.keep K35 (ninS (Ne.symm ne33) nin0) (ninS (Ne.symm ne34) nin0))
              have f41 := (rE9.keep K35)
              have z42 := (Nat.le_trans z9 K35.1)
              refine g_virtual X35 hx hby hZ19 ho19 (rm_rdend l Z a0 hw [] b29 b15 t19 kb19 [] 0 (0 : Int32) cz T35.heap n0 z42 O2 P5 f37 f38 f39 f40 rfl (by decide) f41 Tr35 Pr35) w67_ w50_ (notFace_of_selects (args := #[]) (mvT hZ19 w52_)) w52_ w51_ w37_ w53_ (by decide) rfl f41 (by rw [hml]; rfl) [] (lenOf own_pd13 rfl) rfl rfl (Nat.le_of_ble_eq_true rfl) (Nat.le_of_ble_eq_true rfl) (Nat.le_of_ble_eq_true rfl) (Nat.le_of_ble_eq_true rfl) at_353 (fun v36 T36 L36 X36 hQ36 => ?_)
              obtain ⟨rfl, N36q, eh36⟩ := hQ36
              have N36 := Fr.app N35 N36q
              refine g_topI (T := T36) (1 : Int32) (if_pos rfl) ?_
              refine g_iand X36 hx hby at_356 ?_
              refine g_topI (1 : Int32) (by decide) ?_
              refine g_istore X36 hx hby at_357 (l' := #[.val (.int pa), .val (.int pb), .val (.int pc0), .val (.int pd), .val (.int pe), .val (.int (0 : Int32)), .val (.int (Int32.ofNat J)), .val (.ref b2), .val (.ref b15), .val (.int (0 : Int32)), .val (.ref b29), .val (.int (1 : Int32)), .val (.int (1 : Int32))]) rfl ?_
              refine g_iload X36 hx hby at_359 rfl ?_
              refine g_ifN X36 hx hby at_361 (feq (by decide : ¬ ((1 : Int32) = (0 : Int32)))).1 ?_
              refine g_iload X36 hx hby at_364 rfl ?_
              refine g_ifN X36 hx hby at_366 (feq (by decide : ¬ ((1 : Int32) = (0 : Int32)))).1 ?_
              refine g_iconst X36 hx hby (1 : Int32) at_369 rfl ?_
              refine g_goto X36 hx hby 374 at_370 (by decide) (by decide) ?_
              refine g_nretW X36 hx hby (t := .boolean) (by simp) Bd.returns Bd.notSynchronized hS19 at_374 eh36 (Nat.le_trans (Nat.le_trans (Nat.le_trans (Nat.le_refl _) (Nat.le_trans E29.1 K30.1)) hsz9) K35.1) (by decide) (by decide) ?_
              show (Q_law Z pa pb pc0 pd pe fz cz h0 n0) (some (.int (1 : Int32))) _ _
              exact ⟨rfl, N36⟩
            refine g_iload X30 hx hby at_178 rfl ?_
            refine g_iconst X30 hx hby (1 : Int32) at_180 rfl ?_
            refine g_icY X30 hx hby 198 at_181 (tlt ((own_ltn (N := 1) rfl (by omega)) : (Int32.ofNat J) < (1 : Int32))).1 (by decide) (by decide) ?_
            refine g_iload X30 hx hby at_198 rfl ?_
            refine g_iconst X30 hx hby (2 : Int32) at_200 rfl ?_
            refine g_icY X30 hx hby 218 at_201 (tlt ((own_ltn (N := 2) rfl (by omega)) : (Int32.ofNat J) < (2 : Int32))).1 (by decide) (by decide) ?_
            refine g_iload X30 hx hby at_218 rfl ?_
            refine g_iconst X30 hx hby (3 : Int32) at_220 rfl ?_
            refine g_icY X30 hx hby 238 at_221 (tlt ((own_ltn (N := 3) rfl (by omega)) : (Int32.ofNat J) < (3 : Int32))).1 (by decide) (by decide) ?_
            have hJe : J = 0 := by
              omega
            have f43 := (((f20.keep K19 (allS g_b15 all0)).ext E29).keep K30 (allS g_b29 all0))
            have f44 := ((Es19.ext E29).keep K30)
            have f45 := ((Vs19.ext E29).keep K30 (ninS (Ne.symm ne33) nin0))
            have f46 := ((D19.ext E29).keep K30 (ninS (Ne.symm ne33) nin0) (ninS (Ne.symm ne34) nin0))
            have ne47 : b2 ≠ b15 := (Nat.ne_of_lt (Nat.lt_of_lt_of_le V2.lt (Nat.le_trans (Nat.le_trans (Nat.le_trans (Nat.le_trans (Keep.of_wr W5).1 (Keep.of_wr W8).1) (Keep.of_wr W11).1) (Keep.of_wr W14).1) (Nat.le_of_eq g15))))
            have ne48 : b2 ≠ b29 := (Nat.ne_of_lt (Nat.lt_of_lt_of_le V2.lt (Nat.le_trans (Nat.le_trans (Nat.le_trans (Nat.le_trans (Nat.le_trans (Nat.le_trans (Nat.le_trans (Keep.of_wr W5).1 (Keep.of_wr W8).1) (Keep.of_wr W11).1) (Keep.of_wr W14).1) E15.1) K16.1) K19.1) (Nat.le_of_eq g29))))
            have f49 := ((((f17.keep K16 nin0).keep K19 (ninS ne47 nin0)).ext E29).keep K30 (ninS ne48 nin0))
            exact JT _ _ _ X30 rfl N30 (Nat.le_refl _) f43 Er30 Tr30 (by rw [hJe]; exact Pr30) f44 f45 f46 f49
          refine g_iload X27 hx hby at_143 rfl ?_
          refine g_iload X27 hx hby at_145 rfl ?_
          by_cases hc147_50 : (Int32.ofNat J3) < (0 : Int32)
          · skip
            refine g_icN X27 hx hby at_147 (tlt hc147_50).2.1 ?_
            refine g_aload X27 hx hby at_150 rfl rfl ?_
            refine g_iload X27 hx hby at_152 rfl ?_
            have ne51 : b2 ≠ b15 := (Nat.ne_of_lt (Nat.lt_of_lt_of_le V2.lt (Nat.le_trans (Nat.le_trans (Nat.le_trans (Nat.le_trans (Keep.of_wr W5).1 (Keep.of_wr W8).1) (Keep.of_wr W11).1) (Keep.of_wr W14).1) (Nat.le_of_eq g15))))
            have f52 := ((f17.keep K16 nin0).keep K19 (ninS ne51 nin0))
            refine g_caload X27 hx hby hZ19 e27 f52 (.int ([d0, d1, d2, d3].getD J3 0)) (own_in2 (M := 4) (by have := (own_ltI (a := J3) (b := 0) (by omega) (by omega)).mp hc147_50; omega) (by omega)) (by rw [own_tn2 (by omega)]; exact own_getD [d0, d1, d2, d3] J3) at_154 ?_
            have z54 := (Nat.le_trans z24 K19.1)
            refine g_static X27 hx hby hZ19 ho19 (rm_blank l Z a0 hw [] ([d0, d1, d2, d3].getD J3 0) T19.heap n0 z54 ) w78_ w79_ w8_ w80_ (by decide) e27 (by rw [hml]; rfl) [(.int ([d0, d1, d2, d3].getD J3 0))] (lenOf own_pd16 rfl) rfl rfl (Nat.le_of_ble_eq_true rfl) (Nat.le_of_ble_eq_true rfl) (Nat.le_of_ble_eq_true rfl) (Nat.le_of_ble_eq_true rfl) at_155 (fun v53 T53 L53 X53 hQ53 => ?_)
            obtain ⟨rfl, N53q, eh53⟩ := hQ53
            have N53 := Fr.app N27 N53q
            by_cases hc158_55 : (own_blk ([d0, d1, d2, d3].getD J3 0)) = (0 : Int32)
            · skip
              refine g_ifY X53 hx hby 164 at_158 (teq hc158_55).1 (by decide) (by decide) ?_
              exact J28 _ _ _ X53 eh53 N53 (by rw [own_st, if_neg (fun q => by rw [hc158_55] at q; exact absurd q.2 (by decide))])
            · skip
              refine g_ifN X53 hx hby at_158 (feq hc158_55).1 ?_
              refine g_iinc X53 hx hby ((Int32.ofNat J3) + (1 : Int32)) at_161 rfl rfl (l' := #[.val (.int pa), .val (.int pb), .val (.int pc0), .val (.int pd), .val (.int pe), .val (.int (0 : Int32)), .val (.int (Int32.ofNat J)), .val (.ref b2), .val (.ref b15), .val (.int ((Int32.ofNat J3) + (1 : Int32))), .unset, .unset, .unset]) rfl ?_
              exact J28 _ _ _ X53 eh53 N53 (by rw [own_st, if_pos ⟨(own_ltI (a := J3) (b := 0) (by omega) (by omega)).mp hc147_50, own_blk1 hc158_55⟩, own_up])
          · skip
            refine g_icY X27 hx hby 164 at_147 (flt hc147_50).2.1 (by decide) (by decide) ?_
            exact J28 _ _ _ X27 e27 N27 (by rw [own_st, if_neg (fun q => hc147_50 ((own_ltI (a := J3) (b := 0) (by omega) (by omega)).mpr q.1))])
        refine g_iload X26 hx hby at_122 rfl ?_
        refine g_iload X26 hx hby at_124 rfl ?_
        by_cases hc126_56 : (Int32.ofNat J2) < (0 : Int32)
        · skip
          refine g_icN X26 hx hby at_126 (tlt hc126_56).2.1 ?_
          refine g_aload X26 hx hby at_129 rfl rfl ?_
          refine g_iload X26 hx hby at_131 rfl ?_
          have ne57 : b2 ≠ b15 := (Nat.ne_of_lt (Nat.lt_of_lt_of_le V2.lt (Nat.le_trans (Nat.le_trans (Nat.le_trans (Nat.le_trans (Keep.of_wr W5).1 (Keep.of_wr W8).1) (Keep.of_wr W11).1) (Keep.of_wr W14).1) (Nat.le_of_eq g15))))
          have f58 := ((f17.keep K16 nin0).keep K19 (ninS ne57 nin0))
          refine g_caload X26 hx hby hZ19 e26 f58 (.int ([d0, d1, d2, d3].getD J2 0)) (own_in2 (M := 4) (by have := (own_ltI (a := J2) (b := 0) (by omega) (by omega)).mp hc126_56; omega) (by omega)) (by rw [own_tn2 (by omega)]; exact own_getD [d0, d1, d2, d3] J2) at_133 ?_
          have z60 := (Nat.le_trans z24 K19.1)
          refine g_static X26 hx hby hZ19 ho19 (rm_blank l Z a0 hw [] ([d0, d1, d2, d3].getD J2 0) T19.heap n0 z60 ) w78_ w79_ w8_ w80_ (by decide) e26 (by rw [hml]; rfl) [(.int ([d0, d1, d2, d3].getD J2 0))] (lenOf own_pd16 rfl) rfl rfl (Nat.le_of_ble_eq_true rfl) (Nat.le_of_ble_eq_true rfl) (Nat.le_of_ble_eq_true rfl) (Nat.le_of_ble_eq_true rfl) at_134 (fun v59 T59 L59 X59 hQ59 => ?_)
          obtain ⟨rfl, N59q, eh59⟩ := hQ59
          have N59 := Fr.app N26 N59q
          by_cases hc137_61 : (own_blk ([d0, d1, d2, d3].getD J2 0)) = (0 : Int32)
          · skip
            refine g_ifY X59 hx hby 143 at_137 (teq hc137_61).1 (by decide) (by decide) ?_
            exact J27 _ _ _ X59 eh59 N59 (by rw [own_st, if_neg (fun q => by rw [hc137_61] at q; exact absurd q.2 (by decide))])
          · skip
            refine g_ifN X59 hx hby at_137 (feq hc137_61).1 ?_
            refine g_iinc X59 hx hby ((Int32.ofNat J2) + (1 : Int32)) at_140 rfl rfl (l' := #[.val (.int pa), .val (.int pb), .val (.int pc0), .val (.int pd), .val (.int pe), .val (.int (0 : Int32)), .val (.int (Int32.ofNat J)), .val (.ref b2), .val (.ref b15), .val (.int ((Int32.ofNat J2) + (1 : Int32))), .unset, .unset, .unset]) rfl ?_
            exact J27 _ _ _ X59 eh59 N59 (by rw [own_st, if_pos ⟨(own_ltI (a := J2) (b := 0) (by omega) (by omega)).mp hc126_56, own_blk1 hc137_61⟩, own_up])
        · skip
          refine g_icY X26 hx hby 143 at_126 (flt hc126_56).2.1 (by decide) (by decide) ?_
          exact J27 _ _ _ X26 e26 N26 (by rw [own_st, if_neg (fun q => hc126_56 ((own_ltI (a := J2) (b := 0) (by omega) (by omega)).mpr q.1))])
      refine g_iload X25 hx hby at_101 rfl ?_
      refine g_iload X25 hx hby at_103 rfl ?_
      by_cases hc105_62 : (Int32.ofNat J1) < (0 : Int32)
      · skip
        refine g_icN X25 hx hby at_105 (tlt hc105_62).2.1 ?_
        refine g_aload X25 hx hby at_108 rfl rfl ?_
        refine g_iload X25 hx hby at_110 rfl ?_
        have ne63 : b2 ≠ b15 := (Nat.ne_of_lt (Nat.lt_of_lt_of_le V2.lt (Nat.le_trans (Nat.le_trans (Nat.le_trans (Nat.le_trans (Keep.of_wr W5).1 (Keep.of_wr W8).1) (Keep.of_wr W11).1) (Keep.of_wr W14).1) (Nat.le_of_eq g15))))
        have f64 := ((f17.keep K16 nin0).keep K19 (ninS ne63 nin0))
        refine g_caload X25 hx hby hZ19 e25 f64 (.int ([d0, d1, d2, d3].getD J1 0)) (own_in2 (M := 4) (by have := (own_ltI (a := J1) (b := 0) (by omega) (by omega)).mp hc105_62; omega) (by omega)) (by rw [own_tn2 (by omega)]; exact own_getD [d0, d1, d2, d3] J1) at_112 ?_
        have z66 := (Nat.le_trans z24 K19.1)
        refine g_static X25 hx hby hZ19 ho19 (rm_blank l Z a0 hw [] ([d0, d1, d2, d3].getD J1 0) T19.heap n0 z66 ) w78_ w79_ w8_ w80_ (by decide) e25 (by rw [hml]; rfl) [(.int ([d0, d1, d2, d3].getD J1 0))] (lenOf own_pd16 rfl) rfl rfl (Nat.le_of_ble_eq_true rfl) (Nat.le_of_ble_eq_true rfl) (Nat.le_of_ble_eq_true rfl) (Nat.le_of_ble_eq_true rfl) at_113 (fun v65 T65 L65 X65 hQ65 => ?_)
        obtain ⟨rfl, N65q, eh65⟩ := hQ65
        have N65 := Fr.app N25 N65q
        by_cases hc116_67 : (own_blk ([d0, d1, d2, d3].getD J1 0)) = (0 : Int32)
        · skip
          refine g_ifY X65 hx hby 122 at_116 (teq hc116_67).1 (by decide) (by decide) ?_
          exact J26 _ _ _ X65 eh65 N65 (by rw [own_st, if_neg (fun q => by rw [hc116_67] at q; exact absurd q.2 (by decide))])
        · skip
          refine g_ifN X65 hx hby at_116 (feq hc116_67).1 ?_
          refine g_iinc X65 hx hby ((Int32.ofNat J1) + (1 : Int32)) at_119 rfl rfl (l' := #[.val (.int pa), .val (.int pb), .val (.int pc0), .val (.int pd), .val (.int pe), .val (.int (0 : Int32)), .val (.int (Int32.ofNat J)), .val (.ref b2), .val (.ref b15), .val (.int ((Int32.ofNat J1) + (1 : Int32))), .unset, .unset, .unset]) rfl ?_
          exact J26 _ _ _ X65 eh65 N65 (by rw [own_st, if_pos ⟨(own_ltI (a := J1) (b := 0) (by omega) (by omega)).mp hc105_62, own_blk1 hc116_67⟩, own_up])
      · skip
        refine g_icY X25 hx hby 122 at_105 (flt hc105_62).2.1 (by decide) (by decide) ?_
        exact J26 _ _ _ X25 e25 N25 (by rw [own_st, if_neg (fun q => hc105_62 ((own_ltI (a := J1) (b := 0) (by omega) (by omega)).mpr q.1))])
    refine g_iload X19 hx hby at_80 rfl ?_
    refine g_iload X19 hx hby at_82 rfl ?_
    by_cases hc84_68 : (Int32.ofNat J) < (0 : Int32)
    · skip
      refine g_icN X19 hx hby at_84 (tlt hc84_68).2.1 ?_
      refine g_aload X19 hx hby at_87 rfl rfl ?_
      refine g_iload X19 hx hby at_89 rfl ?_
      have ne69 : b2 ≠ b15 := (Nat.ne_of_lt (Nat.lt_of_lt_of_le V2.lt (Nat.le_trans (Nat.le_trans (Nat.le_trans (Nat.le_trans (Keep.of_wr W5).1 (Keep.of_wr W8).1) (Keep.of_wr W11).1) (Keep.of_wr W14).1) (Nat.le_of_eq g15))))
      have f70 := ((f17.keep K16 nin0).keep K19 (ninS ne69 nin0))
      refine g_caload X19 hx hby hZ19 rfl f70 (.int ([d0, d1, d2, d3].getD J 0)) (own_in2 (M := 4) (by have := (own_ltI (a := J) (b := 0) (by omega) (by omega)).mp hc84_68; omega) (by omega)) (by rw [own_tn2 (by omega)]; exact own_getD [d0, d1, d2, d3] J) at_91 ?_
      have z72 := (Nat.le_trans z24 K19.1)
      refine g_static X19 hx hby hZ19 ho19 (rm_blank l Z a0 hw [] ([d0, d1, d2, d3].getD J 0) T19.heap n0 z72 ) w78_ w79_ w8_ w80_ (by decide) rfl (by rw [hml]; rfl) [(.int ([d0, d1, d2, d3].getD J 0))] (lenOf own_pd16 rfl) rfl rfl (Nat.le_of_ble_eq_true rfl) (Nat.le_of_ble_eq_true rfl) (Nat.le_of_ble_eq_true rfl) (Nat.le_of_ble_eq_true rfl) at_92 (fun v71 T71 L71 X71 hQ71 => ?_)
      obtain ⟨rfl, N71q, eh71⟩ := hQ71
      have N71 := Fr.app N19 N71q
      by_cases hc95_73 : (own_blk ([d0, d1, d2, d3].getD J 0)) = (0 : Int32)
      · skip
        refine g_ifY X71 hx hby 101 at_95 (teq hc95_73).1 (by decide) (by decide) ?_
        exact J25 _ _ _ X71 eh71 N71 (by rw [own_st, if_neg (fun q => by rw [hc95_73] at q; exact absurd q.2 (by decide))])
      · skip
        refine g_ifN X71 hx hby at_95 (feq hc95_73).1 ?_
        refine g_iinc X71 hx hby ((Int32.ofNat J) + (1 : Int32)) at_98 rfl rfl (l' := #[.val (.int pa), .val (.int pb), .val (.int pc0), .val (.int pd), .val (.int pe), .val (.int (0 : Int32)), .val (.int (Int32.ofNat J)), .val (.ref b2), .val (.ref b15), .val (.int ((Int32.ofNat J) + (1 : Int32))), .unset, .unset, .unset]) rfl ?_
        exact J25 _ _ _ X71 eh71 N71 (by rw [own_st, if_pos ⟨(own_ltI (a := J) (b := 0) (by omega) (by omega)).mp hc84_68, own_blk1 hc95_73⟩, own_up])
    · skip
      refine g_icY X19 hx hby 101 at_84 (flt hc84_68).2.1 (by decide) (by decide) ?_
      exact J25 _ _ _ X19 rfl N19 (by rw [own_st, if_neg (fun q => hc84_68 ((own_ltI (a := J) (b := 0) (by omega) (by omega)).mpr q.1))])
  · skip
    obtain ⟨J, e_J, hJm, hJ3⟩ := own_mn (x := ((pe.toUInt32 >>> ((8 : Int32) &&& 31).toUInt32).toInt32)) (m := (1 : Int32)) (M := 1) rfl
    rw [e_J]
    clear e_J
    refine g_new X14 hx hby hZ hown w11_ w12_ w13_ e14 (by decide) (by decide) at_60 (fun T74 h74 b74 g74 X74 e74 E74 A74 D74 => ?_)
    have F_value_b74 : Fld Z h74 b74 "java/lang/String" "value" "[B" .null := D74 (Or.inr w29_) (ty := (.array .byte)) (by decide)
    have F_coder_b74 : Fld Z h74 b74 "java/lang/String" "coder" "B" (.int (0 : Int32)) := D74 (Or.inr w30_) (ty := .byte) (by decide)
    refine g_dup X74 hx hby at_63 rfl ?_
    refine g_aload X74 hx hby at_64 rfl rfl ?_
    refine g_iload X74 hx hby at_66 rfl ?_
    have f76 := (VQ.ext E74)
    have z77 := (Nat.le_trans z13 (Nat.le_trans (Keep.of_wr W14).1 E74.1))
    refine g_static X74 hx hby hZ hown (rm_pref1 l Z a0 hw [] b2 k2 d0 d1 d2 d3 h74 n0 z77 f76 hr0 hr1 hr2 hr3) w14_ w15_ w8_ w16_ (by decide) e74 (by rw [hml]; rfl) [(.ref b2), (.int (1 : Int32))] (lenOf own_pd18 rfl) rfl rfl (Nat.le_of_ble_eq_true rfl) (Nat.le_of_ble_eq_true rfl) (Nat.le_of_ble_eq_true rfl) (Nat.le_of_ble_eq_true rfl) at_68 (fun v75 T75 L75 X75 hQ75 => ?_)
    obtain ⟨N75q, K75, pf75, kp75, rfl, lp75, Vp75⟩ := hQ75
    have N75 := Fr.app N14 N75q
    have f79 := (((((((OLD.ext E2).wr W5 g_b2).wr W8 g_b2).wr W11 g_b2).wr W14 g_b2).ext E74).keep K75 all0)
    have f80 := (A74.keep K75)
    have f81 := (F_coder_b74.keep K75 nin0)
    have f82 := (F_value_b74.keep K75 nin0)
    have g_b74 : n0 ≤ b74 := Nat.le_trans (Nat.le_trans z13 (Keep.of_wr W14).1) (Nat.le_of_eq g74)
    have z83 := (Nat.le_trans z77 K75.1)
    refine g_special X75 hx hby hZ hown (rm_ini1G l Z a0 hw [] b74 pf75 kp75 [d0] 1 cz T75.heap n0 z83 O2 P5 f79 Uad Uhi Ulo f80 f81 f82 g_b74 rfl (by decide) (by decide) (fun i hi => by
          match i, hi with
          | 0, _ => exact hr0) Vp75) rfl rfl w17_ w18_ w13_ w19_ (by decide) rfl (by rw [hml]; rfl) [(.ref pf75)] (lenOf own_pd19 rfl) rfl rfl (Nat.le_of_ble_eq_true rfl) (Nat.le_of_ble_eq_true rfl) (Nat.le_of_ble_eq_true rfl) (Nat.le_of_ble_eq_true rfl) at_71 (fun v78 T78 L78 X78 hQ78 => ?_)
    obtain ⟨rfl, N78q, K78, t78, kb78, lo78, Es78, Vs78, D78⟩ := hQ78
    have N78 := Fr.app N75 N78q
    refine g_at 74 rfl rfl rfl ?_
    refine g_astore X78 hx hby at_74 rfl (l' := #[.val (.int pa), .val (.int pb), .val (.int pc0), .val (.int pd), .val (.int pe), .val (.int (1 : Int32)), .val (.int (Int32.ofNat J)), .val (.ref b2), .val (.ref b74), .unset, .unset, .unset, .unset]) rfl ?_
    refine g_iload X78 hx hby at_76 rfl ?_
    refine g_istore X78 hx hby at_78 (l' := #[.val (.int pa), .val (.int pb), .val (.int pc0), .val (.int pd), .val (.int pe), .val (.int (1 : Int32)), .val (.int (Int32.ofNat J)), .val (.ref b2), .val (.ref b74), .val (.int (Int32.ofNat J)), .unset, .unset, .unset]) rfl ?_
    have J84 : ∀ (T84 : State) (L84 : List Loc) (kv0 : Int32), Stand p l e room_1 (s.setVm s.vm) m #[(.int pa), (.int pb), (.int pc0), (.int pd), (.int pe)] below meth c_ T84 L84 5 21 → T84.heap = T78.heap → Fr n0 L84 → (kv0 = Int32.ofNat (own_st 1 [d0, d1, d2, d3] J)) → Go p e below (RetW s (Q_law Z pa pb pc0 pd pe fz cz h0 n0) 24 1152) (T84.setTop (mkF m 101 #[.val (.int pa), .val (.int pb), .val (.int pc0), .val (.int pd), .val (.int pe), .val (.int (1 : Int32)), .val (.int (Int32.ofNat J)), .val (.ref b2), .val (.ref b74), .val (.int kv0), .unset, .unset, .unset] [])) := by
      intro T84 L84 kv0 X84 e84 N84 h_kv0
      obtain ⟨J1, e_J1⟩ : ∃ z, z = own_st 1 [d0, d1, d2, d3] J := ⟨_, rfl⟩
      have hle1 : J1 ≤ 1 := by rw [e_J1]; exact own_st_le hJm
      rw [← e_J1] at h_kv0
      subst h_kv0
      have J85 : ∀ (T85 : State) (L85 : List Loc) (kv1 : Int32), Stand p l e room_1 (s.setVm s.vm) m #[(.int pa), (.int pb), (.int pc0), (.int pd), (.int pe)] below meth c_ T85 L85 5 21 → T85.heap = T78.heap → Fr n0 L85 → (kv1 = Int32.ofNat (own_st 1 [d0, d1, d2, d3] J1)) → Go p e below (RetW s (Q_law Z pa pb pc0 pd pe fz cz h0 n0) 24 1152) (T85.setTop (mkF m 122 #[.val (.int pa), .val (.int pb), .val (.int pc0), .val (.int pd), .val (.int pe), .val (.int (1 : Int32)), .val (.int (Int32.ofNat J)), .val (.ref b2), .val (.ref b74), .val (.int kv1), .unset, .unset, .unset] [])) := by
        intro T85 L85 kv1 X85 e85 N85 h_kv1
        obtain ⟨J2, e_J2⟩ : ∃ z, z = own_st 1 [d0, d1, d2, d3] J1 := ⟨_, rfl⟩
        have hle2 : J2 ≤ 1 := by rw [e_J2]; exact own_st_le hle1
        rw [← e_J2] at h_kv1
        subst h_kv1
        have J86 : ∀ (T86 : State) (L86 : List Loc) (kv2 : Int32), Stand p l e room_1 (s.setVm s.vm) m #[(.int pa), (.int pb), (.int pc0), (.int pd), (.int pe)] below meth c_ T86 L86 5 21 → T86.heap = T78.heap → Fr n0 L86 → (kv2 = Int32.ofNat (own_st 1 [d0, d1, d2, d3] J2)) → Go p e below (RetW s (Q_law Z pa pb pc0 pd pe fz cz h0 n0) 24 1152) (T86.setTop (mkF m 143 #[.val (.int pa), .val (.int pb), .val (.int pc0), .val (.int pd), .val (.int pe), .val (.int (1 : Int32)), .val (.int (Int32.ofNat J)), .val (.ref b2), .val (.ref b74), .val (.int kv2), .unset, .unset, .unset] [])) := by
          intro T86 L86 kv2 X86 e86 N86 h_kv2
          obtain ⟨J3, e_J3⟩ : ∃ z, z = own_st 1 [d0, d1, d2, d3] J2 := ⟨_, rfl⟩
          have hle3 : J3 ≤ 1 := by rw [e_J3]; exact own_st_le hle2
          rw [← e_J3] at h_kv2
          subst h_kv2
          have J87 : ∀ (T87 : State) (L87 : List Loc) (kv3 : Int32), Stand p l e room_1 (s.setVm s.vm) m #[(.int pa), (.int pb), (.int pc0), (.int pd), (.int pe)] below meth c_ T87 L87 5 21 → T87.heap = T78.heap → Fr n0 L87 → (kv3 = Int32.ofNat (own_st 1 [d0, d1, d2, d3] J3)) → Go p e below (RetW s (Q_law Z pa pb pc0 pd pe fz cz h0 n0) 24 1152) (T87.setTop (mkF m 164 #[.val (.int pa), .val (.int pb), .val (.int pc0), .val (.int pd), .val (.int pe), .val (.int (1 : Int32)), .val (.int (Int32.ofNat J)), .val (.ref b2), .val (.ref b74), .val (.int kv3), .unset, .unset, .unset] [])) := by
            intro T87 L87 kv3 X87 e87 N87 h_kv3
            obtain ⟨J4, e_J4⟩ : ∃ z, z = own_st 1 [d0, d1, d2, d3] J3 := ⟨_, rfl⟩
            have hle4 : J4 ≤ 1 := by rw [e_J4]; exact own_st_le hle3
            rw [← e_J4] at h_kv3
            subst h_kv3
            refine g_new X87 hx hby hZ hown w35_ w36_ w37_ e87 (by decide) (by decide) at_164 (fun T88 h88 b88 g88 X88 e88 E88 A88 D88 => ?_)
            have F_text_b88 : Fld Z h88 b88 "com/example/pathloom/pathloom/web/MediaType$Reader" "text" "Ljava/lang/String;" .null := D88 (Or.inr w43_) (ty := (.object "java/lang/String")) (by decide)
            have F_position_b88 : Fld Z h88 b88 "com/example/pathloom/pathloom/web/MediaType$Reader" "position" "I" (.int (0 : Int32)) := D88 (Or.inl w55_) (ty := .int) (by decide)
            refine g_dup X88 hx hby at_167 rfl ?_
            refine g_aload X88 hx hby at_168 rfl rfl ?_
            have g_b88 : n0 ≤ b88 := Nat.le_trans (Nat.le_trans z83 K78.1) (Nat.le_of_eq g88)
            have z90 := (Nat.le_trans z83 (Nat.le_trans K78.1 E88.1))
            refine g_special X88 hx hby hZ hown (rm_rdini l Z a0 hw [] b88 b74 h88 n0 z90 A88 F_text_b88 F_position_b88 g_b88) rfl rfl w38_ w39_ w37_ w40_ (by decide) e88 (by rw [hml]; rfl) [(.ref b74)] (lenOf own_pd20 rfl) rfl rfl (Nat.le_of_ble_eq_true rfl) (Nat.le_of_ble_eq_true rfl) (Nat.le_of_ble_eq_true rfl) (Nat.le_of_ble_eq_true rfl) at_170 (fun v89 T89 L89 X89 hQ89 => ?_)
            obtain ⟨rfl, N89q, K89, Er89, Tr89, Pr89⟩ := hQ89
            have N89 := Fr.app N87 N89q
            refine g_astore X89 hx hby at_173 rfl (l' := #[.val (.int pa), .val (.int pb), .val (.int pc0), .val (.int pd), .val (.int pe), .val (.int (1 : Int32)), .val (.int (Int32.ofNat J)), .val (.ref b2), .val (.ref b74), .val (.int (Int32.ofNat J4)), .val (.ref b88), .unset, .unset]) rfl ?_
            refine g_iconst X89 hx hby (1 : Int32) at_175 rfl ?_
            refine g_istore X89 hx hby at_176 (l' := #[.val (.int pa), .val (.int pb), .val (.int pc0), .val (.int pd), .val (.int pe), .val (.int (1 : Int32)), .val (.int (Int32.ofNat J)), .val (.ref b2), .val (.ref b74), .val (.int (Int32.ofNat J4)), .val (.ref b88), .val (.int (1 : Int32)), .unset]) rfl ?_
            have z91 := (Nat.le_trans z90 K89.1)
            have ne92 : b88 ≠ b74 := (Ne.symm (Nat.ne_of_lt (Nat.lt_of_lt_of_le A74.lt (Nat.le_trans (Nat.le_trans K75.1 K78.1) (Nat.le_of_eq g88)))))
            have ne93 : b88 ≠ t78 := (Ne.symm (Nat.ne_of_lt (Nat.lt_of_lt_of_le D78.lt (Nat.le_of_eq g88))))
            have JT : ∀ (T9 : State) (L9 : List Loc) (h9 : Heap), Stand p l e room_1 (s.setVm s.vm) m #[(.int pa), (.int pb), (.int pc0), (.int pd), (.int pe)] below meth c_ T9 L9 6 23 → T9.heap = h9 → Fr n0 L9 → ((T89.heap).size ≤ h9.size) → (Old Z n0 h9) → (Exa Z h9 b88 "com/example/pathloom/pathloom/web/MediaType$Reader") → (Fld Z h9 b88 "com/example/pathloom/pathloom/web/MediaType$Reader" "text" "Ljava/lang/String;" (.ref b74)) → (Fld Z h9 b88 "com/example/pathloom/pathloom/web/MediaType$Reader" "position" "I" (.int (Int32.ofNat J))) → (Exa Z h9 b74 "java/lang/String") → (Fld Z h9 b74 "java/lang/String" "value" "[B" (.ref t78)) → (own_D Z h9 b74 t78 kb78 [d0] 1) → (Arv Z h9 b2 k2 .char (4 : Int32) [(.int d0), (.int d1), (.int d2), (.int d3)] (.int (0 : Int32))) →  Go p e below (RetW s (Q_law Z pa pb pc0 pd pe fz cz h0 n0) 24 1152) (T9.setTop (mkF m 238 #[.val (.int pa), .val (.int pb), .val (.int pc0), .val (.int pd), .val (.int pe), .val (.int (1 : Int32)), .val (.int (Int32.ofNat J)), .val (.ref b2), .val (.ref b74), .val (.int (Int32.ofNat J4)), .val (.ref b88), .val (.int (1 : Int32)), .unset] [])) := by
              intro T9 L9 h9 X9 e9 N9 hsz9 OL9 rE9 rT9 rP9 E9 VF9 D9 VC9
              have z9 : n0 ≤ h9.size := Nat.le_trans z91 hsz9
              refine g_aload X9 hx hby at_238 rfl rfl ?_
              refine g_virtual X9 hx hby hZ hown (rm_rdskip l Z a0 hw [] b88 b74 t78 kb78 [d0] 1 J fz cz h9 n0 z9 O2 P5 OL9 Uad Uhi Ulo E9 VF9 D9 rfl (by decide) (fun i hi => by
                    match i, hi with
                    | 0, _ => exact hr0) rE9 rT9 rP9 hJm rfz O4 g_b88 ne92 ne93) w44_ w45_ (notFace_of_selects (args := #[]) (mvT hZ w47_)) w47_ w46_ w37_ w48_ (by decide) e9 rE9 (by rw [hml]; rfl) [] (lenOf own_pd13 rfl) rfl rfl (Nat.le_of_ble_eq_true rfl) (Nat.le_of_ble_eq_true rfl) (Nat.le_of_ble_eq_true rfl) (Nat.le_of_ble_eq_true rfl) at_240 (fun v94 T94 L94 X94 hQ94 => ?_)
              obtain ⟨rfl, N94q, K94, Er94, Tr94, Pr94⟩ := hQ94
              have N94 := Fr.app N9 N94q
              have eK : own_sk (1 - J) [d0] J = J4 := by rw [own_it4 (ds := [d0, d1, d2, d3]) (fun i hi => by
                    match i, hi with
                    | 0, _ => rfl) hJm (by decide), ← e_J1, ← e_J2, ← e_J3, ← e_J4]
              rw [eK] at Pr94
              refine g_istore X94 hx hby at_243 (l' := #[.val (.int pa), .val (.int pb), .val (.int pc0), .val (.int pd), .val (.int pe), .val (.int (1 : Int32)), .val (.int (Int32.ofNat J)), .val (.ref b2), .val (.ref b74), .val (.int (Int32.ofNat J4)), .val (.ref b88), .val (.int (1 : Int32)), .val (.int (1 : Int32))]) rfl ?_
              refine g_iconst X94 hx hby (0 : Int32) at_245 rfl ?_
              refine g_iload X94 hx hby at_246 rfl ?_
              by_cases hc248_95 : (0 : Int32) < (Int32.ofNat J4)
              · skip
                refine g_icY X94 hx hby 271 at_248 (tlt hc248_95).1 (by decide) (by decide) ?_
                refine g_iconst X94 hx hby (1 : Int32) at_271 rfl ?_
                refine g_iload X94 hx hby at_272 rfl ?_
                refine g_icN X94 hx hby at_274 (flt ((fun q => absurd ((own_ltI (a := 1) (b := J4) (by omega) (by omega)).mp q) (by omega)) : ¬ ((1 : Int32) < (Int32.ofNat J4)))).1 ?_
                refine g_iconst X94 hx hby (1 : Int32) at_277 rfl ?_
                refine g_iload X94 hx hby at_278 rfl ?_
                refine g_icY X94 hx hby 297 at_280 (flt (by decide : ¬ ((1 : Int32) < (1 : Int32)))).2.1 (by decide) (by decide) ?_
                refine g_iconst X94 hx hby (2 : Int32) at_297 rfl ?_
                refine g_iload X94 hx hby at_298 rfl ?_
                refine g_icN X94 hx hby at_300 (flt ((fun q => absurd ((own_ltI (a := 2) (b := J4) (by omega) (by omega)).mp q) (by omega)) : ¬ ((2 : Int32) < (Int32.ofNat J4)))).1 ?_
                refine g_iconst X94 hx hby (2 : Int32) at_303 rfl ?_
                refine g_iload X94 hx hby at_304 rfl ?_
                refine g_icY X94 hx hby 323 at_306 (flt (by decide : ¬ ((2 : Int32) < (1 : Int32)))).2.1 (by decide) (by decide) ?_
                refine g_iconst X94 hx hby (3 : Int32) at_323 rfl ?_
                refine g_iload X94 hx hby at_324 rfl ?_
                refine g_icN X94 hx hby at_326 (flt ((fun q => absurd ((own_ltI (a := 3) (b := J4) (by omega) (by omega)).mp q) (by omega)) : ¬ ((3 : Int32) < (Int32.ofNat J4)))).1 ?_
                refine g_iconst X94 hx hby (3 : Int32) at_329 rfl ?_
                refine g_iload X94 hx hby at_330 rfl ?_
                refine g_icY X94 hx hby 349 at_332 (flt (by decide : ¬ ((3 : Int32) < (1 : Int32)))).2.1 (by decide) (by decide) ?_
                have hK : J4 = 1 := by
                  have q0 := (own_ltI (a := 0) (b := J4) (by omega) (by omega)).mp hc248_95
                  omega
                subst hK
                refine g_iload X94 hx hby at_349 rfl ?_
                refine g_aload X94 hx hby at_351 rfl rfl ?_
                have f97 := (OL9.keep K94 (allS g_b88 all0))
                have f98 := (E9.keep K94)
                have f99 := (VF9.keep K94 (ninS (Ne.symm ne92) nin0))
                have f100 := (D9.keep K94 (ninS (Ne.symm ne92) nin0) (ninS (Ne.symm ne93) nin0))
                have f101 := (rE9.keep K94)
                have z102 := (Nat.le_trans z9 K94.1)
                refine g_virtual X94 hx hby hZ hown (rm_rdend l Z a0 hw [] b88 b74 t78 kb78 [d0] 1 (1 : Int32) cz T94.heap n0 z102 O2 P5 f97 f98 f99 f100 rfl (by decide) f101 Tr94 Pr94) w67_ w50_ (notFace_of_selects (args := #[]) (mvT hZ w52_)) w52_ w51_ w37_ w53_ (by decide) rfl f101 (by rw [hml]; rfl) [] (lenOf own_pd13 rfl) rfl rfl (Nat.le_of_ble_eq_true rfl) (Nat.le_of_ble_eq_true rfl) (Nat.le_of_ble_eq_true rfl) (Nat.le_of_ble_eq_true rfl) at_353 (fun v96 T96 L96 X96 hQ96 => ?_)
                obtain ⟨rfl, N96q, eh96⟩ := hQ96
                have N96 := Fr.app N94 N96q
                refine g_topI (T := T96) (1 : Int32) (if_pos rfl) ?_
                refine g_iand X96 hx hby at_356 ?_
                refine g_topI (1 : Int32) (by decide) ?_
                refine g_istore X96 hx hby at_357 (l' := #[.val (.int pa), .val (.int pb), .val (.int pc0), .val (.int pd), .val (.int pe), .val (.int (1 : Int32)), .val (.int (Int32.ofNat J)), .val (.ref b2), .val (.ref b74), .val (.int (1 : Int32)), .val (.ref b88), .val (.int (1 : Int32)), .val (.int (1 : Int32))]) rfl ?_
                refine g_iload X96 hx hby at_359 rfl ?_
                refine g_ifN X96 hx hby at_361 (feq (by decide : ¬ ((1 : Int32) = (0 : Int32)))).1 ?_
                refine g_iload X96 hx hby at_364 rfl ?_
                refine g_ifN X96 hx hby at_366 (feq (by decide : ¬ ((1 : Int32) = (0 : Int32)))).1 ?_
                refine g_iconst X96 hx hby (1 : Int32) at_369 rfl ?_
                refine g_goto X96 hx hby 374 at_370 (by decide) (by decide) ?_
                refine g_nretW X96 hx hby (t := .boolean) (by simp) Bd.returns Bd.notSynchronized hS0 at_374 eh96 (Nat.le_trans (Nat.le_trans (Nat.zero_le _) hsz9) K94.1) (by decide) (by decide) ?_
                show (Q_law Z pa pb pc0 pd pe fz cz h0 n0) (some (.int (1 : Int32))) _ _
                exact ⟨rfl, N96⟩
              · skip
                refine g_icN X94 hx hby at_248 (flt hc248_95).1 ?_
                have hK : J4 = 0 := by
                  have q0 := mt (own_ltI (a := 0) (b := J4) (by omega) (by omega)).mpr hc248_95
                  omega
                subst hK
                refine g_iconst X94 hx hby (0 : Int32) at_251 rfl ?_
                refine g_iload X94 hx hby at_252 rfl ?_
                refine g_icN X94 hx hby at_254 (tlt (by decide : (0 : Int32) < (1 : Int32))).2.1 ?_
                refine g_iload X94 hx hby at_257 rfl ?_
                refine g_aload X94 hx hby at_259 rfl rfl ?_
                refine g_aload X94 hx hby at_261 rfl rfl ?_
                refine g_iconst X94 hx hby (0 : Int32) at_263 rfl ?_
                have ne103 : b2 ≠ b88 := (Ne.symm (Exa.neArv rE9 VC9 w36_))
                have f104 := (VC9.keep K94 (ninS ne103 nin0))
                refine g_caload X94 hx hby hZ rfl f104 (.int d0) ⟨by decide, by decide⟩ rfl at_264 ?_
                have f106 := (OL9.keep K94 (allS g_b88 all0))
                have f107 := (E9.keep K94)
                have f108 := (VF9.keep K94 (ninS (Ne.symm ne92) nin0))
                have f109 := (D9.keep K94 (ninS (Ne.symm ne92) nin0) (ninS (Ne.symm ne93) nin0))
                have f110 := (rE9.keep K94)
                have z111 := (Nat.le_trans z9 K94.1)
                refine g_virtual X94 hx hby hZ hown (rm_rdtake l Z a0 hw [] b88 b74 t78 kb78 [d0] 1 0 d0 fz cz T94.heap n0 z111 O2 P5 f106 Uad Uhi Ulo f107 f108 f109 rfl (by decide) f110 Tr94 Pr94 (by decide) rfl hr0 rfz O4 g_b88 ne92 ne93) w103_ w104_ (notFace_of_selects (args := #[]) (mvT hZ w106_)) w106_ w105_ w37_ w107_ (by decide) rfl f110 (by rw [hml]; rfl) [(.int d0)] (lenOf own_pd16 rfl) rfl rfl (Nat.le_of_ble_eq_true rfl) (Nat.le_of_ble_eq_true rfl) (Nat.le_of_ble_eq_true rfl) (Nat.le_of_ble_eq_true rfl) at_265 (fun v105 T105 L105 X105 hQ105 => ?_)
                obtain ⟨rfl, N105q, K105, Er105, Tr105, Pr105⟩ := hQ105
                have N105 := Fr.app N94 N105q
                refine g_at 268 rfl rfl rfl ?_
                refine g_iand X105 hx hby at_268 ?_
                refine g_topI (1 : Int32) (by decide) ?_
                refine g_istore X105 hx hby at_269 (l' := #[.val (.int pa), .val (.int pb), .val (.int pc0), .val (.int pd), .val (.int pe), .val (.int (1 : Int32)), .val (.int (Int32.ofNat J)), .val (.ref b2), .val (.ref b74), .val (.int (0 : Int32)), .val (.ref b88), .val (.int (1 : Int32)), .val (.int (1 : Int32))]) rfl ?_
                refine g_iconst X105 hx hby (1 : Int32) at_271 rfl ?_
                refine g_iload X105 hx hby at_272 rfl ?_
                refine g_icN X105 hx hby at_274 (flt (by decide : ¬ ((1 : Int32) < (0 : Int32)))).1 ?_
                refine g_iconst X105 hx hby (1 : Int32) at_277 rfl ?_
                refine g_iload X105 hx hby at_278 rfl ?_
                refine g_icY X105 hx hby 297 at_280 (flt (by decide : ¬ ((1 : Int32) < (1 : Int32)))).2.1 (by decide) (by decide) ?_
                refine g_iconst X105 hx hby (2 : Int32) at_297 rfl ?_
                refine g_iload X105 hx hby at_298 rfl ?_
                refine g_icN X105 hx hby at_300 (flt (by decide : ¬ ((2 : Int32) < (0 : Int32)))).1 ?_
                refine g_iconst X105 hx hby (2 : Int32) at_303 rfl ?_
                refine g_iload X105 hx hby at_304 rfl ?_
                refine g_icY X105 hx hby 323 at_306 (flt (by decide : ¬ ((2 : Int32) < (1 : Int32)))).2.1 (by decide) (by decide) ?_
                refine g_iconst X105 hx hby (3 : Int32) at_323 rfl ?_
                refine g_iload X105 hx hby at_324 rfl ?_
                refine g_icN X105 hx hby at_326 (flt (by decide : ¬ ((3 : Int32) < (0 : Int32)))).1 ?_
                refine g_iconst X105 hx hby (3 : Int32) at_329 rfl ?_
                refine g_iload X105 hx hby at_330 rfl ?_
                refine g_icY X105 hx hby 349 at_332 (flt (by decide : ¬ ((3 : Int32) < (1 : Int32)))).2.1 (by decide) (by decide) ?_
                refine g_iload X105 hx hby at_349 rfl ?_
                refine g_aload X105 hx hby at_351 rfl rfl ?_
                have f113 := (f106.keep K105 (allS g_b88 all0))
                have f114 := (f107.keep K105)
                have f115 := (f108.keep K105 (ninS (Ne.symm ne92) nin0))
                have f116 := (f109.keep K105 (ninS (Ne.symm ne92) nin0) (ninS (Ne.symm ne93) nin0))
                have f117 := (f110.keep K105)
                have z118 := (Nat.le_trans z111 K105.1)
                refine g_virtual X105 hx hby hZ hown (rm_rdend l Z a0 hw [] b88 b74 t78 kb78 [d0] 1 (1 : Int32) cz T105.heap n0 z118 O2 P5 f113 f114 f115 f116 rfl (by decide) f117 Tr105 Pr105) w67_ w50_ (notFace_of_selects (args := #[]) (mvT hZ w52_)) w52_ w51_ w37_ w53_ (by decide) rfl f117 (by rw [hml]; rfl) [] (lenOf own_pd13 rfl) rfl rfl (Nat.le_of_ble_eq_true rfl) (Nat.le_of_ble_eq_true rfl) (Nat.le_of_ble_eq_true rfl) (Nat.le_of_ble_eq_true rfl) at_353 (fun v112 T112 L112 X112 hQ112 => ?_)
                obtain ⟨rfl, N112q, eh112⟩ := hQ112
                have N112 := Fr.app N105 N112q
                refine g_topI (T := T112) (1 : Int32) (if_pos rfl) ?_
                refine g_iand X112 hx hby at_356 ?_
                refine g_topI (1 : Int32) (by decide) ?_
                refine g_istore X112 hx hby at_357 (l' := #[.val (.int pa), .val (.int pb), .val (.int pc0), .val (.int pd), .val (.int pe), .val (.int (1 : Int32)), .val (.int (Int32.ofNat J)), .val (.ref b2), .val (.ref b74), .val (.int (0 : Int32)), .val (.ref b88), .val (.int (1 : Int32)), .val (.int (1 : Int32))]) rfl ?_
                refine g_iload X112 hx hby at_359 rfl ?_
                refine g_ifN X112 hx hby at_361 (feq (by decide : ¬ ((1 : Int32) = (0 : Int32)))).1 ?_
                refine g_iload X112 hx hby at_364 rfl ?_
                refine g_ifN X112 hx hby at_366 (feq (by decide : ¬ ((1 : Int32) = (0 : Int32)))).1 ?_
                refine g_iconst X112 hx hby (1 : Int32) at_369 rfl ?_
                refine g_goto X112 hx hby 374 at_370 (by decide) (by decide) ?_
                refine g_nretW X112 hx hby (t := .boolean) (by simp) Bd.returns Bd.notSynchronized hS0 at_374 eh112 (Nat.le_trans (Nat.le_trans (Nat.zero_le _) hsz9) (Nat.le_trans K94.1 K105.1)) (by decide) (by decide) ?_
                show (Q_law Z pa pb pc0 pd pe fz cz h0 n0) (some (.int (1 : Int32))) _ _
                exact ⟨rfl, N112⟩
            refine g_iload X89 hx hby at_178 rfl ?_
            refine g_iconst X89 hx hby (1 : Int32) at_180 rfl ?_
            by_cases hc181_119 : (Int32.ofNat J) < (1 : Int32)
            · skip
              refine g_icY X89 hx hby 198 at_181 (tlt hc181_119).1 (by decide) (by decide) ?_
              refine g_iload X89 hx hby at_198 rfl ?_
              refine g_iconst X89 hx hby (2 : Int32) at_200 rfl ?_
              refine g_icY X89 hx hby 218 at_201 (tlt ((own_ltn (N := 2) rfl (by omega)) : (Int32.ofNat J) < (2 : Int32))).1 (by decide) (by decide) ?_
              refine g_iload X89 hx hby at_218 rfl ?_
              refine g_iconst X89 hx hby (3 : Int32) at_220 rfl ?_
              refine g_icY X89 hx hby 238 at_221 (tlt ((own_ltn (N := 3) rfl (by omega)) : (Int32.ofNat J) < (3 : Int32))).1 (by decide) (by decide) ?_
              have hJe : J = 0 := by
                have q0 := (own_ltI (a := J) (b := 1) (by omega) (by omega)).mp hc181_119
                omega
              have f120 := (((f79.keep K78 (allS g_b74 all0)).ext E88).keep K89 (allS g_b88 all0))
              have f121 := (((f80.keep K78).ext E88).keep K89)
              have f122 := ((Vs78.ext E88).keep K89 (ninS (Ne.symm ne92) nin0))
              have f123 := ((D78.ext E88).keep K89 (ninS (Ne.symm ne92) nin0) (ninS (Ne.symm ne93) nin0))
              have ne124 : b2 ≠ b74 := (Nat.ne_of_lt (Nat.lt_of_lt_of_le V2.lt (Nat.le_trans (Nat.le_trans (Nat.le_trans (Nat.le_trans (Keep.of_wr W5).1 (Keep.of_wr W8).1) (Keep.of_wr W11).1) (Keep.of_wr W14).1) (Nat.le_of_eq g74))))
              have ne125 : b2 ≠ b88 := (Nat.ne_of_lt (Nat.lt_of_lt_of_le V2.lt (Nat.le_trans (Nat.le_trans (Nat.le_trans (Nat.le_trans (Nat.le_trans (Nat.le_trans (Nat.le_trans (Keep.of_wr W5).1 (Keep.of_wr W8).1) (Keep.of_wr W11).1) (Keep.of_wr W14).1) E74.1) K75.1) K78.1) (Nat.le_of_eq g88))))
              have f126 := ((((f76.keep K75 nin0).keep K78 (ninS ne124 nin0)).ext E88).keep K89 (ninS ne125 nin0))
              exact JT _ _ _ X89 rfl N89 (Nat.le_refl _) f120 Er89 Tr89 (by rw [hJe]; exact Pr89) f121 f122 f123 f126
            · skip
              refine g_icN X89 hx hby at_181 (flt hc181_119).1 ?_
              refine g_iload X89 hx hby at_184 rfl ?_
              refine g_aload X89 hx hby at_186 rfl rfl ?_
              refine g_aload X89 hx hby at_188 rfl rfl ?_
              refine g_iconst X89 hx hby (0 : Int32) at_190 rfl ?_
              have ne127 : b2 ≠ b74 := (Nat.ne_of_lt (Nat.lt_of_lt_of_le V2.lt (Nat.le_trans (Nat.le_trans (Nat.le_trans (Nat.le_trans (Keep.of_wr W5).1 (Keep.of_wr W8).1) (Keep.of_wr W11).1) (Keep.of_wr W14).1) (Nat.le_of_eq g74))))
              have ne128 : b2 ≠ b88 := (Nat.ne_of_lt (Nat.lt_of_lt_of_le V2.lt (Nat.le_trans (Nat.le_trans (Nat.le_trans (Nat.le_trans (Nat.le_trans (Nat.le_trans (Nat.le_trans (Keep.of_wr W5).1 (Keep.of_wr W8).1) (Keep.of_wr W11).1) (Keep.of_wr W14).1) E74.1) K75.1) K78.1) (Nat.le_of_eq g88))))
              have f129 := ((((f76.keep K75 nin0).keep K78 (ninS ne127 nin0)).ext E88).keep K89 (ninS ne128 nin0))
              refine g_caload X89 hx hby hZ rfl f129 (.int d0) ⟨by decide, by decide⟩ rfl at_191 ?_
              have f131 := (((f79.keep K78 (allS g_b74 all0)).ext E88).keep K89 (allS g_b88 all0))
              have f132 := (((f80.keep K78).ext E88).keep K89)
              have f133 := ((Vs78.ext E88).keep K89 (ninS (Ne.symm ne92) nin0))
              have f134 := ((D78.ext E88).keep K89 (ninS (Ne.symm ne92) nin0) (ninS (Ne.symm ne93) nin0))
              refine g_virtual X89 hx hby hZ hown (rm_rdtake l Z a0 hw [] b88 b74 t78 kb78 [d0] 1 0 d0 fz cz T89.heap n0 z91 O2 P5 f131 Uad Uhi Ulo f132 f133 f134 rfl (by decide) Er89 Tr89 Pr89 (by decide) rfl hr0 rfz O4 g_b88 ne92 ne93) w103_ w104_ (notFace_of_selects (args := #[]) (mvT hZ w106_)) w106_ w105_ w37_ w107_ (by decide) rfl Er89 (by rw [hml]; rfl) [(.int d0)] (lenOf own_pd16 rfl) rfl rfl (Nat.le_of_ble_eq_true rfl) (Nat.le_of_ble_eq_true rfl) (Nat.le_of_ble_eq_true rfl) (Nat.le_of_ble_eq_true rfl) at_192 (fun v130 T130 L130 X130 hQ130 => ?_)
              obtain ⟨rfl, N130q, K130, Er130, Tr130, Pr130⟩ := hQ130
              have N130 := Fr.app N89 N130q
              refine g_at 195 rfl rfl rfl ?_
              refine g_iand X130 hx hby at_195 ?_
              refine g_topI (1 : Int32) (by decide) ?_
              refine g_istore X130 hx hby at_196 (l' := #[.val (.int pa), .val (.int pb), .val (.int pc0), .val (.int pd), .val (.int pe), .val (.int (1 : Int32)), .val (.int (Int32.ofNat J)), .val (.ref b2), .val (.ref b74), .val (.int (Int32.ofNat J4)), .val (.ref b88), .val (.int (1 : Int32)), .unset]) rfl ?_
              refine g_iload X130 hx hby at_198 rfl ?_
              refine g_iconst X130 hx hby (2 : Int32) at_200 rfl ?_
              refine g_icY X130 hx hby 218 at_201 (tlt ((own_ltn (N := 2) rfl (by omega)) : (Int32.ofNat J) < (2 : Int32))).1 (by decide) (by decide) ?_
              refine g_iload X130 hx hby at_218 rfl ?_
              refine g_iconst X130 hx hby (3 : Int32) at_220 rfl ?_
              refine g_icY X130 hx hby 238 at_221 (tlt ((own_ltn (N := 3) rfl (by omega)) : (Int32.ofNat J) < (3 : Int32))).1 (by decide) (by decide) ?_
              have hJe : J = 1 := by
                have q0 := mt (own_ltI (a := J) (b := 1) (by omega) (by omega)).mpr hc181_119
                omega
              have f135 := (f131.keep K130 (allS g_b88 all0))
              have f136 := (Er89.keep K130)
              have f137 := (f132.keep K130)
              have f138 := (f133.keep K130 (ninS (Ne.symm ne92) nin0))
              have f139 := (f134.keep K130 (ninS (Ne.symm ne92) nin0) (ninS (Ne.symm ne93) nin0))
              have f140 := (f129.keep K130 (ninS ne128 nin0))
              exact JT _ _ _ X130 rfl N130 K130.1 f135 f136 Tr130 (by rw [hJe]; exact Pr130) f137 f138 f139 f140
          refine g_iload X86 hx hby at_143 rfl ?_
          refine g_iload X86 hx hby at_145 rfl ?_
          by_cases hc147_141 : (Int32.ofNat J3) < (1 : Int32)
          · skip
            refine g_icN X86 hx hby at_147 (tlt hc147_141).2.1 ?_
            refine g_aload X86 hx hby at_150 rfl rfl ?_
            refine g_iload X86 hx hby at_152 rfl ?_
            have ne142 : b2 ≠ b74 := (Nat.ne_of_lt (Nat.lt_of_lt_of_le V2.lt (Nat.le_trans (Nat.le_trans (Nat.le_trans (Nat.le_trans (Keep.of_wr W5).1 (Keep.of_wr W8).1) (Keep.of_wr W11).1) (Keep.of_wr W14).1) (Nat.le_of_eq g74))))
            have f143 := ((f76.keep K75 nin0).keep K78 (ninS ne142 nin0))
            refine g_caload X86 hx hby hZ e86 f143 (.int ([d0, d1, d2, d3].getD J3 0)) (own_in2 (M := 4) (by have := (own_ltI (a := J3) (b := 1) (by omega) (by omega)).mp hc147_141; omega) (by omega)) (by rw [own_tn2 (by omega)]; exact own_getD [d0, d1, d2, d3] J3) at_154 ?_
            have z145 := (Nat.le_trans z83 K78.1)
            refine g_static X86 hx hby hZ hown (rm_blank l Z a0 hw [] ([d0, d1, d2, d3].getD J3 0) T78.heap n0 z145 ) w78_ w79_ w8_ w80_ (by decide) e86 (by rw [hml]; rfl) [(.int ([d0, d1, d2, d3].getD J3 0))] (lenOf own_pd16 rfl) rfl rfl (Nat.le_of_ble_eq_true rfl) (Nat.le_of_ble_eq_true rfl) (Nat.le_of_ble_eq_true rfl) (Nat.le_of_ble_eq_true rfl) at_155 (fun v144 T144 L144 X144 hQ144 => ?_)
            obtain ⟨rfl, N144q, eh144⟩ := hQ144
            have N144 := Fr.app N86 N144q
            by_cases hc158_146 : (own_blk ([d0, d1, d2, d3].getD J3 0)) = (0 : Int32)
            · skip
              refine g_ifY X144 hx hby 164 at_158 (teq hc158_146).1 (by decide) (by decide) ?_
              exact J87 _ _ _ X144 eh144 N144 (by rw [own_st, if_neg (fun q => by rw [hc158_146] at q; exact absurd q.2 (by decide))])
            · skip
              refine g_ifN X144 hx hby at_158 (feq hc158_146).1 ?_
              refine g_iinc X144 hx hby ((Int32.ofNat J3) + (1 : Int32)) at_161 rfl rfl (l' := #[.val (.int pa), .val (.int pb), .val (.int pc0), .val (.int pd), .val (.int pe), .val (.int (1 : Int32)), .val (.int (Int32.ofNat J)), .val (.ref b2), .val (.ref b74), .val (.int ((Int32.ofNat J3) + (1 : Int32))), .unset, .unset, .unset]) rfl ?_
              exact J87 _ _ _ X144 eh144 N144 (by rw [own_st, if_pos ⟨(own_ltI (a := J3) (b := 1) (by omega) (by omega)).mp hc147_141, own_blk1 hc158_146⟩, own_up])
          · skip
            refine g_icY X86 hx hby 164 at_147 (flt hc147_141).2.1 (by decide) (by decide) ?_
            exact J87 _ _ _ X86 e86 N86 (by rw [own_st, if_neg (fun q => hc147_141 ((own_ltI (a := J3) (b := 1) (by omega) (by omega)).mpr q.1))])
        refine g_iload X85 hx hby at_122 rfl ?_
        refine g_iload X85 hx hby at_124 rfl ?_
        by_cases hc126_147 : (Int32.ofNat J2) < (1 : Int32)
        · skip
          refine g_icN X85 hx hby at_126 (tlt hc126_147).2.1 ?_
          refine g_aload X85 hx hby at_129 rfl rfl ?_
          refine g_iload X85 hx hby at_131 rfl ?_
          have ne148 : b2 ≠ b74 := (Nat.ne_of_lt (Nat.lt_of_lt_of_le V2.lt (Nat.le_trans (Nat.le_trans (Nat.le_trans (Nat.le_trans (Keep.of_wr W5).1 (Keep.of_wr W8).1) (Keep.of_wr W11).1) (Keep.of_wr W14).1) (Nat.le_of_eq g74))))
          have f149 := ((f76.keep K75 nin0).keep K78 (ninS ne148 nin0))
          refine g_caload X85 hx hby hZ e85 f149 (.int ([d0, d1, d2, d3].getD J2 0)) (own_in2 (M := 4) (by have := (own_ltI (a := J2) (b := 1) (by omega) (by omega)).mp hc126_147; omega) (by omega)) (by rw [own_tn2 (by omega)]; exact own_getD [d0, d1, d2, d3] J2) at_133 ?_
          have z151 := (Nat.le_trans z83 K78.1)
          refine g_static X85 hx hby hZ hown (rm_blank l Z a0 hw [] ([d0, d1, d2, d3].getD J2 0) T78.heap n0 z151 ) w78_ w79_ w8_ w80_ (by decide) e85 (by rw [hml]; rfl) [(.int ([d0, d1, d2, d3].getD J2 0))] (lenOf own_pd16 rfl) rfl rfl (Nat.le_of_ble_eq_true rfl) (Nat.le_of_ble_eq_true rfl) (Nat.le_of_ble_eq_true rfl) (Nat.le_of_ble_eq_true rfl) at_134 (fun v150 T150 L150 X150 hQ150 => ?_)
          obtain ⟨rfl, N150q, eh150⟩ := hQ150
          have N150 := Fr.app N85 N150q
          by_cases hc137_152 : (own_blk ([d0, d1, d2, d3].getD J2 0)) = (0 : Int32)
          · skip
            refine g_ifY X150 hx hby 143 at_137 (teq hc137_152).1 (by decide) (by decide) ?_
            exact J86 _ _ _ X150 eh150 N150 (by rw [own_st, if_neg (fun q => by rw [hc137_152] at q; exact absurd q.2 (by decide))])
          · skip
            refine g_ifN X150 hx hby at_137 (feq hc137_152).1 ?_
            refine g_iinc X150 hx hby ((Int32.ofNat J2) + (1 : Int32)) at_140 rfl rfl (l' := #[.val (.int pa), .val (.int pb), .val (.int pc0), .val (.int pd), .val (.int pe), .val (.int (1 : Int32)), .val (.int (Int32.ofNat J)), .val (.ref b2), .val (.ref b74), .val (.int ((Int32.ofNat J2) + (1 : Int32))), .unset, .unset, .unset]) rfl ?_
            exact J86 _ _ _ X150 eh150 N150 (by rw [own_st, if_pos ⟨(own_ltI (a := J2) (b := 1) (by omega) (by omega)).mp hc126_147, own_blk1 hc137_152⟩, own_up])
        · skip
          refine g_icY X85 hx hby 143 at_126 (flt hc126_147).2.1 (by decide) (by decide) ?_
          exact J86 _ _ _ X85 e85 N85 (by rw [own_st, if_neg (fun q => hc126_147 ((own_ltI (a := J2) (b := 1) (by omega) (by omega)).mpr q.1))])
      refine g_iload X84 hx hby at_101 rfl ?_
      refine g_iload X84 hx hby at_103 rfl ?_
      by_cases hc105_153 : (Int32.ofNat J1) < (1 : Int32)
      · skip
        refine g_icN X84 hx hby at_105 (tlt hc105_153).2.1 ?_
        refine g_aload X84 hx hby at_108 rfl rfl ?_
        refine g_iload X84 hx hby at_110 rfl ?_
        have ne154 : b2 ≠ b74 := (Nat.ne_of_lt (Nat.lt_of_lt_of_le V2.lt (Nat.le_trans (Nat.le_trans (Nat.le_trans (Nat.le_trans (Keep.of_wr W5).1 (Keep.of_wr W8).1) (Keep.of_wr W11).1) (Keep.of_wr W14).1) (Nat.le_of_eq g74))))
        have f155 := ((f76.keep K75 nin0).keep K78 (ninS ne154 nin0))
        refine g_caload X84 hx hby hZ e84 f155 (.int ([d0, d1, d2, d3].getD J1 0)) (own_in2 (M := 4) (by have := (own_ltI (a := J1) (b := 1) (by omega) (by omega)).mp hc105_153; omega) (by omega)) (by rw [own_tn2 (by omega)]; exact own_getD [d0, d1, d2, d3] J1) at_112 ?_
        have z157 := (Nat.le_trans z83 K78.1)
        refine g_static X84 hx hby hZ hown (rm_blank l Z a0 hw [] ([d0, d1, d2, d3].getD J1 0) T78.heap n0 z157 ) w78_ w79_ w8_ w80_ (by decide) e84 (by rw [hml]; rfl) [(.int ([d0, d1, d2, d3].getD J1 0))] (lenOf own_pd16 rfl) rfl rfl (Nat.le_of_ble_eq_true rfl) (Nat.le_of_ble_eq_true rfl) (Nat.le_of_ble_eq_true rfl) (Nat.le_of_ble_eq_true rfl) at_113 (fun v156 T156 L156 X156 hQ156 => ?_)
        obtain ⟨rfl, N156q, eh156⟩ := hQ156
        have N156 := Fr.app N84 N156q
        by_cases hc116_158 : (own_blk ([d0, d1, d2, d3].getD J1 0)) = (0 : Int32)
        · skip
          refine g_ifY X156 hx hby 122 at_116 (teq hc116_158).1 (by decide) (by decide) ?_
          exact J85 _ _ _ X156 eh156 N156 (by rw [own_st, if_neg (fun q => by rw [hc116_158] at q; exact absurd q.2 (by decide))])
        · skip
          refine g_ifN X156 hx hby at_116 (feq hc116_158).1 ?_
          refine g_iinc X156 hx hby ((Int32.ofNat J1) + (1 : Int32)) at_119 rfl rfl (l' := #[.val (.int pa), .val (.int pb), .val (.int pc0), .val (.int pd), .val (.int pe), .val (.int (1 : Int32)), .val (.int (Int32.ofNat J)), .val (.ref b2), .val (.ref b74), .val (.int ((Int32.ofNat J1) + (1 : Int32))), .unset, .unset, .unset]) rfl ?_
          exact J85 _ _ _ X156 eh156 N156 (by rw [own_st, if_pos ⟨(own_ltI (a := J1) (b := 1) (by omega) (by omega)).mp hc105_153, own_blk1 hc116_158⟩, own_up])
      · skip
        refine g_icY X84 hx hby 122 at_105 (flt hc105_153).2.1 (by decide) (by decide) ?_
        exact J85 _ _ _ X84 e84 N84 (by rw [own_st, if_neg (fun q => hc105_153 ((own_ltI (a := J1) (b := 1) (by omega) (by omega)).mpr q.1))])
    refine g_iload X78 hx hby at_80 rfl ?_
    refine g_iload X78 hx hby at_82 rfl ?_
    by_cases hc84_159 : (Int32.ofNat J) < (1 : Int32)
    · skip
      refine g_icN X78 hx hby at_84 (tlt hc84_159).2.1 ?_
      refine g_aload X78 hx hby at_87 rfl rfl ?_
      refine g_iload X78 hx hby at_89 rfl ?_
      have ne160 : b2 ≠ b74 := (Nat.ne_of_lt (Nat.lt_of_lt_of_le V2.lt (Nat.le_trans (Nat.le_trans (Nat.le_trans (Nat.le_trans (Keep.of_wr W5).1 (Keep.of_wr W8).1) (Keep.of_wr W11).1) (Keep.of_wr W14).1) (Nat.le_of_eq g74))))
      have f161 := ((f76.keep K75 nin0).keep K78 (ninS ne160 nin0))
      refine g_caload X78 hx hby hZ rfl f161 (.int ([d0, d1, d2, d3].getD J 0)) (own_in2 (M := 4) (by have := (own_ltI (a := J) (b := 1) (by omega) (by omega)).mp hc84_159; omega) (by omega)) (by rw [own_tn2 (by omega)]; exact own_getD [d0, d1, d2, d3] J) at_91 ?_
      have z163 := (Nat.le_trans z83 K78.1)
      refine g_static X78 hx hby hZ hown (rm_blank l Z a0 hw [] ([d0, d1, d2, d3].getD J 0) T78.heap n0 z163 ) w78_ w79_ w8_ w80_ (by decide) rfl (by rw [hml]; rfl) [(.int ([d0, d1, d2, d3].getD J 0))] (lenOf own_pd16 rfl) rfl rfl (Nat.le_of_ble_eq_true rfl) (Nat.le_of_ble_eq_true rfl) (Nat.le_of_ble_eq_true rfl) (Nat.le_of_ble_eq_true rfl) at_92 (fun v162 T162 L162 X162 hQ162 => ?_)
      obtain ⟨rfl, N162q, eh162⟩ := hQ162
      have N162 := Fr.app N78 N162q
      by_cases hc95_164 : (own_blk ([d0, d1, d2, d3].getD J 0)) = (0 : Int32)
      · skip
        refine g_ifY X162 hx hby 101 at_95 (teq hc95_164).1 (by decide) (by decide) ?_
        exact J84 _ _ _ X162 eh162 N162 (by rw [own_st, if_neg (fun q => by rw [hc95_164] at q; exact absurd q.2 (by decide))])
      · skip
        refine g_ifN X162 hx hby at_95 (feq hc95_164).1 ?_
        refine g_iinc X162 hx hby ((Int32.ofNat J) + (1 : Int32)) at_98 rfl rfl (l' := #[.val (.int pa), .val (.int pb), .val (.int pc0), .val (.int pd), .val (.int pe), .val (.int (1 : Int32)), .val (.int (Int32.ofNat J)), .val (.ref b2), .val (.ref b74), .val (.int ((Int32.ofNat J) + (1 : Int32))), .unset, .unset, .unset]) rfl ?_
        exact J84 _ _ _ X162 eh162 N162 (by rw [own_st, if_pos ⟨(own_ltI (a := J) (b := 1) (by omega) (by omega)).mp hc84_159, own_blk1 hc95_164⟩, own_up])
    · skip
      refine g_icY X78 hx hby 101 at_84 (flt hc84_159).2.1 (by decide) (by decide) ?_
      exact J84 _ _ _ X78 rfl N78 (by rw [own_st, if_neg (fun q => hc84_159 ((own_ltI (a := J) (b := 1) (by omega) (by omega)).mpr q.1))])
  · skip
    obtain ⟨J, e_J, hJm, hJ3⟩ := own_mn (x := ((pe.toUInt32 >>> ((8 : Int32) &&& 31).toUInt32).toInt32)) (m := (2 : Int32)) (M := 2) rfl
    rw [e_J]
    clear e_J
    refine g_new X14 hx hby hZ hown w11_ w12_ w13_ e14 (by decide) (by decide) at_60 (fun T165 h165 b165 g165 X165 e165 E165 A165 D165 => ?_)
    have F_value_b165 : Fld Z h165 b165 "java/lang/String" "value" "[B" .null := D165 (Or.inr w29_) (ty := (.array .byte)) (by decide)
    have F_coder_b165 : Fld Z h165 b165 "java/lang/String" "coder" "B" (.int (0 : Int32)) := D165 (Or.inr w30_) (ty := .byte) (by decide)
    refine g_dup X165 hx hby at_63 rfl ?_
    refine g_aload X165 hx hby at_64 rfl rfl ?_
    refine g_iload X165 hx hby at_66 rfl ?_
    have f167 := (VQ.ext E165)
    have z168 := (Nat.le_trans z13 (Nat.le_trans (Keep.of_wr W14).1 E165.1))
    refine g_static X165 hx hby hZ hown (rm_pref2 l Z a0 hw [] b2 k2 d0 d1 d2 d3 h165 n0 z168 f167 hr0 hr1 hr2 hr3) w14_ w15_ w8_ w16_ (by decide) e165 (by rw [hml]; rfl) [(.ref b2), (.int (2 : Int32))] (lenOf own_pd18 rfl) rfl rfl (Nat.le_of_ble_eq_true rfl) (Nat.le_of_ble_eq_true rfl) (Nat.le_of_ble_eq_true rfl) (Nat.le_of_ble_eq_true rfl) at_68 (fun v166 T166 L166 X166 hQ166 => ?_)
    obtain ⟨N166q, K166, pf166, kp166, rfl, lp166, Vp166⟩ := hQ166
    have N166 := Fr.app N14 N166q
    have f170 := (((((((OLD.ext E2).wr W5 g_b2).wr W8 g_b2).wr W11 g_b2).wr W14 g_b2).ext E165).keep K166 all0)
    have f171 := (A165.keep K166)
    have f172 := (F_coder_b165.keep K166 nin0)
    have f173 := (F_value_b165.keep K166 nin0)
    have g_b165 : n0 ≤ b165 := Nat.le_trans (Nat.le_trans z13 (Keep.of_wr W14).1) (Nat.le_of_eq g165)
    have z174 := (Nat.le_trans z168 K166.1)
    refine g_special X166 hx hby hZ hown (rm_ini1G l Z a0 hw [] b165 pf166 kp166 [d0, d1] 2 cz T166.heap n0 z174 O2 P5 f170 Uad Uhi Ulo f171 f172 f173 g_b165 rfl (by decide) (by decide) (fun i hi => by
          match i, hi with
          | 0, _ => exact hr0
          | 1, _ => exact hr1) Vp166) rfl rfl w17_ w18_ w13_ w19_ (by decide) rfl (by rw [hml]; rfl) [(.ref pf166)] (lenOf own_pd19 rfl) rfl rfl (Nat.le_of_ble_eq_true rfl) (Nat.le_of_ble_eq_true rfl) (Nat.le_of_ble_eq_true rfl) (Nat.le_of_ble_eq_true rfl) at_71 (fun v169 T169 L169 X169 hQ169 => ?_)
    obtain ⟨rfl, N169q, K169, t169, kb169, lo169, Es169, Vs169, D169⟩ := hQ169
    have N169 := Fr.app N166 N169q
    refine g_at 74 rfl rfl rfl ?_
    refine g_astore X169 hx hby at_74 rfl (l' := #[.val (.int pa), .val (.int pb), .val (.int pc0), .val (.int pd), .val (.int pe), .val (.int (2 : Int32)), .val (.int (Int32.ofNat J)), .val (.ref b2), .val (.ref b165), .unset, .unset, .unset, .unset]) rfl ?_
    refine g_iload X169 hx hby at_76 rfl ?_
    refine g_istore X169 hx hby at_78 (l' := #[.val (.int pa), .val (.int pb), .val (.int pc0), .val (.int pd), .val (.int pe), .val (.int (2 : Int32)), .val (.int (Int32.ofNat J)), .val (.ref b2), .val (.ref b165), .val (.int (Int32.ofNat J)), .unset, .unset, .unset]) rfl ?_
    have J175 : ∀ (T175 : State) (L175 : List Loc) (kv0 : Int32), Stand p l e room_1 (s.setVm s.vm) m #[(.int pa), (.int pb), (.int pc0), (.int pd), (.int pe)] below meth c_ T175 L175 5 22 → T175.heap = T169.heap → Fr n0 L175 → (kv0 = Int32.ofNat (own_st 2 [d0, d1, d2, d3] J)) → Go p e below (RetW s (Q_law Z pa pb pc0 pd pe fz cz h0 n0) 24 1152) (T175.setTop (mkF m 101 #[.val (.int pa), .val (.int pb), .val (.int pc0), .val (.int pd), .val (.int pe), .val (.int (2 : Int32)), .val (.int (Int32.ofNat J)), .val (.ref b2), .val (.ref b165), .val (.int kv0), .unset, .unset, .unset] [])) := by
      intro T175 L175 kv0 X175 e175 N175 h_kv0
      obtain ⟨J1, e_J1⟩ : ∃ z, z = own_st 2 [d0, d1, d2, d3] J := ⟨_, rfl⟩
      have hle1 : J1 ≤ 2 := by rw [e_J1]; exact own_st_le hJm
      rw [← e_J1] at h_kv0
      subst h_kv0
      have J176 : ∀ (T176 : State) (L176 : List Loc) (kv1 : Int32), Stand p l e room_1 (s.setVm s.vm) m #[(.int pa), (.int pb), (.int pc0), (.int pd), (.int pe)] below meth c_ T176 L176 5 22 → T176.heap = T169.heap → Fr n0 L176 → (kv1 = Int32.ofNat (own_st 2 [d0, d1, d2, d3] J1)) → Go p e below (RetW s (Q_law Z pa pb pc0 pd pe fz cz h0 n0) 24 1152) (T176.setTop (mkF m 122 #[.val (.int pa), .val (.int pb), .val (.int pc0), .val (.int pd), .val (.int pe), .val (.int (2 : Int32)), .val (.int (Int32.ofNat J)), .val (.ref b2), .val (.ref b165), .val (.int kv1), .unset, .unset, .unset] [])) := by
        intro T176 L176 kv1 X176 e176 N176 h_kv1
        obtain ⟨J2, e_J2⟩ : ∃ z, z = own_st 2 [d0, d1, d2, d3] J1 := ⟨_, rfl⟩
        have hle2 : J2 ≤ 2 := by rw [e_J2]; exact own_st_le hle1
        rw [← e_J2] at h_kv1
        subst h_kv1
        have J177 : ∀ (T177 : State) (L177 : List Loc) (kv2 : Int32), Stand p l e room_1 (s.setVm s.vm) m #[(.int pa), (.int pb), (.int pc0), (.int pd), (.int pe)] below meth c_ T177 L177 5 22 → T177.heap = T169.heap → Fr n0 L177 → (kv2 = Int32.ofNat (own_st 2 [d0, d1, d2, d3] J2)) → Go p e below (RetW s (Q_law Z pa pb pc0 pd pe fz cz h0 n0) 24 1152) (T177.setTop (mkF m 143 #[.val (.int pa), .val (.int pb), .val (.int pc0), .val (.int pd), .val (.int pe), .val (.int (2 : Int32)), .val (.int (Int32.ofNat J)), .val (.ref b2), .val (.ref b165), .val (.int kv2), .unset, .unset, .unset] [])) := by
          intro T177 L177 kv2 X177 e177 N177 h_kv2
          obtain ⟨J3, e_J3⟩ : ∃ z, z = own_st 2 [d0, d1, d2, d3] J2 := ⟨_, rfl⟩
          have hle3 : J3 ≤ 2 := by rw [e_J3]; exact own_st_le hle2
          rw [← e_J3] at h_kv2
          subst h_kv2
          have J178 : ∀ (T178 : State) (L178 : List Loc) (kv3 : Int32), Stand p l e room_1 (s.setVm s.vm) m #[(.int pa), (.int pb), (.int pc0), (.int pd), (.int pe)] below meth c_ T178 L178 5 22 → T178.heap = T169.heap → Fr n0 L178 → (kv3 = Int32.ofNat (own_st 2 [d0, d1, d2, d3] J3)) → Go p e below (RetW s (Q_law Z pa pb pc0 pd pe fz cz h0 n0) 24 1152) (T178.setTop (mkF m 164 #[.val (.int pa), .val (.int pb), .val (.int pc0), .val (.int pd), .val (.int pe), .val (.int (2 : Int32)), .val (.int (Int32.ofNat J)), .val (.ref b2), .val (.ref b165), .val (.int kv3), .unset, .unset, .unset] [])) := by
            intro T178 L178 kv3 X178 e178 N178 h_kv3
            obtain ⟨J4, e_J4⟩ : ∃ z, z = own_st 2 [d0, d1, d2, d3] J3 := ⟨_, rfl⟩
            have hle4 : J4 ≤ 2 := by rw [e_J4]; exact own_st_le hle3
            rw [← e_J4] at h_kv3
            subst h_kv3
            refine g_new X178 hx hby hZ hown w35_ w36_ w37_ e178 (by decide) (by decide) at_164 (fun T179 h179 b179 g179 X179 e179 E179 A179 D179 => ?_)
            have F_text_b179 : Fld Z h179 b179 "com/example/pathloom/pathloom/web/MediaType$Reader" "text" "Ljava/lang/String;" .null := D179 (Or.inr w43_) (ty := (.object "java/lang/String")) (by decide)
            have F_position_b179 : Fld Z h179 b179 "com/example/pathloom/pathloom/web/MediaType$Reader" "position" "I" (.int (0 : Int32)) := D179 (Or.inl w55_) (ty := .int) (by decide)
            refine g_dup X179 hx hby at_167 rfl ?_
            refine g_aload X179 hx hby at_168 rfl rfl ?_
            have g_b179 : n0 ≤ b179 := Nat.le_trans (Nat.le_trans z174 K169.1) (Nat.le_of_eq g179)
            have z181 := (Nat.le_trans z174 (Nat.le_trans K169.1 E179.1))
            refine g_special X179 hx hby hZ hown (rm_rdini l Z a0 hw [] b179 b165 h179 n0 z181 A179 F_text_b179 F_position_b179 g_b179) rfl rfl w38_ w39_ w37_ w40_ (by decide) e179 (by rw [hml]; rfl) [(.ref b165)] (lenOf own_pd20 rfl) rfl rfl (Nat.le_of_ble_eq_true rfl) (Nat.le_of_ble_eq_true rfl) (Nat.le_of_ble_eq_true rfl) (Nat.le_of_ble_eq_true rfl) at_170 (fun v180 T180 L180 X180 hQ180 => ?_)
            obtain ⟨rfl, N180q, K180, Er180, Tr180, Pr180⟩ := hQ180
            have N180 := Fr.app N178 N180q
            refine g_astore X180 hx hby at_173 rfl (l' := #[.val (.int pa), .val (.int pb), .val (.int pc0), .val (.int pd), .val (.int pe), .val (.int (2 : Int32)), .val (.int (Int32.ofNat J)), .val (.ref b2), .val (.ref b165), .val (.int (Int32.ofNat J4)), .val (.ref b179), .unset, .unset]) rfl ?_
            refine g_iconst X180 hx hby (1 : Int32) at_175 rfl ?_
            refine g_istore X180 hx hby at_176 (l' := #[.val (.int pa), .val (.int pb), .val (.int pc0), .val (.int pd), .val (.int pe), .val (.int (2 : Int32)), .val (.int (Int32.ofNat J)), .val (.ref b2), .val (.ref b165), .val (.int (Int32.ofNat J4)), .val (.ref b179), .val (.int (1 : Int32)), .unset]) rfl ?_
            have z182 := (Nat.le_trans z181 K180.1)
            have ne183 : b179 ≠ b165 := (Ne.symm (Nat.ne_of_lt (Nat.lt_of_lt_of_le A165.lt (Nat.le_trans (Nat.le_trans K166.1 K169.1) (Nat.le_of_eq g179)))))
            have ne184 : b179 ≠ t169 := (Ne.symm (Nat.ne_of_lt (Nat.lt_of_lt_of_le D169.lt (Nat.le_of_eq g179))))
            have JT : ∀ (T9 : State) (L9 : List Loc) (h9 : Heap), Stand p l e room_1 (s.setVm s.vm) m #[(.int pa), (.int pb), (.int pc0), (.int pd), (.int pe)] below meth c_ T9 L9 6 24 → T9.heap = h9 → Fr n0 L9 → ((T180.heap).size ≤ h9.size) → (Old Z n0 h9) → (Exa Z h9 b179 "com/example/pathloom/pathloom/web/MediaType$Reader") → (Fld Z h9 b179 "com/example/pathloom/pathloom/web/MediaType$Reader" "text" "Ljava/lang/String;" (.ref b165)) → (Fld Z h9 b179 "com/example/pathloom/pathloom/web/MediaType$Reader" "position" "I" (.int (Int32.ofNat J))) → (Exa Z h9 b165 "java/lang/String") → (Fld Z h9 b165 "java/lang/String" "value" "[B" (.ref t169)) → (own_D Z h9 b165 t169 kb169 [d0, d1] 2) → (Arv Z h9 b2 k2 .char (4 : Int32) [(.int d0), (.int d1), (.int d2), (.int d3)] (.int (0 : Int32))) →  Go p e below (RetW s (Q_law Z pa pb pc0 pd pe fz cz h0 n0) 24 1152) (T9.setTop (mkF m 238 #[.val (.int pa), .val (.int pb), .val (.int pc0), .val (.int pd), .val (.int pe), .val (.int (2 : Int32)), .val (.int (Int32.ofNat J)), .val (.ref b2), .val (.ref b165), .val (.int (Int32.ofNat J4)), .val (.ref b179), .val (.int (1 : Int32)), .unset] [])) := by
              intro T9 L9 h9 X9 e9 N9 hsz9 OL9 rE9 rT9 rP9 E9 VF9 D9 VC9
              have z9 : n0 ≤ h9.size := Nat.le_trans z182 hsz9
              refine g_aload X9 hx hby at_238 rfl rfl ?_
              refine g_virtual X9 hx hby hZ hown (rm_rdskip l Z a0 hw [] b179 b165 t169 kb169 [d0, d1] 2 J fz cz h9 n0 z9 O2 P5 OL9 Uad Uhi Ulo E9 VF9 D9 rfl (by decide) (fun i hi => by
                    match i, hi with
                    | 0, _ => exact hr0
                    | 1, _ => exact hr1) rE9 rT9 rP9 hJm rfz O4 g_b179 ne183 ne184) w44_ w45_ (notFace_of_selects (args := #[]) (mvT hZ w47_)) w47_ w46_ w37_ w48_ (by decide) e9 rE9 (by rw [hml]; rfl) [] (lenOf own_pd13 rfl) rfl rfl (Nat.le_of_ble_eq_true rfl) (Nat.le_of_ble_eq_true rfl) (Nat.le_of_ble_eq_true rfl) (Nat.le_of_ble_eq_true rfl) at_240 (fun v185 T185 L185 X185 hQ185 => ?_)
              obtain ⟨rfl, N185q, K185, Er185, Tr185, Pr185⟩ := hQ185
              have N185 := Fr.app N9 N185q
              have eK : own_sk (2 - J) [d0, d1] J = J4 := by rw [own_it4 (ds := [d0, d1, d2, d3]) (fun i hi => by
                    match i, hi with
                    | 0, _ => rfl
                    | 1, _ => rfl) hJm (by decide), ← e_J1, ← e_J2, ← e_J3, ← e_J4]
              rw [eK] at Pr185
              refine g_istore X185 hx hby at_243 (l' := #[.val (.int pa), .val (.int pb), .val (.int pc0), .val (.int pd), .val (.int pe), .val (.int (2 : Int32)), .val (.int (Int32.ofNat J)), .val (.ref b2), .val (.ref b165), .val (.int (Int32.ofNat J4)), .val (.ref b179), .val (.int (1 : Int32)), .val (.int (1 : Int32))]) rfl ?_
              refine g_iconst X185 hx hby (0 : Int32) at_245 rfl ?_
              refine g_iload X185 hx hby at_246 rfl ?_
              by_cases hc248_186 : (0 : Int32) < (Int32.ofNat J4)
              · skip
                refine g_icY X185 hx hby 271 at_248 (tlt hc248_186).1 (by decide) (by decide) ?_
                refine g_iconst X185 hx hby (1 : Int32) at_271 rfl ?_
                refine g_iload X185 hx hby at_272 rfl ?_
                by_cases hc274_187 : (1 : Int32) < (Int32.ofNat J4)
                · skip
                  refine g_icY X185 hx hby 297 at_274 (tlt hc274_187).1 (by decide) (by decide) ?_
                  refine g_iconst X185 hx hby (2 : Int32) at_297 rfl ?_
                  refine g_iload X185 hx hby at_298 rfl ?_
                  refine g_icN X185 hx hby at_300 (flt ((fun q => absurd ((own_ltI (a := 2) (b := J4) (by omega) (by omega)).mp q) (by omega)) : ¬ ((2 : Int32) < (Int32.ofNat J4)))).1 ?_
                  refine g_iconst X185 hx hby (2 : Int32) at_303 rfl ?_
                  refine g_iload X185 hx hby at_304 rfl ?_
                  refine g_icY X185 hx hby 323 at_306 (flt (by decide : ¬ ((2 : Int32) < (2 : Int32)))).2.1 (by decide) (by decide) ?_
                  refine g_iconst X185 hx hby (3 : Int32) at_323 rfl ?_
                  refine g_iload X185 hx hby at_324 rfl ?_
                  refine g_icN X185 hx hby at_326 (flt ((fun q => absurd ((own_ltI (a := 3) (b := J4) (by omega) (by omega)).mp q) (by omega)) : ¬ ((3 : Int32) < (Int32.ofNat J4)))).1 ?_
                  refine g_iconst X185 hx hby (3 : Int32) at_329 rfl ?_
                  refine g_iload X185 hx hby at_330 rfl ?_
                  refine g_icY X185 hx hby 349 at_332 (flt (by decide : ¬ ((3 : Int32) < (2 : Int32)))).2.1 (by decide) (by decide) ?_
                  have hK : J4 = 2 := by
                    have q0 := (own_ltI (a := 0) (b := J4) (by omega) (by omega)).mp hc248_186
                    have q1 := (own_ltI (a := 1) (b := J4) (by omega) (by omega)).mp hc274_187
                    omega
                  subst hK
                  refine g_iload X185 hx hby at_349 rfl ?_
                  refine g_aload X185 hx hby at_351 rfl rfl ?_
                  have f189 := (OL9.keep K185 (allS g_b179 all0))
                  have f190 := (E9.keep K185)
                  have f191 := (VF9.keep K185 (ninS (Ne.symm ne183) nin0))
                  have f192 := (D9.keep K185 (ninS (Ne.symm ne183) nin0) (ninS (Ne.symm ne184) nin0))
                  have f193 := (rE9.keep K185)
                  have z194 := (Nat.le_trans z9 K185.1)
                  refine g_virtual X185 hx hby hZ hown (rm_rdend l Z a0 hw [] b179 b165 t169 kb169 [d0, d1] 2 (2 : Int32) cz T185.heap n0 z194 O2 P5 f189 f190 f191 f192 rfl (by decide) f193 Tr185 Pr185) w67_ w50_ (notFace_of_selects (args := #[]) (mvT hZ w52_)) w52_ w51_ w37_ w53_ (by decide) rfl f193 (by rw [hml]; rfl) [] (lenOf own_pd13 rfl) rfl rfl (Nat.le_of_ble_eq_true rfl) (Nat.le_of_ble_eq_true rfl) (Nat.le_of_ble_eq_true rfl) (Nat.le_of_ble_eq_true rfl) at_353 (fun v188 T188 L188 X188 hQ188 => ?_)
                  obtain ⟨rfl, N188q, eh188⟩ := hQ188
                  have N188 := Fr.app N185 N188q
                  refine g_topI (T := T188) (1 : Int32) (if_pos rfl) ?_
                  refine g_iand X188 hx hby at_356 ?_
                  refine g_topI (1 : Int32) (by decide) ?_
                  refine g_istore X188 hx hby at_357 (l' := #[.val (.int pa), .val (.int pb), .val (.int pc0), .val (.int pd), .val (.int pe), .val (.int (2 : Int32)), .val (.int (Int32.ofNat J)), .val (.ref b2), .val (.ref b165), .val (.int (2 : Int32)), .val (.ref b179), .val (.int (1 : Int32)), .val (.int (1 : Int32))]) rfl ?_
                  refine g_iload X188 hx hby at_359 rfl ?_
                  refine g_ifN X188 hx hby at_361 (feq (by decide : ¬ ((1 : Int32) = (0 : Int32)))).1 ?_
                  refine g_iload X188 hx hby at_364 rfl ?_
                  refine g_ifN X188 hx hby at_366 (feq (by decide : ¬ ((1 : Int32) = (0 : Int32)))).1 ?_
                  refine g_iconst X188 hx hby (1 : Int32) at_369 rfl ?_
                  refine g_goto X188 hx hby 374 at_370 (by decide) (by decide) ?_
                  refine g_nretW X188 hx hby (t := .boolean) (by simp) Bd.returns Bd.notSynchronized hS0 at_374 eh188 (Nat.le_trans (Nat.le_trans (Nat.zero_le _) hsz9) K185.1) (by decide) (by decide) ?_
                  show (Q_law Z pa pb pc0 pd pe fz cz h0 n0) (some (.int (1 : Int32))) _ _
                  exact ⟨rfl, N188⟩
                · skip
                  refine g_icN X185 hx hby at_274 (flt hc274_187).1 ?_
                  have hK : J4 = 1 := by
                    have q0 := (own_ltI (a := 0) (b := J4) (by omega) (by omega)).mp hc248_186
                    have q1 := mt (own_ltI (a := 1) (b := J4) (by omega) (by omega)).mpr hc274_187
                    omega
                  subst hK
                  refine g_iconst X185 hx hby (1 : Int32) at_277 rfl ?_
                  refine g_iload X185 hx hby at_278 rfl ?_
                  refine g_icN X185 hx hby at_280 (tlt (by decide : (1 : Int32) < (2 : Int32))).2.1 ?_
                  refine g_iload X185 hx hby at_283 rfl ?_
                  refine g_aload X185 hx hby at_285 rfl rfl ?_
                  refine g_aload X185 hx hby at_287 rfl rfl ?_
                  refine g_iconst X185 hx hby (1 : Int32) at_289 rfl ?_
                  have ne195 : b2 ≠ b179 := (Ne.symm (Exa.neArv rE9 VC9 w36_))
                  have f196 := (VC9.keep K185 (ninS ne195 nin0))
                  refine g_caload X185 hx hby hZ rfl f196 (.int d1) ⟨by decide, by decide⟩ rfl at_290 ?_
                  have f198 := (OL9.keep K185 (allS g_b179 all0))
                  have f199 := (E9.keep K185)
                  have f200 := (VF9.keep K185 (ninS (Ne.symm ne183) nin0))
                  have f201 := (D9.keep K185 (ninS (Ne.symm ne183) nin0) (ninS (Ne.symm ne184) nin0))
                  have f202 := (rE9.keep K185)
                  have z203 := (Nat.le_trans z9 K185.1)
                  refine g_virtual X185 hx hby hZ hown (rm_rdtake l Z a0 hw [] b179 b165 t169 kb169 [d0, d1] 2 1 d1 fz cz T185.heap n0 z203 O2 P5 f198 Uad Uhi Ulo f199 f200 f201 rfl (by decide) f202 Tr185 Pr185 (by decide) rfl hr1 rfz O4 g_b179 ne183 ne184) w103_ w104_ (notFace_of_selects (args := #[]) (mvT hZ w106_)) w106_ w105_ w37_ w107_ (by decide) rfl f202 (by rw [hml]; rfl) [(.int d1)] (lenOf own_pd16 rfl) rfl rfl (Nat.le_of_ble_eq_true rfl) (Nat.le_of_ble_eq_true rfl) (Nat.le_of_ble_eq_true rfl) (Nat.le_of_ble_eq_true rfl) at_291 (fun v197 T197 L197 X197 hQ197 => ?_)
                  obtain ⟨rfl, N197q, K197, Er197, Tr197, Pr197⟩ := hQ197
                  have N197 := Fr.app N185 N197q
                  refine g_iand X197 hx hby at_294 ?_
                  refine g_topI (1 : Int32) (by decide) ?_
                  refine g_istore X197 hx hby at_295 (l' := #[.val (.int pa), .val (.int pb), .val (.int pc0), .val (.int pd), .val (.int pe), .val (.int (2 : Int32)), .val (.int (Int32.ofNat J)), .val (.ref b2), .val (.ref b165), .val (.int (1 : Int32)), .val (.ref b179), .val (.int (1 : Int32)), .val (.int (1 : Int32))]) rfl ?_
                  refine g_iconst X197 hx hby (2 : Int32) at_297 rfl ?_
                  refine g_iload X197 hx hby at_298 rfl ?_
                  refine g_icN X197 hx hby at_300 (flt (by decide : ¬ ((2 : Int32) < (1 : Int32)))).1 ?_
                  refine g_iconst X197 hx hby (2 : Int32) at_303 rfl ?_
                  refine g_iload X197 hx hby at_304 rfl ?_
                  refine g_icY X197 hx hby 323 at_306 (flt (by decide : ¬ ((2 : Int32) < (2 : Int32)))).2.1 (by decide) (by decide) ?_
                  refine g_iconst X197 hx hby (3 : Int32) at_323 rfl ?_
                  refine g_iload X197 hx hby at_324 rfl ?_
                  refine g_icN X197 hx hby at_326 (flt (by decide : ¬ ((3 : Int32) < (1 : Int32)))).1 ?_
                  refine g_iconst X197 hx hby (3 : Int32) at_329 rfl ?_
                  refine g_iload X197 hx hby at_330 rfl ?_
                  refine g_icY X197 hx hby 349 at_332 (flt (by decide : ¬ ((3 : Int32) < (2 : Int32)))).2.1 (by decide) (by decide) ?_
                  refine g_iload X197 hx hby at_349 rfl ?_
                  refine g_aload X197 hx hby at_351 rfl rfl ?_
                  have f205 := (f198.keep K197 (allS g_b179 all0))
                  have f206 := (f199.keep K197)
                  have f207 := (f200.keep K197 (ninS (Ne.symm ne183) nin0))
                  have f208 := (f201.keep K197 (ninS (Ne.symm ne183) nin0) (ninS (Ne.symm ne184) nin0))
                  have f209 := (f202.keep K197)
                  have z210 := (Nat.le_trans z203 K197.1)
                  refine g_virtual X197 hx hby hZ hown (rm_rdend l Z a0 hw [] b179 b165 t169 kb169 [d0, d1] 2 (2 : Int32) cz T197.heap n0 z210 O2 P5 f205 f206 f207 f208 rfl (by decide) f209 Tr197 Pr197) w67_ w50_ (notFace_of_selects (args := #[]) (mvT hZ w52_)) w52_ w51_ w37_ w53_ (by decide) rfl f209 (by rw [hml]; rfl) [] (lenOf own_pd13 rfl) rfl rfl (Nat.le_of_ble_eq_true rfl) (Nat.le_of_ble_eq_true rfl) (Nat.le_of_ble_eq_true rfl) (Nat.le_of_ble_eq_true rfl) at_353 (fun v204 T204 L204 X204 hQ204 => ?_)
                  obtain ⟨rfl, N204q, eh204⟩ := hQ204
                  have N204 := Fr.app N197 N204q
                  refine g_topI (T := T204) (1 : Int32) (if_pos rfl) ?_
                  refine g_iand X204 hx hby at_356 ?_
                  refine g_topI (1 : Int32) (by decide) ?_
                  refine g_istore X204 hx hby at_357 (l' := #[.val (.int pa), .val (.int pb), .val (.int pc0), .val (.int pd), .val (.int pe), .val (.int (2 : Int32)), .val (.int (Int32.ofNat J)), .val (.ref b2), .val (.ref b165), .val (.int (1 : Int32)), .val (.ref b179), .val (.int (1 : Int32)), .val (.int (1 : Int32))]) rfl ?_
                  refine g_iload X204 hx hby at_359 rfl ?_
                  refine g_ifN X204 hx hby at_361 (feq (by decide : ¬ ((1 : Int32) = (0 : Int32)))).1 ?_
                  refine g_iload X204 hx hby at_364 rfl ?_
                  refine g_ifN X204 hx hby at_366 (feq (by decide : ¬ ((1 : Int32) = (0 : Int32)))).1 ?_
                  refine g_iconst X204 hx hby (1 : Int32) at_369 rfl ?_
                  refine g_goto X204 hx hby 374 at_370 (by decide) (by decide) ?_
                  refine g_nretW X204 hx hby (t := .boolean) (by simp) Bd.returns Bd.notSynchronized hS0 at_374 eh204 (Nat.le_trans (Nat.le_trans (Nat.zero_le _) hsz9) (Nat.le_trans K185.1 K197.1)) (by decide) (by decide) ?_
                  show (Q_law Z pa pb pc0 pd pe fz cz h0 n0) (some (.int (1 : Int32))) _ _
                  exact ⟨rfl, N204⟩
              · skip
                refine g_icN X185 hx hby at_248 (flt hc248_186).1 ?_
                have hK : J4 = 0 := by
                  have q0 := mt (own_ltI (a := 0) (b := J4) (by omega) (by omega)).mpr hc248_186
                  omega
                subst hK
                refine g_iconst X185 hx hby (0 : Int32) at_251 rfl ?_
                refine g_iload X185 hx hby at_252 rfl ?_
                refine g_icN X185 hx hby at_254 (tlt (by decide : (0 : Int32) < (2 : Int32))).2.1 ?_
                refine g_iload X185 hx hby at_257 rfl ?_
                refine g_aload X185 hx hby at_259 rfl rfl ?_
                refine g_aload X185 hx hby at_261 rfl rfl ?_
                refine g_iconst X185 hx hby (0 : Int32) at_263 rfl ?_
                have ne211 : b2 ≠ b179 := (Ne.symm (Exa.neArv rE9 VC9 w36_))
                have f212 := (VC9.keep K185 (ninS ne211 nin0))
                refine g_caload X185 hx hby hZ rfl f212 (.int d0) ⟨by decide, by decide⟩ rfl at_264 ?_
                have f214 := (OL9.keep K185 (allS g_b179 all0))
                have f215 := (E9.keep K185)
                have f216 := (VF9.keep K185 (ninS (Ne.symm ne183) nin0))
                have f217 := (D9.keep K185 (ninS (Ne.symm ne183) nin0) (ninS (Ne.symm ne184) nin0))
                have f218 := (rE9.keep K185)
                have z219 := (Nat.le_trans z9 K185.1)
                refine g_virtual X185 hx hby hZ hown (rm_rdtake l Z a0 hw [] b179 b165 t169 kb169 [d0, d1] 2 0 d0 fz cz T185.heap n0 z219 O2 P5 f214 Uad Uhi Ulo f215 f216 f217 rfl (by decide) f218 Tr185 Pr185 (by decide) rfl hr0 rfz O4 g_b179 ne183 ne184) w103_ w104_ (notFace_of_selects (args := #[]) (mvT hZ w106_)) w106_ w105_ w37_ w107_ (by decide) rfl f218 (by rw [hml]; rfl) [(.int d0)] (lenOf own_pd16 rfl) rfl rfl (Nat.le_of_ble_eq_true rfl) (Nat.le_of_ble_eq_true rfl) (Nat.le_of_ble_eq_true rfl) (Nat.le_of_ble_eq_true rfl) at_265 (fun v213 T213 L213 X213 hQ213 => ?_)
                obtain ⟨rfl, N213q, K213, Er213, Tr213, Pr213⟩ := hQ213
                have N213 := Fr.app N185 N213q
                refine g_at 268 rfl rfl rfl ?_
                refine g_iand X213 hx hby at_268 ?_
                refine g_topI (1 : Int32) (by decide) ?_
                refine g_istore X213 hx hby at_269 (l' := #[.val (.int pa), .val (.int pb), .val (.int pc0), .val (.int pd), .val (.int pe), .val (.int (2 : Int32)), .val (.int (Int32.ofNat J)), .val (.ref b2), .val (.ref b165), .val (.int (0 : Int32)), .val (.ref b179), .val (.int (1 : Int32)), .val (.int (1 : Int32))]) rfl ?_
                refine g_iconst X213 hx hby (1 : Int32) at_271 rfl ?_
                refine g_iload X213 hx hby at_272 rfl ?_
                refine g_icN X213 hx hby at_274 (flt (by decide : ¬ ((1 : Int32) < (0 : Int32)))).1 ?_
                refine g_iconst X213 hx hby (1 : Int32) at_277 rfl ?_
                refine g_iload X213 hx hby at_278 rfl ?_
                refine g_icN X213 hx hby at_280 (tlt (by decide : (1 : Int32) < (2 : Int32))).2.1 ?_
                refine g_iload X213 hx hby at_283 rfl ?_
                refine g_aload X213 hx hby at_285 rfl rfl ?_
                refine g_aload X213 hx hby at_287 rfl rfl ?_
                refine g_iconst X213 hx hby (1 : Int32) at_289 rfl ?_
                have f220 := (f212.keep K213 (ninS ne211 nin0))
                refine g_caload X213 hx hby hZ rfl f220 (.int d1) ⟨by decide, by decide⟩ rfl at_290 ?_
                have f222 := (f214.keep K213 (allS g_b179 all0))
                have f223 := (f215.keep K213)
                have f224 := (f216.keep K213 (ninS (Ne.symm ne183) nin0))
                have f225 := (f217.keep K213 (ninS (Ne.symm ne183) nin0) (ninS (Ne.symm ne184) nin0))
                have f226 := (f218.keep K213)
                have z227 := (Nat.le_trans z219 K213.1)
                refine g_virtual X213 hx hby hZ hown (rm_rdtake l Z a0 hw [] b179 b165 t169 kb169 [d0, d1] 2 1 d1 fz cz T213.heap n0 z227 O2 P5 f222 Uad Uhi Ulo f223 f224 f225 rfl (by decide) f226 Tr213 Pr213 (by decide) rfl hr1 rfz O4 g_b179 ne183 ne184) w103_ w104_ (notFace_of_selects (args := #[]) (mvT hZ w106_)) w106_ w105_ w37_ w107_ (by decide) rfl f226 (by rw [hml]; rfl) [(.int d1)] (lenOf own_pd16 rfl) rfl rfl (Nat.le_of_ble_eq_true rfl) (Nat.le_of_ble_eq_true rfl) (Nat.le_of_ble_eq_true rfl) (Nat.le_of_ble_eq_true rfl) at_291 (fun v221 T221 L221 X221 hQ221 => ?_)
                obtain ⟨rfl, N221q, K221, Er221, Tr221, Pr221⟩ := hQ221
                have N221 := Fr.app N213 N221q
                refine g_iand X221 hx hby at_294 ?_
                refine g_topI (1 : Int32) (by decide) ?_
                refine g_istore X221 hx hby at_295 (l' := #[.val (.int pa), .val (.int pb), .val (.int pc0), .val (.int pd), .val (.int pe), .val (.int (2 : Int32)), .val (.int (Int32.ofNat J)), .val (.ref b2), .val (.ref b165), .val (.int (0 : Int32)), .val (.ref b179), .val (.int (1 : Int32)), .val (.int (1 : Int32))]) rfl ?_
                refine g_iconst X221 hx hby (2 : Int32) at_297 rfl ?_
                refine g_iload X221 hx hby at_298 rfl ?_
                refine g_icN X221 hx hby at_300 (flt (by decide : ¬ ((2 : Int32) < (0 : Int32)))).1 ?_
                refine g_iconst X221 hx hby (2 : Int32) at_303 rfl ?_
                refine g_iload X221 hx hby at_304 rfl ?_
                refine g_at 306 rfl rfl rfl ?_
                refine g_icY X221 hx hby 323 at_306 (flt (by decide : ¬ ((2 : Int32) < (2 : Int32)))).2.1 (by decide) (by decide) ?_
                refine g_iconst X221 hx hby (3 : Int32) at_323 rfl ?_
                refine g_iload X221 hx hby at_324 rfl ?_
                refine g_icN X221 hx hby at_326 (flt (by decide : ¬ ((3 : Int32) < (0 : Int32)))).1 ?_
                refine g_iconst X221 hx hby (3 : Int32) at_329 rfl ?_
                refine g_iload X221 hx hby at_330 rfl ?_
                refine g_icY X221 hx hby 349 at_332 (flt (by decide : ¬ ((3 : Int32) < (2 : Int32)))).2.1 (by decide) (by decide) ?_
                refine g_iload X221 hx hby at_349 rfl ?_
                refine g_aload X221 hx hby at_351 rfl rfl ?_
                have f229 := (f222.keep K221 (allS g_b179 all0))
                have f230 := (f223.keep K221)
                have f231 := (f224.keep K221 (ninS (Ne.symm ne183) nin0))
                have f232 := (f225.keep K221 (ninS (Ne.symm ne183) nin0) (ninS (Ne.symm ne184) nin0))
                have f233 := (f226.keep K221)
                have z234 := (Nat.le_trans z227 K221.1)
                refine g_virtual X221 hx hby hZ hown (rm_rdend l Z a0 hw [] b179 b165 t169 kb169 [d0, d1] 2 (2 : Int32) cz T221.heap n0 z234 O2 P5 f229 f230 f231 f232 rfl (by decide) f233 Tr221 Pr221) w67_ w50_ (notFace_of_selects (args := #[]) (mvT hZ w52_)) w52_ w51_ w37_ w53_ (by decide) rfl f233 (by rw [hml]; rfl) [] (lenOf own_pd13 rfl) rfl rfl (Nat.le_of_ble_eq_true rfl) (Nat.le_of_ble_eq_true rfl) (Nat.le_of_ble_eq_true rfl) (Nat.le_of_ble_eq_true rfl) at_353 (fun v228 T228 L228 X228 hQ228 => ?_)
                obtain ⟨rfl, N228q, eh228⟩ := hQ228
                have N228 := Fr.app N221 N228q
                refine g_topI (T := T228) (1 : Int32) (if_pos rfl) ?_
                refine g_iand X228 hx hby at_356 ?_
                refine g_topI (1 : Int32) (by decide) ?_
                refine g_istore X228 hx hby at_357 (l' := #[.val (.int pa), .val (.int pb), .val (.int pc0), .val (.int pd), .val (.int pe), .val (.int (2 : Int32)), .val (.int (Int32.ofNat J)), .val (.ref b2), .val (.ref b165), .val (.int (0 : Int32)), .val (.ref b179), .val (.int (1 : Int32)), .val (.int (1 : Int32))]) rfl ?_
                refine g_iload X228 hx hby at_359 rfl ?_
                refine g_ifN X228 hx hby at_361 (feq (by decide : ¬ ((1 : Int32) = (0 : Int32)))).1 ?_
                refine g_iload X228 hx hby at_364 rfl ?_
                refine g_ifN X228 hx hby at_366 (feq (by decide : ¬ ((1 : Int32) = (0 : Int32)))).1 ?_
                refine g_iconst X228 hx hby (1 : Int32) at_369 rfl ?_
                refine g_goto X228 hx hby 374 at_370 (by decide) (by decide) ?_
                refine g_nretW X228 hx hby (t := .boolean) (by simp) Bd.returns Bd.notSynchronized hS0 at_374 eh228 (Nat.le_trans (Nat.le_trans (Nat.zero_le _) hsz9) (Nat.le_trans (Nat.le_trans K185.1 K213.1) K221.1)) (by decide) (by decide) ?_
                show (Q_law Z pa pb pc0 pd pe fz cz h0 n0) (some (.int (1 : Int32))) _ _
                exact ⟨rfl, N228⟩
            refine g_iload X180 hx hby at_178 rfl ?_
            refine g_iconst X180 hx hby (1 : Int32) at_180 rfl ?_
            by_cases hc181_235 : (Int32.ofNat J) < (1 : Int32)
            · skip
              refine g_icY X180 hx hby 198 at_181 (tlt hc181_235).1 (by decide) (by decide) ?_
              refine g_iload X180 hx hby at_198 rfl ?_
              refine g_iconst X180 hx hby (2 : Int32) at_200 rfl ?_
              refine g_icY X180 hx hby 218 at_201 (tlt ((own_lt12 hc181_235) : (Int32.ofNat J) < (2 : Int32))).1 (by decide) (by decide) ?_
              refine g_iload X180 hx hby at_218 rfl ?_
              refine g_iconst X180 hx hby (3 : Int32) at_220 rfl ?_
              refine g_icY X180 hx hby 238 at_221 (tlt ((own_ltn (N := 3) rfl (by omega)) : (Int32.ofNat J) < (3 : Int32))).1 (by decide) (by decide) ?_
              have hJe : J = 0 := by
                have q0 := (own_ltI (a := J) (b := 1) (by omega) (by omega)).mp hc181_235
                omega
              have f236 := (((f170.keep K169 (allS g_b165 all0)).ext E179).keep K180 (allS g_b179 all0))
              have f237 := (((f171.keep K169).ext E179).keep K180)
              have f238 := ((Vs169.ext E179).keep K180 (ninS (Ne.symm ne183) nin0))
              have f239 := ((D169.ext E179).keep K180 (ninS (Ne.symm ne183) nin0) (ninS (Ne.symm ne184) nin0))
              have ne240 : b2 ≠ b165 := (Nat.ne_of_lt (Nat.lt_of_lt_of_le V2.lt (Nat.le_trans (Nat.le_trans (Nat.le_trans (Nat.le_trans (Keep.of_wr W5).1 (Keep.of_wr W8).1) (Keep.of_wr W11).1) (Keep.of_wr W14).1) (Nat.le_of_eq g165))))
              have ne241 : b2 ≠ b179 := (Nat.ne_of_lt (Nat.lt_of_lt_of_le V2.lt (Nat.le_trans (Nat.le_trans (Nat.le_trans (Nat.le_trans (Nat.le_trans (Nat.le_trans (Nat.le_trans (Keep.of_wr W5).1 (Keep.of_wr W8).1) (Keep.of_wr W11).1) (Keep.of_wr W14).1) E165.1) K166.1) K169.1) (Nat.le_of_eq g179))))
              have f242 := ((((f167.keep K166 nin0).keep K169 (ninS ne240 nin0)).ext E179).keep K180 (ninS ne241 nin0))
              exact JT _ _ _ X180 rfl N180 (Nat.le_refl _) f236 Er180 Tr180 (by rw [hJe]; exact Pr180) f237 f238 f239 f242
            · skip
              refine g_icN X180 hx hby at_181 (flt hc181_235).1 ?_
              refine g_iload X180 hx hby at_184 rfl ?_
              refine g_aload X180 hx hby at_186 rfl rfl ?_
              refine g_aload X180 hx hby at_188 rfl rfl ?_
              refine g_iconst X180 hx hby (0 : Int32) at_190 rfl ?_
              have ne243 : b2 ≠ b165 := (Nat.ne_of_lt (Nat.lt_of_lt_of_le V2.lt (Nat.le_trans (Nat.le_trans (Nat.le_trans (Nat.le_trans (Keep.of_wr W5).1 (Keep.of_wr W8).1) (Keep.of_wr W11).1) (Keep.of_wr W14).1) (Nat.le_of_eq g165))))
              have ne244 : b2 ≠ b179 := (Nat.ne_of_lt (Nat.lt_of_lt_of_le V2.lt (Nat.le_trans (Nat.le_trans (Nat.le_trans (Nat.le_trans (Nat.le_trans (Nat.le_trans (Nat.le_trans (Keep.of_wr W5).1 (Keep.of_wr W8).1) (Keep.of_wr W11).1) (Keep.of_wr W14).1) E165.1) K166.1) K169.1) (Nat.le_of_eq g179))))
              have f245 := ((((f167.keep K166 nin0).keep K169 (ninS ne243 nin0)).ext E179).keep K180 (ninS ne244 nin0))
              refine g_caload X180 hx hby hZ rfl f245 (.int d0) ⟨by decide, by decide⟩ rfl at_191 ?_
              have f247 := (((f170.keep K169 (allS g_b165 all0)).ext E179).keep K180 (allS g_b179 all0))
              have f248 := (((f171.keep K169).ext E179).keep K180)
              have f249 := ((Vs169.ext E179).keep K180 (ninS (Ne.symm ne183) nin0))
              have f250 := ((D169.ext E179).keep K180 (ninS (Ne.symm ne183) nin0) (ninS (Ne.symm ne184) nin0))
              refine g_virtual X180 hx hby hZ hown (rm_rdtake l Z a0 hw [] b179 b165 t169 kb169 [d0, d1] 2 0 d0 fz cz T180.heap n0 z182 O2 P5 f247 Uad Uhi Ulo f248 f249 f250 rfl (by decide) Er180 Tr180 Pr180 (by decide) rfl hr0 rfz O4 g_b179 ne183 ne184) w103_ w104_ (notFace_of_selects (args := #[]) (mvT hZ w106_)) w106_ w105_ w37_ w107_ (by decide) rfl Er180 (by rw [hml]; rfl) [(.int d0)] (lenOf own_pd16 rfl) rfl rfl (Nat.le_of_ble_eq_true rfl) (Nat.le_of_ble_eq_true rfl) (Nat.le_of_ble_eq_true rfl) (Nat.le_of_ble_eq_true rfl) at_192 (fun v246 T246 L246 X246 hQ246 => ?_)
              obtain ⟨rfl, N246q, K246, Er246, Tr246, Pr246⟩ := hQ246
              have N246 := Fr.app N180 N246q
              refine g_at 195 rfl rfl rfl ?_
              refine g_iand X246 hx hby at_195 ?_
              refine g_topI (1 : Int32) (by decide) ?_
              refine g_istore X246 hx hby at_196 (l' := #[.val (.int pa), .val (.int pb), .val (.int pc0), .val (.int pd), .val (.int pe), .val (.int (2 : Int32)), .val (.int (Int32.ofNat J)), .val (.ref b2), .val (.ref b165), .val (.int (Int32.ofNat J4)), .val (.ref b179), .val (.int (1 : Int32)), .unset]) rfl ?_
              refine g_iload X246 hx hby at_198 rfl ?_
              refine g_iconst X246 hx hby (2 : Int32) at_200 rfl ?_
              by_cases hc201_251 : (Int32.ofNat J) < (2 : Int32)
              · skip
                refine g_icY X246 hx hby 218 at_201 (tlt hc201_251).1 (by decide) (by decide) ?_
                refine g_iload X246 hx hby at_218 rfl ?_
                refine g_iconst X246 hx hby (3 : Int32) at_220 rfl ?_
                refine g_icY X246 hx hby 238 at_221 (tlt ((own_ltn (N := 3) rfl (by omega)) : (Int32.ofNat J) < (3 : Int32))).1 (by decide) (by decide) ?_
                have hJe : J = 1 := by
                  have q0 := mt (own_ltI (a := J) (b := 1) (by omega) (by omega)).mpr hc181_235
                  have q1 := (own_ltI (a := J) (b := 2) (by omega) (by omega)).mp hc201_251
                  omega
                have f252 := (f247.keep K246 (allS g_b179 all0))
                have f253 := (Er180.keep K246)
                have f254 := (f248.keep K246)
                have f255 := (f249.keep K246 (ninS (Ne.symm ne183) nin0))
                have f256 := (f250.keep K246 (ninS (Ne.symm ne183) nin0) (ninS (Ne.symm ne184) nin0))
                have f257 := (f245.keep K246 (ninS ne244 nin0))
                exact JT _ _ _ X246 rfl N246 K246.1 f252 f253 Tr246 (by rw [hJe]; exact Pr246) f254 f255 f256 f257
              · skip
                refine g_icN X246 hx hby at_201 (flt hc201_251).1 ?_
                refine g_iload X246 hx hby at_204 rfl ?_
                refine g_aload X246 hx hby at_206 rfl rfl ?_
                refine g_aload X246 hx hby at_208 rfl rfl ?_
                refine g_iconst X246 hx hby (1 : Int32) at_210 rfl ?_
                have f258 := (f245.keep K246 (ninS ne244 nin0))
                refine g_caload X246 hx hby hZ rfl f258 (.int d1) ⟨by decide, by decide⟩ rfl at_211 ?_
                have f260 := (f247.keep K246 (allS g_b179 all0))
                have f261 := (f248.keep K246)
                have f262 := (f249.keep K246 (ninS (Ne.symm ne183) nin0))
                have f263 := (f250.keep K246 (ninS (Ne.symm ne183) nin0) (ninS (Ne.symm ne184) nin0))
                have f264 := (Er180.keep K246)
                have z265 := (Nat.le_trans z182 K246.1)
                refine g_virtual X246 hx hby hZ hown (rm_rdtake l Z a0 hw [] b179 b165 t169 kb169 [d0, d1] 2 1 d1 fz cz T246.heap n0 z265 O2 P5 f260 Uad Uhi Ulo f261 f262 f263 rfl (by decide) f264 Tr246 Pr246 (by decide) rfl hr1 rfz O4 g_b179 ne183 ne184) w103_ w104_ (notFace_of_selects (args := #[]) (mvT hZ w106_)) w106_ w105_ w37_ w107_ (by decide) rfl f264 (by rw [hml]; rfl) [(.int d1)] (lenOf own_pd16 rfl) rfl rfl (Nat.le_of_ble_eq_true rfl) (Nat.le_of_ble_eq_true rfl) (Nat.le_of_ble_eq_true rfl) (Nat.le_of_ble_eq_true rfl) at_212 (fun v259 T259 L259 X259 hQ259 => ?_)
                obtain ⟨rfl, N259q, K259, Er259, Tr259, Pr259⟩ := hQ259
                have N259 := Fr.app N246 N259q
                refine g_iand X259 hx hby at_215 ?_
                refine g_topI (1 : Int32) (by decide) ?_
                refine g_istore X259 hx hby at_216 (l' := #[.val (.int pa), .val (.int pb), .val (.int pc0), .val (.int pd), .val (.int pe), .val (.int (2 : Int32)), .val (.int (Int32.ofNat J)), .val (.ref b2), .val (.ref b165), .val (.int (Int32.ofNat J4)), .val (.ref b179), .val (.int (1 : Int32)), .unset]) rfl ?_
                refine g_iload X259 hx hby at_218 rfl ?_
                refine g_iconst X259 hx hby (3 : Int32) at_220 rfl ?_
                refine g_icY X259 hx hby 238 at_221 (tlt ((own_ltn (N := 3) rfl (by omega)) : (Int32.ofNat J) < (3 : Int32))).1 (by decide) (by decide) ?_
                have hJe : J = 2 := by
                  have q0 := mt (own_ltI (a := J) (b := 1) (by omega) (by omega)).mpr hc181_235
                  have q1 := mt (own_ltI (a := J) (b := 2) (by omega) (by omega)).mpr hc201_251
                  omega
                have f266 := (f260.keep K259 (allS g_b179 all0))
                have f267 := (f264.keep K259)
                have f268 := (f261.keep K259)
                have f269 := (f262.keep K259 (ninS (Ne.symm ne183) nin0))
                have f270 := (f263.keep K259 (ninS (Ne.symm ne183) nin0) (ninS (Ne.symm ne184) nin0))
                have f271 := (f258.keep K259 (ninS ne244 nin0))
                exact JT _ _ _ X259 rfl N259 (Nat.le_trans K246.1 K259.1) f266 f267 Tr259 (by rw [hJe]; exact Pr259) f268 f269 f270 f271
          refine g_iload X177 hx hby at_143 rfl ?_
          refine g_iload X177 hx hby at_145 rfl ?_
          by_cases hc147_272 : (Int32.ofNat J3) < (2 : Int32)
          · skip
            refine g_icN X177 hx hby at_147 (tlt hc147_272).2.1 ?_
            refine g_aload X177 hx hby at_150 rfl rfl ?_
            refine g_iload X177 hx hby at_152 rfl ?_
            have ne273 : b2 ≠ b165 := (Nat.ne_of_lt (Nat.lt_of_lt_of_le V2.lt (Nat.le_trans (Nat.le_trans (Nat.le_trans (Nat.le_trans (Keep.of_wr W5).1 (Keep.of_wr W8).1) (Keep.of_wr W11).1) (Keep.of_wr W14).1) (Nat.le_of_eq g165))))
            have f274 := ((f167.keep K166 nin0).keep K169 (ninS ne273 nin0))
            refine g_caload X177 hx hby hZ e177 f274 (.int ([d0, d1, d2, d3].getD J3 0)) (own_in2 (M := 4) (by have := (own_ltI (a := J3) (b := 2) (by omega) (by omega)).mp hc147_272; omega) (by omega)) (by rw [own_tn2 (by omega)]; exact own_getD [d0, d1, d2, d3] J3) at_154 ?_
            have z276 := (Nat.le_trans z174 K169.1)
            refine g_static X177 hx hby hZ hown (rm_blank l Z a0 hw [] ([d0, d1, d2, d3].getD J3 0) T169.heap n0 z276 ) w78_ w79_ w8_ w80_ (by decide) e177 (by rw [hml]; rfl) [(.int ([d0, d1, d2, d3].getD J3 0))] (lenOf own_pd16 rfl) rfl rfl (Nat.le_of_ble_eq_true rfl) (Nat.le_of_ble_eq_true rfl) (Nat.le_of_ble_eq_true rfl) (Nat.le_of_ble_eq_true rfl) at_155 (fun v275 T275 L275 X275 hQ275 => ?_)
            obtain ⟨rfl, N275q, eh275⟩ := hQ275
            have N275 := Fr.app N177 N275q
            by_cases hc158_277 : (own_blk ([d0, d1, d2, d3].getD J3 0)) = (0 : Int32)
            · skip
              refine g_ifY X275 hx hby 164 at_158 (teq hc158_277).1 (by decide) (by decide) ?_
              exact J178 _ _ _ X275 eh275 N275 (by rw [own_st, if_neg (fun q => by rw [hc158_277] at q; exact absurd q.2 (by decide))])
            · skip
              refine g_ifN X275 hx hby at_158 (feq hc158_277).1 ?_
              refine g_iinc X275 hx hby ((Int32.ofNat J3) + (1 : Int32)) at_161 rfl rfl (l' := #[.val (.int pa), .val (.int pb), .val (.int pc0), .val (.int pd), .val (.int pe), .val (.int (2 : Int32)), .val (.int (Int32.ofNat J)), .val (.ref b2), .val (.ref b165), .val (.int ((Int32.ofNat J3) + (1 : Int32))), .unset, .unset, .unset]) rfl ?_
              exact J178 _ _ _ X275 eh275 N275 (by rw [own_st, if_pos ⟨(own_ltI (a := J3) (b := 2) (by omega) (by omega)).mp hc147_272, own_blk1 hc158_277⟩, own_up])
          · skip
            refine g_icY X177 hx hby 164 at_147 (flt hc147_272).2.1 (by decide) (by decide) ?_
            exact J178 _ _ _ X177 e177 N177 (by rw [own_st, if_neg (fun q => hc147_272 ((own_ltI (a := J3) (b := 2) (by omega) (by omega)).mpr q.1))])
        refine g_iload X176 hx hby at_122 rfl ?_
        refine g_iload X176 hx hby at_124 rfl ?_
        by_cases hc126_278 : (Int32.ofNat J2) < (2 : Int32)
        · skip
          refine g_icN X176 hx hby at_126 (tlt hc126_278).2.1 ?_
          refine g_aload X176 hx hby at_129 rfl rfl ?_
          refine g_iload X176 hx hby at_131 rfl ?_
          have ne279 : b2 ≠ b165 := (Nat.ne_of_lt (Nat.lt_of_lt_of_le V2.lt (Nat.le_trans (Nat.le_trans (Nat.le_trans (Nat.le_trans (Keep.of_wr W5).1 (Keep.of_wr W8).1) (Keep.of_wr W11).1) (Keep.of_wr W14).1) (Nat.le_of_eq g165))))
          have f280 := ((f167.keep K166 nin0).keep K169 (ninS ne279 nin0))
          refine g_caload X176 hx hby hZ e176 f280 (.int ([d0, d1, d2, d3].getD J2 0)) (own_in2 (M := 4) (by have := (own_ltI (a := J2) (b := 2) (by omega) (by omega)).mp hc126_278; omega) (by omega)) (by rw [own_tn2 (by omega)]; exact own_getD [d0, d1, d2, d3] J2) at_133 ?_
          have z282 := (Nat.le_trans z174 K169.1)
          refine g_static X176 hx hby hZ hown (rm_blank l Z a0 hw [] ([d0, d1, d2, d3].getD J2 0) T169.heap n0 z282 ) w78_ w79_ w8_ w80_ (by decide) e176 (by rw [hml]; rfl) [(.int ([d0, d1, d2, d3].getD J2 0))] (lenOf own_pd16 rfl) rfl rfl (Nat.le_of_ble_eq_true rfl) (Nat.le_of_ble_eq_true rfl) (Nat.le_of_ble_eq_true rfl) (Nat.le_of_ble_eq_true rfl) at_134 (fun v281 T281 L281 X281 hQ281 => ?_)
          obtain ⟨rfl, N281q, eh281⟩ := hQ281
          have N281 := Fr.app N176 N281q
          by_cases hc137_283 : (own_blk ([d0, d1, d2, d3].getD J2 0)) = (0 : Int32)
          · skip
            refine g_ifY X281 hx hby 143 at_137 (teq hc137_283).1 (by decide) (by decide) ?_
            exact J177 _ _ _ X281 eh281 N281 (by rw [own_st, if_neg (fun q => by rw [hc137_283] at q; exact absurd q.2 (by decide))])
          · skip
            refine g_ifN X281 hx hby at_137 (feq hc137_283).1 ?_
            refine g_iinc X281 hx hby ((Int32.ofNat J2) + (1 : Int32)) at_140 rfl rfl (l' := #[.val (.int pa), .val (.int pb), .val (.int pc0), .val (.int pd), .val (.int pe), .val (.int (2 : Int32)), .val (.int (Int32.ofNat J)), .val (.ref b2), .val (.ref b165), .val (.int ((Int32.ofNat J2) + (1 : Int32))), .unset, .unset, .unset]) rfl ?_
            exact J177 _ _ _ X281 eh281 N281 (by rw [own_st, if_pos ⟨(own_ltI (a := J2) (b := 2) (by omega) (by omega)).mp hc126_278, own_blk1 hc137_283⟩, own_up])
        · skip
          refine g_icY X176 hx hby 143 at_126 (flt hc126_278).2.1 (by decide) (by decide) ?_
          exact J177 _ _ _ X176 e176 N176 (by rw [own_st, if_neg (fun q => hc126_278 ((own_ltI (a := J2) (b := 2) (by omega) (by omega)).mpr q.1))])
      refine g_iload X175 hx hby at_101 rfl ?_
      refine g_iload X175 hx hby at_103 rfl ?_
      by_cases hc105_284 : (Int32.ofNat J1) < (2 : Int32)
      · skip
        refine g_icN X175 hx hby at_105 (tlt hc105_284).2.1 ?_
        refine g_aload X175 hx hby at_108 rfl rfl ?_
        refine g_iload X175 hx hby at_110 rfl ?_
        have ne285 : b2 ≠ b165 := (Nat.ne_of_lt (Nat.lt_of_lt_of_le V2.lt (Nat.le_trans (Nat.le_trans (Nat.le_trans (Nat.le_trans (Keep.of_wr W5).1 (Keep.of_wr W8).1) (Keep.of_wr W11).1) (Keep.of_wr W14).1) (Nat.le_of_eq g165))))
        have f286 := ((f167.keep K166 nin0).keep K169 (ninS ne285 nin0))
        refine g_caload X175 hx hby hZ e175 f286 (.int ([d0, d1, d2, d3].getD J1 0)) (own_in2 (M := 4) (by have := (own_ltI (a := J1) (b := 2) (by omega) (by omega)).mp hc105_284; omega) (by omega)) (by rw [own_tn2 (by omega)]; exact own_getD [d0, d1, d2, d3] J1) at_112 ?_
        have z288 := (Nat.le_trans z174 K169.1)
        refine g_static X175 hx hby hZ hown (rm_blank l Z a0 hw [] ([d0, d1, d2, d3].getD J1 0) T169.heap n0 z288 ) w78_ w79_ w8_ w80_ (by decide) e175 (by rw [hml]; rfl) [(.int ([d0, d1, d2, d3].getD J1 0))] (lenOf own_pd16 rfl) rfl rfl (Nat.le_of_ble_eq_true rfl) (Nat.le_of_ble_eq_true rfl) (Nat.le_of_ble_eq_true rfl) (Nat.le_of_ble_eq_true rfl) at_113 (fun v287 T287 L287 X287 hQ287 => ?_)
        obtain ⟨rfl, N287q, eh287⟩ := hQ287
        have N287 := Fr.app N175 N287q
        by_cases hc116_289 : (own_blk ([d0, d1, d2, d3].getD J1 0)) = (0 : Int32)
        · skip
          refine g_ifY X287 hx hby 122 at_116 (teq hc116_289).1 (by decide) (by decide) ?_
          exact J176 _ _ _ X287 eh287 N287 (by rw [own_st, if_neg (fun q => by rw [hc116_289] at q; exact absurd q.2 (by decide))])
        · skip
          refine g_ifN X287 hx hby at_116 (feq hc116_289).1 ?_
          refine g_iinc X287 hx hby ((Int32.ofNat J1) + (1 : Int32)) at_119 rfl rfl (l' := #[.val (.int pa), .val (.int pb), .val (.int pc0), .val (.int pd), .val (.int pe), .val (.int (2 : Int32)), .val (.int (Int32.ofNat J)), .val (.ref b2), .val (.ref b165), .val (.int ((Int32.ofNat J1) + (1 : Int32))), .unset, .unset, .unset]) rfl ?_
          exact J176 _ _ _ X287 eh287 N287 (by rw [own_st, if_pos ⟨(own_ltI (a := J1) (b := 2) (by omega) (by omega)).mp hc105_284, own_blk1 hc116_289⟩, own_up])
      · skip
        refine g_icY X175 hx hby 122 at_105 (flt hc105_284).2.1 (by decide) (by decide) ?_
        exact J176 _ _ _ X175 e175 N175 (by rw [own_st, if_neg (fun q => hc105_284 ((own_ltI (a := J1) (b := 2) (by omega) (by omega)).mpr q.1))])
    refine g_iload X169 hx hby at_80 rfl ?_
    refine g_iload X169 hx hby at_82 rfl ?_
    by_cases hc84_290 : (Int32.ofNat J) < (2 : Int32)
    · skip
      refine g_icN X169 hx hby at_84 (tlt hc84_290).2.1 ?_
      refine g_aload X169 hx hby at_87 rfl rfl ?_
      refine g_iload X169 hx hby at_89 rfl ?_
      have ne291 : b2 ≠ b165 := (Nat.ne_of_lt (Nat.lt_of_lt_of_le V2.lt (Nat.le_trans (Nat.le_trans (Nat.le_trans (Nat.le_trans (Keep.of_wr W5).1 (Keep.of_wr W8).1) (Keep.of_wr W11).1) (Keep.of_wr W14).1) (Nat.le_of_eq g165))))
      have f292 := ((f167.keep K166 nin0).keep K169 (ninS ne291 nin0))
      refine g_caload X169 hx hby hZ rfl f292 (.int ([d0, d1, d2, d3].getD J 0)) (own_in2 (M := 4) (by have := (own_ltI (a := J) (b := 2) (by omega) (by omega)).mp hc84_290; omega) (by omega)) (by rw [own_tn2 (by omega)]; exact own_getD [d0, d1, d2, d3] J) at_91 ?_
      have z294 := (Nat.le_trans z174 K169.1)
      refine g_static X169 hx hby hZ hown (rm_blank l Z a0 hw [] ([d0, d1, d2, d3].getD J 0) T169.heap n0 z294 ) w78_ w79_ w8_ w80_ (by decide) rfl (by rw [hml]; rfl) [(.int ([d0, d1, d2, d3].getD J 0))] (lenOf own_pd16 rfl) rfl rfl (Nat.le_of_ble_eq_true rfl) (Nat.le_of_ble_eq_true rfl) (Nat.le_of_ble_eq_true rfl) (Nat.le_of_ble_eq_true rfl) at_92 (fun v293 T293 L293 X293 hQ293 => ?_)
      obtain ⟨rfl, N293q, eh293⟩ := hQ293
      have N293 := Fr.app N169 N293q
      by_cases hc95_295 : (own_blk ([d0, d1, d2, d3].getD J 0)) = (0 : Int32)
      · skip
        refine g_ifY X293 hx hby 101 at_95 (teq hc95_295).1 (by decide) (by decide) ?_
        exact J175 _ _ _ X293 eh293 N293 (by rw [own_st, if_neg (fun q => by rw [hc95_295] at q; exact absurd q.2 (by decide))])
      · skip
        refine g_ifN X293 hx hby at_95 (feq hc95_295).1 ?_
        refine g_iinc X293 hx hby ((Int32.ofNat J) + (1 : Int32)) at_98 rfl rfl (l' := #[.val (.int pa), .val (.int pb), .val (.int pc0), .val (.int pd), .val (.int pe), .val (.int (2 : Int32)), .val (.int (Int32.ofNat J)), .val (.ref b2), .val (.ref b165), .val (.int ((Int32.ofNat J) + (1 : Int32))), .unset, .unset, .unset]) rfl ?_
        exact J175 _ _ _ X293 eh293 N293 (by rw [own_st, if_pos ⟨(own_ltI (a := J) (b := 2) (by omega) (by omega)).mp hc84_290, own_blk1 hc95_295⟩, own_up])
    · skip
      refine g_icY X169 hx hby 101 at_84 (flt hc84_290).2.1 (by decide) (by decide) ?_
      exact J175 _ _ _ X169 rfl N169 (by rw [own_st, if_neg (fun q => hc84_290 ((own_ltI (a := J) (b := 2) (by omega) (by omega)).mpr q.1))])
  · skip
    obtain ⟨J, e_J, hJm, hJ3⟩ := own_mn (x := ((pe.toUInt32 >>> ((8 : Int32) &&& 31).toUInt32).toInt32)) (m := (3 : Int32)) (M := 3) rfl
    rw [e_J]
    clear e_J
    refine g_new X14 hx hby hZ hown w11_ w12_ w13_ e14 (by decide) (by decide) at_60 (fun T296 h296 b296 g296 X296 e296 E296 A296 D296 => ?_)
    have F_value_b296 : Fld Z h296 b296 "java/lang/String" "value" "[B" .null := D296 (Or.inr w29_) (ty := (.array .byte)) (by decide)
    have F_coder_b296 : Fld Z h296 b296 "java/lang/String" "coder" "B" (.int (0 : Int32)) := D296 (Or.inr w30_) (ty := .byte) (by decide)
    refine g_dup X296 hx hby at_63 rfl ?_
    refine g_aload X296 hx hby at_64 rfl rfl ?_
    refine g_iload X296 hx hby at_66 rfl ?_
    have f298 := (VQ.ext E296)
    have z299 := (Nat.le_trans z13 (Nat.le_trans (Keep.of_wr W14).1 E296.1))
    refine g_static X296 hx hby hZ hown (rm_pref3 l Z a0 hw [] b2 k2 d0 d1 d2 d3 h296 n0 z299 f298 hr0 hr1 hr2 hr3) w14_ w15_ w8_ w16_ (by decide) e296 (by rw [hml]; rfl) [(.ref b2), (.int (3 : Int32))] (lenOf own_pd18 rfl) rfl rfl (Nat.le_of_ble_eq_true rfl) (Nat.le_of_ble_eq_true rfl) (Nat.le_of_ble_eq_true rfl) (Nat.le_of_ble_eq_true rfl) at_68 (fun v297 T297 L297 X297 hQ297 => ?_)
    obtain ⟨N297q, K297, pf297, kp297, rfl, lp297, Vp297⟩ := hQ297
    have N297 := Fr.app N14 N297q
    have f301 := (((((((OLD.ext E2).wr W5 g_b2).wr W8 g_b2).wr W11 g_b2).wr W14 g_b2).ext E296).keep K297 all0)
    have f302 := (A296.keep K297)
    have f303 := (F_coder_b296.keep K297 nin0)
    have f304 := (F_value_b296.keep K297 nin0)
    have g_b296 : n0 ≤ b296 := Nat.le_trans (Nat.le_trans z13 (Keep.of_wr W14).1) (Nat.le_of_eq g296)
    have z305 := (Nat.le_trans z299 K297.1)
    refine g_special X297 hx hby hZ hown (rm_ini1G l Z a0 hw [] b296 pf297 kp297 [d0, d1, d2] 3 cz T297.heap n0 z305 O2 P5 f301 Uad Uhi Ulo f302 f303 f304 g_b296 rfl (by decide) (by decide) (fun i hi => by
          match i, hi with
          | 0, _ => exact hr0
          | 1, _ => exact hr1
          | 2, _ => exact hr2) Vp297) rfl rfl w17_ w18_ w13_ w19_ (by decide) rfl (by rw [hml]; rfl) [(.ref pf297)] (lenOf own_pd19 rfl) rfl rfl (Nat.le_of_ble_eq_true rfl) (Nat.le_of_ble_eq_true rfl) (Nat.le_of_ble_eq_true rfl) (Nat.le_of_ble_eq_true rfl) at_71 (fun v300 T300 L300 X300 hQ300 => ?_)
    obtain ⟨rfl, N300q, K300, t300, kb300, lo300, Es300, Vs300, D300⟩ := hQ300
    have N300 := Fr.app N297 N300q
    refine g_at 74 rfl rfl rfl ?_
    refine g_astore X300 hx hby at_74 rfl (l' := #[.val (.int pa), .val (.int pb), .val (.int pc0), .val (.int pd), .val (.int pe), .val (.int (3 : Int32)), .val (.int (Int32.ofNat J)), .val (.ref b2), .val (.ref b296), .unset, .unset, .unset, .unset]) rfl ?_
    refine g_iload X300 hx hby at_76 rfl ?_
    refine g_istore X300 hx hby at_78 (l' := #[.val (.int pa), .val (.int pb), .val (.int pc0), .val (.int pd), .val (.int pe), .val (.int (3 : Int32)), .val (.int (Int32.ofNat J)), .val (.ref b2), .val (.ref b296), .val (.int (Int32.ofNat J)), .unset, .unset, .unset]) rfl ?_
    have J306 : ∀ (T306 : State) (L306 : List Loc) (kv0 : Int32), Stand p l e room_1 (s.setVm s.vm) m #[(.int pa), (.int pb), (.int pc0), (.int pd), (.int pe)] below meth c_ T306 L306 5 23 → T306.heap = T300.heap → Fr n0 L306 → (kv0 = Int32.ofNat (own_st 3 [d0, d1, d2, d3] J)) → Go p e below (RetW s (Q_law Z pa pb pc0 pd pe fz cz h0 n0) 24 1152) (T306.setTop (mkF m 101 #[.val (.int pa), .val (.int pb), .val (.int pc0), .val (.int pd), .val (.int pe), .val (.int (3 : Int32)), .val (.int (Int32.ofNat J)), .val (.ref b2), .val (.ref b296), .val (.int kv0), .unset, .unset, .unset] [])) := by
      intro T306 L306 kv0 X306 e306 N306 h_kv0
      obtain ⟨J1, e_J1⟩ : ∃ z, z = own_st 3 [d0, d1, d2, d3] J := ⟨_, rfl⟩
      have hle1 : J1 ≤ 3 := by rw [e_J1]; exact own_st_le hJm
      rw [← e_J1] at h_kv0
      subst h_kv0
      have J307 : ∀ (T307 : State) (L307 : List Loc) (kv1 : Int32), Stand p l e room_1 (s.setVm s.vm) m #[(.int pa), (.int pb), (.int pc0), (.int pd), (.int pe)] below meth c_ T307 L307 5 23 → T307.heap = T300.heap → Fr n0 L307 → (kv1 = Int32.ofNat (own_st 3 [d0, d1, d2, d3] J1)) → Go p e below (RetW s (Q_law Z pa pb pc0 pd pe fz cz h0 n0) 24 1152) (T307.setTop (mkF m 122 #[.val (.int pa), .val (.int pb), .val (.int pc0), .val (.int pd), .val (.int pe), .val (.int (3 : Int32)), .val (.int (Int32.ofNat J)), .val (.ref b2), .val (.ref b296), .val (.int kv1), .unset, .unset, .unset] [])) := by
        intro T307 L307 kv1 X307 e307 N307 h_kv1
        obtain ⟨J2, e_J2⟩ : ∃ z, z = own_st 3 [d0, d1, d2, d3] J1 := ⟨_, rfl⟩
        have hle2 : J2 ≤ 3 := by rw [e_J2]; exact own_st_le hle1
        rw [← e_J2] at h_kv1
        subst h_kv1
        have J308 : ∀ (T308 : State) (L308 : List Loc) (kv2 : Int32), Stand p l e room_1 (s.setVm s.vm) m #[(.int pa), (.int pb), (.int pc0), (.int pd), (.int pe)] below meth c_ T308 L308 5 23 → T308.heap = T300.heap → Fr n0 L308 → (kv2 = Int32.ofNat (own_st 3 [d0, d1, d2, d3] J2)) → Go p e below (RetW s (Q_law Z pa pb pc0 pd pe fz cz h0 n0) 24 1152) (T308.setTop (mkF m 143 #[.val (.int pa), .val (.int pb), .val (.int pc0), .val (.int pd), .val (.int pe), .val (.int (3 : Int32)), .val (.int (Int32.ofNat J)), .val (.ref b2), .val (.ref b296), .val (.int kv2), .unset, .unset, .unset] [])) := by
          intro T308 L308 kv2 X308 e308 N308 h_kv2
          obtain ⟨J3, e_J3⟩ : ∃ z, z = own_st 3 [d0, d1, d2, d3] J2 := ⟨_, rfl⟩
          have hle3 : J3 ≤ 3 := by rw [e_J3]; exact own_st_le hle2
          rw [← e_J3] at h_kv2
          subst h_kv2
          have J309 : ∀ (T309 : State) (L309 : List Loc) (kv3 : Int32), Stand p l e room_1 (s.setVm s.vm) m #[(.int pa), (.int pb), (.int pc0), (.int pd), (.int pe)] below meth c_ T309 L309 5 23 → T309.heap = T300.heap → Fr n0 L309 → (kv3 = Int32.ofNat (own_st 3 [d0, d1, d2, d3] J3)) → Go p e below (RetW s (Q_law Z pa pb pc0 pd pe fz cz h0 n0) 24 1152) (T309.setTop (mkF m 164 #[.val (.int pa), .val (.int pb), .val (.int pc0), .val (.int pd), .val (.int pe), .val (.int (3 : Int32)), .val (.int (Int32.ofNat J)), .val (.ref b2), .val (.ref b296), .val (.int kv3), .unset, .unset, .unset] [])) := by
            intro T309 L309 kv3 X309 e309 N309 h_kv3
            obtain ⟨J4, e_J4⟩ : ∃ z, z = own_st 3 [d0, d1, d2, d3] J3 := ⟨_, rfl⟩
            have hle4 : J4 ≤ 3 := by rw [e_J4]; exact own_st_le hle3
            rw [← e_J4] at h_kv3
            subst h_kv3
            refine g_new X309 hx hby hZ hown w35_ w36_ w37_ e309 (by decide) (by decide) at_164 (fun T310 h310 b310 g310 X310 e310 E310 A310 D310 => ?_)
            have F_text_b310 : Fld Z h310 b310 "com/example/pathloom/pathloom/web/MediaType$Reader" "text" "Ljava/lang/String;" .null := D310 (Or.inr w43_) (ty := (.object "java/lang/String")) (by decide)
            have F_position_b310 : Fld Z h310 b310 "com/example/pathloom/pathloom/web/MediaType$Reader" "position" "I" (.int (0 : Int32)) := D310 (Or.inl w55_) (ty := .int) (by decide)
            refine g_dup X310 hx hby at_167 rfl ?_
            refine g_aload X310 hx hby at_168 rfl rfl ?_
            have g_b310 : n0 ≤ b310 := Nat.le_trans (Nat.le_trans z305 K300.1) (Nat.le_of_eq g310)
            have z312 := (Nat.le_trans z305 (Nat.le_trans K300.1 E310.1))
            refine g_special X310 hx hby hZ hown (rm_rdini l Z a0 hw [] b310 b296 h310 n0 z312 A310 F_text_b310 F_position_b310 g_b310) rfl rfl w38_ w39_ w37_ w40_ (by decide) e310 (by rw [hml]; rfl) [(.ref b296)] (lenOf own_pd20 rfl) rfl rfl (Nat.le_of_ble_eq_true rfl) (Nat.le_of_ble_eq_true rfl) (Nat.le_of_ble_eq_true rfl) (Nat.le_of_ble_eq_true rfl) at_170 (fun v311 T311 L311 X311 hQ311 => ?_)
            obtain ⟨rfl, N311q, K311, Er311, Tr311, Pr311⟩ := hQ311
            have N311 := Fr.app N309 N311q
            refine g_astore X311 hx hby at_173 rfl (l' := #[.val (.int pa), .val (.int pb), .val (.int pc0), .val (.int pd), .val (.int pe), .val (.int (3 : Int32)), .val (.int (Int32.ofNat J)), .val (.ref b2), .val (.ref b296), .val (.int (Int32.ofNat J4)), .val (.ref b310), .unset, .unset]) rfl ?_
            refine g_iconst X311 hx hby (1 : Int32) at_175 rfl ?_
            refine g_istore X311 hx hby at_176 (l' := #[.val (.int pa), .val (.int pb), .val (.int pc0), .val (.int pd), .val (.int pe), .val (.int (3 : Int32)), .val (.int (Int32.ofNat J)), .val (.ref b2), .val (.ref b296), .val (.int (Int32.ofNat J4)), .val (.ref b310), .val (.int (1 : Int32)), .unset]) rfl ?_
            have z313 := (Nat.le_trans z312 K311.1)
            have ne314 : b310 ≠ b296 := (Ne.symm (Nat.ne_of_lt (Nat.lt_of_lt_of_le A296.lt (Nat.le_trans (Nat.le_trans K297.1 K300.1) (Nat.le_of_eq g310)))))
            have ne315 : b310 ≠ t300 := (Ne.symm (Nat.ne_of_lt (Nat.lt_of_lt_of_le D300.lt (Nat.le_of_eq g310))))
            have JT : ∀ (T9 : State) (L9 : List Loc) (h9 : Heap), Stand p l e room_1 (s.setVm s.vm) m #[(.int pa), (.int pb), (.int pc0), (.int pd), (.int pe)] below meth c_ T9 L9 6 25 → T9.heap = h9 → Fr n0 L9 → ((T311.heap).size ≤ h9.size) → (Old Z n0 h9) → (Exa Z h9 b310 "com/example/pathloom/pathloom/web/MediaType$Reader") → (Fld Z h9 b310 "com/example/pathloom/pathloom/web/MediaType$Reader" "text" "Ljava/lang/String;" (.ref b296)) → (Fld Z h9 b310 "com/example/pathloom/pathloom/web/MediaType$Reader" "position" "I" (.int (Int32.ofNat J))) → (Exa Z h9 b296 "java/lang/String") → (Fld Z h9 b296 "java/lang/String" "value" "[B" (.ref t300)) → (own_D Z h9 b296 t300 kb300 [d0, d1, d2] 3) → (Arv Z h9 b2 k2 .char (4 : Int32) [(.int d0), (.int d1), (.int d2), (.int d3)] (.int (0 : Int32))) →  Go p e below (RetW s (Q_law Z pa pb pc0 pd pe fz cz h0 n0) 24 1152) (T9.setTop (mkF m 238 #[.val (.int pa), .val (.int pb), .val (.int pc0), .val (.int pd), .val (.int pe), .val (.int (3 : Int32)), .val (.int (Int32.ofNat J)), .val (.ref b2), .val (.ref b296), .val (.int (Int32.ofNat J4)), .val (.ref b310), .val (.int (1 : Int32)), .unset] [])) := by
              intro T9 L9 h9 X9 e9 N9 hsz9 OL9 rE9 rT9 rP9 E9 VF9 D9 VC9
              have z9 : n0 ≤ h9.size := Nat.le_trans z313 hsz9
              refine g_aload X9 hx hby at_238 rfl rfl ?_
              refine g_virtual X9 hx hby hZ hown (rm_rdskip l Z a0 hw [] b310 b296 t300 kb300 [d0, d1, d2] 3 J fz cz h9 n0 z9 O2 P5 OL9 Uad Uhi Ulo E9 VF9 D9 rfl (by decide) (fun i hi => by
                    match i, hi with
                    | 0, _ => exact hr0
                    | 1, _ => exact hr1
                    | 2, _ => exact hr2) rE9 rT9 rP9 hJm rfz O4 g_b310 ne314 ne315) w44_ w45_ (notFace_of_selects (args := #[]) (mvT hZ w47_)) w47_ w46_ w37_ w48_ (by decide) e9 rE9 (by rw [hml]; rfl) [] (lenOf own_pd13 rfl) rfl rfl (Nat.le_of_ble_eq_true rfl) (Nat.le_of_ble_eq_true rfl) (Nat.le_of_ble_eq_true rfl) (Nat.le_of_ble_eq_true rfl) at_240 (fun v316 T316 L316 X316 hQ316 => ?_)
              obtain ⟨rfl, N316q, K316, Er316, Tr316, Pr316⟩ := hQ316
              have N316 := Fr.app N9 N316q
              have eK : own_sk (3 - J) [d0, d1, d2] J = J4 := by rw [own_it4 (ds := [d0, d1, d2, d3]) (fun i hi => by
                    match i, hi with
                    | 0, _ => rfl
                    | 1, _ => rfl
                    | 2, _ => rfl) hJm (by decide), ← e_J1, ← e_J2, ← e_J3, ← e_J4]
              rw [eK] at Pr316
              refine g_istore X316 hx hby at_243 (l' := #[.val (.int pa), .val (.int pb), .val (.int pc0), .val (.int pd), .val (.int pe), .val (.int (3 : Int32)), .val (.int (Int32.ofNat J)), .val (.ref b2), .val (.ref b296), .val (.int (Int32.ofNat J4)), .val (.ref b310), .val (.int (1 : Int32)), .val (.int (1 : Int32))]) rfl ?_
              refine g_iconst X316 hx hby (0 : Int32) at_245 rfl ?_
              refine g_iload X316 hx hby at_246 rfl ?_
              by_cases hc248_317 : (0 : Int32) < (Int32.ofNat J4)
              · skip
                refine g_icY X316 hx hby 271 at_248 (tlt hc248_317).1 (by decide) (by decide) ?_
                refine g_iconst X316 hx hby (1 : Int32) at_271 rfl ?_
                refine g_iload X316 hx hby at_272 rfl ?_
                by_cases hc274_318 : (1 : Int32) < (Int32.ofNat J4)
                · skip
                  refine g_icY X316 hx hby 297 at_274 (tlt hc274_318).1 (by decide) (by decide) ?_
                  refine g_iconst X316 hx hby (2 : Int32) at_297 rfl ?_
                  refine g_iload X316 hx hby at_298 rfl ?_
                  by_cases hc300_319 : (2 : Int32) < (Int32.ofNat J4)
                  · skip
                    refine g_icY X316 hx hby 323 at_300 (tlt hc300_319).1 (by decide) (by decide) ?_
                    refine g_iconst X316 hx hby (3 : Int32) at_323 rfl ?_
                    refine g_iload X316 hx hby at_324 rfl ?_
                    refine g_icN X316 hx hby at_326 (flt ((fun q => absurd ((own_ltI (a := 3) (b := J4) (by omega) (by omega)).mp q) (by omega)) : ¬ ((3 : Int32) < (Int32.ofNat J4)))).1 ?_
                    refine g_iconst X316 hx hby (3 : Int32) at_329 rfl ?_
                    refine g_iload X316 hx hby at_330 rfl ?_
                    refine g_icY X316 hx hby 349 at_332 (flt (by decide : ¬ ((3 : Int32) < (3 : Int32)))).2.1 (by decide) (by decide) ?_
                    have hK : J4 = 3 := by
                      have q0 := (own_ltI (a := 0) (b := J4) (by omega) (by omega)).mp hc248_317
                      have q1 := (own_ltI (a := 1) (b := J4) (by omega) (by omega)).mp hc274_318
                      have q2 := (own_ltI (a := 2) (b := J4) (by omega) (by omega)).mp hc300_319
                      omega
                    subst hK
                    refine g_iload X316 hx hby at_349 rfl ?_
                    refine g_aload X316 hx hby at_351 rfl rfl ?_
                    have f321 := (OL9.keep K316 (allS g_b310 all0))
                    have f322 := (E9.keep K316)
                    have f323 := (VF9.keep K316 (ninS (Ne.symm ne314) nin0))
                    have f324 := (D9.keep K316 (ninS (Ne.symm ne314) nin0) (ninS (Ne.symm ne315) nin0))
                    have f325 := (rE9.keep K316)
                    have z326 := (Nat.le_trans z9 K316.1)
                    refine g_virtual X316 hx hby hZ hown (rm_rdend l Z a0 hw [] b310 b296 t300 kb300 [d0, d1, d2] 3 (3 : Int32) cz T316.heap n0 z326 O2 P5 f321 f322 f323 f324 rfl (by decide) f325 Tr316 Pr316) w67_ w50_ (notFace_of_selects (args := #[]) (mvT hZ w52_)) w52_ w51_ w37_ w53_ (by decide) rfl f325 (by rw [hml]; rfl) [] (lenOf own_pd13 rfl) rfl rfl (Nat.le_of_ble_eq_true rfl) (Nat.le_of_ble_eq_true rfl) (Nat.le_of_ble_eq_true rfl) (Nat.le_of_ble_eq_true rfl) at_353 (fun v320 T320 L320 X320 hQ320 => ?_)
                    obtain ⟨rfl, N320q, eh320⟩ := hQ320
                    have N320 := Fr.app N316 N320q
                    refine g_topI (T := T320) (1 : Int32) (if_pos rfl) ?_
                    refine g_iand X320 hx hby at_356 ?_
                    refine g_topI (1 : Int32) (by decide) ?_
                    refine g_istore X320 hx hby at_357 (l' := #[.val (.int pa), .val (.int pb), .val (.int pc0), .val (.int pd), .val (.int pe), .val (.int (3 : Int32)), .val (.int (Int32.ofNat J)), .val (.ref b2), .val (.ref b296), .val (.int (3 : Int32)), .val (.ref b310), .val (.int (1 : Int32)), .val (.int (1 : Int32))]) rfl ?_
                    refine g_iload X320 hx hby at_359 rfl ?_
                    refine g_ifN X320 hx hby at_361 (feq (by decide : ¬ ((1 : Int32) = (0 : Int32)))).1 ?_
                    refine g_iload X320 hx hby at_364 rfl ?_
                    refine g_ifN X320 hx hby at_366 (feq (by decide : ¬ ((1 : Int32) = (0 : Int32)))).1 ?_
                    refine g_iconst X320 hx hby (1 : Int32) at_369 rfl ?_
                    refine g_goto X320 hx hby 374 at_370 (by decide) (by decide) ?_
                    refine g_nretW X320 hx hby (t := .boolean) (by simp) Bd.returns Bd.notSynchronized hS0 at_374 eh320 (Nat.le_trans (Nat.le_trans (Nat.zero_le _) hsz9) K316.1) (by decide) (by decide) ?_
                    show (Q_law Z pa pb pc0 pd pe fz cz h0 n0) (some (.int (1 : Int32))) _ _
                    exact ⟨rfl, N320⟩
                  · skip
                    refine g_icN X316 hx hby at_300 (flt hc300_319).1 ?_
                    have hK : J4 = 2 := by
                      have q0 := (own_ltI (a := 0) (b := J4) (by omega) (by omega)).mp hc248_317
                      have q1 := (own_ltI (a := 1) (b := J4) (by omega) (by omega)).mp hc274_318
                      have q2 := mt (own_ltI (a := 2) (b := J4) (by omega) (by omega)).mpr hc300_319
                      omega
                    subst hK
                    refine g_iconst X316 hx hby (2 : Int32) at_303 rfl ?_
                    refine g_iload X316 hx hby at_304 rfl ?_
                    refine g_icN X316 hx hby at_306 (tlt (by decide : (2 : Int32) < (3 : Int32))).2.1 ?_
                    refine g_iload X316 hx hby at_309 rfl ?_
                    refine g_aload X316 hx hby at_311 rfl rfl ?_
                    refine g_aload X316 hx hby at_313 rfl rfl ?_
                    refine g_iconst X316 hx hby (2 : Int32) at_315 rfl ?_
                    have ne327 : b2 ≠ b310 := (Ne.symm (Exa.neArv rE9 VC9 w36_))
                    have f328 := (VC9.keep K316 (ninS ne327 nin0))
                    refine g_caload X316 hx hby hZ rfl f328 (.int d2) ⟨by decide, by decide⟩ rfl at_316 ?_
                    have f330 := (OL9.keep K316 (allS g_b310 all0))
                    have f331 := (E9.keep K316)
                    have f332 := (VF9.keep K316 (ninS (Ne.symm ne314) nin0))
                    have f333 := (D9.keep K316 (ninS (Ne.symm ne314) nin0) (ninS (Ne.symm ne315) nin0))
                    have f334 := (rE9.keep K316)
                    have z335 := (Nat.le_trans z9 K316.1)
                    refine g_virtual X316 hx hby hZ hown (rm_rdtake l Z a0 hw [] b310 b296 t300 kb300 [d0, d1, d2] 3 2 d2 fz cz T316.heap n0 z335 O2 P5 f330 Uad Uhi Ulo f331 f332 f333 rfl (by decide) f334 Tr316 Pr316 (by decide) rfl hr2 rfz O4 g_b310 ne314 ne315) w103_ w104_ (notFace_of_selects (args := #[]) (mvT hZ w106_)) w106_ w105_ w37_ w107_ (by decide) rfl f334 (by rw [hml]; rfl) [(.int d2)] (lenOf own_pd16 rfl) rfl rfl (Nat.le_of_ble_eq_true rfl) (Nat.le_of_ble_eq_true rfl) (Nat.le_of_ble_eq_true rfl) (Nat.le_of_ble_eq_true rfl) at_317 (fun v329 T329 L329 X329 hQ329 => ?_)
                    obtain ⟨rfl, N329q, K329, Er329, Tr329, Pr329⟩ := hQ329
                    have N329 := Fr.app N316 N329q
                    refine g_iand X329 hx hby at_320 ?_
                    refine g_topI (1 : Int32) (by decide) ?_
                    refine g_istore X329 hx hby at_321 (l' := #[.val (.int pa), .val (.int pb), .val (.int pc0), .val (.int pd), .val (.int pe), .val (.int (3 : Int32)), .val (.int (Int32.ofNat J)), .val (.ref b2), .val (.ref b296), .val (.int (2 : Int32)), .val (.ref b310), .val (.int (1 : Int32)), .val (.int (1 : Int32))]) rfl ?_
                    refine g_iconst X329 hx hby (3 : Int32) at_323 rfl ?_
                    refine g_iload X329 hx hby at_324 rfl ?_
                    refine g_icN X329 hx hby at_326 (flt (by decide : ¬ ((3 : Int32) < (2 : Int32)))).1 ?_
                    refine g_iconst X329 hx hby (3 : Int32) at_329 rfl ?_
                    refine g_iload X329 hx hby at_330 rfl ?_
                    refine g_icY X329 hx hby 349 at_332 (flt (by decide : ¬ ((3 : Int32) < (3 : Int32)))).2.1 (by decide) (by decide) ?_
                    refine g_iload X329 hx hby at_349 rfl ?_
                    refine g_aload X329 hx hby at_351 rfl rfl ?_
                    have f337 := (f330.keep K329 (allS g_b310 all0))
                    have f338 := (f331.keep K329)
                    have f339 := (f332.keep K329 (ninS (Ne.symm ne314) nin0))
                    have f340 := (f333.keep K329 (ninS (Ne.symm ne314) nin0) (ninS (Ne.symm ne315) nin0))
                    have f341 := (f334.keep K329)
                    have z342 := (Nat.le_trans z335 K329.1)
                    refine g_virtual X329 hx hby hZ hown (rm_rdend l Z a0 hw [] b310 b296 t300 kb300 [d0, d1, d2] 3 (3 : Int32) cz T329.heap n0 z342 O2 P5 f337 f338 f339 f340 rfl (by decide) f341 Tr329 Pr329) w67_ w50_ (notFace_of_selects (args := #[]) (mvT hZ w52_)) w52_ w51_ w37_ w53_ (by decide) rfl f341 (by rw [hml]; rfl) [] (lenOf own_pd13 rfl) rfl rfl (Nat.le_of_ble_eq_true rfl) (Nat.le_of_ble_eq_true rfl) (Nat.le_of_ble_eq_true rfl) (Nat.le_of_ble_eq_true rfl) at_353 (fun v336 T336 L336 X336 hQ336 => ?_)
                    obtain ⟨rfl, N336q, eh336⟩ := hQ336
                    have N336 := Fr.app N329 N336q
                    refine g_topI (T := T336) (1 : Int32) (if_pos rfl) ?_
                    refine g_iand X336 hx hby at_356 ?_
                    refine g_topI (1 : Int32) (by decide) ?_
                    refine g_istore X336 hx hby at_357 (l' := #[.val (.int pa), .val (.int pb), .val (.int pc0), .val (.int pd), .val (.int pe), .val (.int (3 : Int32)), .val (.int (Int32.ofNat J)), .val (.ref b2), .val (.ref b296), .val (.int (2 : Int32)), .val (.ref b310), .val (.int (1 : Int32)), .val (.int (1 : Int32))]) rfl ?_
                    refine g_iload X336 hx hby at_359 rfl ?_
                    refine g_ifN X336 hx hby at_361 (feq (by decide : ¬ ((1 : Int32) = (0 : Int32)))).1 ?_
                    refine g_iload X336 hx hby at_364 rfl ?_
                    refine g_ifN X336 hx hby at_366 (feq (by decide : ¬ ((1 : Int32) = (0 : Int32)))).1 ?_
                    refine g_iconst X336 hx hby (1 : Int32) at_369 rfl ?_
                    refine g_goto X336 hx hby 374 at_370 (by decide) (by decide) ?_
                    refine g_nretW X336 hx hby (t := .boolean) (by simp) Bd.returns Bd.notSynchronized hS0 at_374 eh336 (Nat.le_trans (Nat.le_trans (Nat.zero_le _) hsz9) (Nat.le_trans K316.1 K329.1)) (by decide) (by decide) ?_
                    show (Q_law Z pa pb pc0 pd pe fz cz h0 n0) (some (.int (1 : Int32))) _ _
                    exact ⟨rfl, N336⟩
                · skip
                  refine g_icN X316 hx hby at_274 (flt hc274_318).1 ?_
                  have hK : J4 = 1 := by
                    have q0 := (own_ltI (a := 0) (b := J4) (by omega) (by omega)).mp hc248_317
                    have q1 := mt (own_ltI (a := 1) (b := J4) (by omega) (by omega)).mpr hc274_318
                    omega
                  subst hK
                  refine g_iconst X316 hx hby (1 : Int32) at_277 rfl ?_
                  refine g_iload X316 hx hby at_278 rfl ?_
                  refine g_icN X316 hx hby at_280 (tlt (by decide : (1 : Int32) < (3 : Int32))).2.1 ?_
                  refine g_iload X316 hx hby at_283 rfl ?_
                  refine g_aload X316 hx hby at_285 rfl rfl ?_
                  refine g_aload X316 hx hby at_287 rfl rfl ?_
                  refine g_iconst X316 hx hby (1 : Int32) at_289 rfl ?_
                  have ne343 : b2 ≠ b310 := (Ne.symm (Exa.neArv rE9 VC9 w36_))
                  have f344 := (VC9.keep K316 (ninS ne343 nin0))
                  refine g_caload X316 hx hby hZ rfl f344 (.int d1) ⟨by decide, by decide⟩ rfl at_290 ?_
                  have f346 := (OL9.keep K316 (allS g_b310 all0))
                  have f347 := (E9.keep K316)
                  have f348 := (VF9.keep K316 (ninS (Ne.symm ne314) nin0))
                  have f349 := (D9.keep K316 (ninS (Ne.symm ne314) nin0) (ninS (Ne.symm ne315) nin0))
                  have f350 := (rE9.keep K316)
                  have z351 := (Nat.le_trans z9 K316.1)
                  refine g_virtual X316 hx hby hZ hown (rm_rdtake l Z a0 hw [] b310 b296 t300 kb300 [d0, d1, d2] 3 1 d1 fz cz T316.heap n0 z351 O2 P5 f346 Uad Uhi Ulo f347 f348 f349 rfl (by decide) f350 Tr316 Pr316 (by decide) rfl hr1 rfz O4 g_b310 ne314 ne315) w103_ w104_ (notFace_of_selects (args := #[]) (mvT hZ w106_)) w106_ w105_ w37_ w107_ (by decide) rfl f350 (by rw [hml]; rfl) [(.int d1)] (lenOf own_pd16 rfl) rfl rfl (Nat.le_of_ble_eq_true rfl) (Nat.le_of_ble_eq_true rfl) (Nat.le_of_ble_eq_true rfl) (Nat.le_of_ble_eq_true rfl) at_291 (fun v345 T345 L345 X345 hQ345 => ?_)
                  obtain ⟨rfl, N345q, K345, Er345, Tr345, Pr345⟩ := hQ345
                  have N345 := Fr.app N316 N345q
                  refine g_iand X345 hx hby at_294 ?_
                  refine g_topI (1 : Int32) (by decide) ?_
                  refine g_istore X345 hx hby at_295 (l' := #[.val (.int pa), .val (.int pb), .val (.int pc0), .val (.int pd), .val (.int pe), .val (.int (3 : Int32)), .val (.int (Int32.ofNat J)), .val (.ref b2), .val (.ref b296), .val (.int (1 : Int32)), .val (.ref b310), .val (.int (1 : Int32)), .val (.int (1 : Int32))]) rfl ?_
                  refine g_iconst X345 hx hby (2 : Int32) at_297 rfl ?_
                  refine g_iload X345 hx hby at_298 rfl ?_
                  refine g_icN X345 hx hby at_300 (flt (by decide : ¬ ((2 : Int32) < (1 : Int32)))).1 ?_
                  refine g_iconst X345 hx hby (2 : Int32) at_303 rfl ?_
                  refine g_iload X345 hx hby at_304 rfl ?_
                  refine g_icN X345 hx hby at_306 (tlt (by decide : (2 : Int32) < (3 : Int32))).2.1 ?_
                  refine g_at 309 rfl rfl rfl ?_
                  refine g_iload X345 hx hby at_309 rfl ?_
                  refine g_aload X345 hx hby at_311 rfl rfl ?_
                  refine g_aload X345 hx hby at_313 rfl rfl ?_
                  refine g_iconst X345 hx hby (2 : Int32) at_315 rfl ?_
                  have f352 := (f344.keep K345 (ninS ne343 nin0))
                  refine g_caload X345 hx hby hZ rfl f352 (.int d2) ⟨by decide, by decide⟩ rfl at_316 ?_
                  have f354 := (f346.keep K345 (allS g_b310 all0))
                  have f355 := (f347.keep K345)
                  have f356 := (f348.keep K345 (ninS (Ne.symm ne314) nin0))
                  have f357 := (f349.keep K345 (ninS (Ne.symm ne314) nin0) (ninS (Ne.symm ne315) nin0))
                  have f358 := (f350.keep K345)
                  have z359 := (Nat.le_trans z351 K345.1)
                  refine g_virtual X345 hx hby hZ hown (rm_rdtake l Z a0 hw [] b310 b296 t300 kb300 [d0, d1, d2] 3 2 d2 fz cz T345.heap n0 z359 O2 P5 f354 Uad Uhi Ulo f355 f356 f357 rfl (by decide) f358 Tr345 Pr345 (by decide) rfl hr2 rfz O4 g_b310 ne314 ne315) w103_ w104_ (notFace_of_selects (args := #[]) (mvT hZ w106_)) w106_ w105_ w37_ w107_ (by decide) rfl f358 (by rw [hml]; rfl) [(.int d2)] (lenOf own_pd16 rfl) rfl rfl (Nat.le_of_ble_eq_true rfl) (Nat.le_of_ble_eq_true rfl) (Nat.le_of_ble_eq_true rfl) (Nat.le_of_ble_eq_true rfl) at_317 (fun v353 T353 L353 X353 hQ353 => ?_)
                  obtain ⟨rfl, N353q, K353, Er353, Tr353, Pr353⟩ := hQ353
                  have N353 := Fr.app N345 N353q
                  refine g_iand X353 hx hby at_320 ?_
                  refine g_topI (1 : Int32) (by decide) ?_
                  refine g_istore X353 hx hby at_321 (l' := #[.val (.int pa), .val (.int pb), .val (.int pc0), .val (.int pd), .val (.int pe), .val (.int (3 : Int32)), .val (.int (Int32.ofNat J)), .val (.ref b2), .val (.ref b296), .val (.int (1 : Int32)), .val (.ref b310), .val (.int (1 : Int32)), .val (.int (1 : Int32))]) rfl ?_
                  refine g_iconst X353 hx hby (3 : Int32) at_323 rfl ?_
                  refine g_iload X353 hx hby at_324 rfl ?_
                  refine g_icN X353 hx hby at_326 (flt (by decide : ¬ ((3 : Int32) < (1 : Int32)))).1 ?_
                  refine g_iconst X353 hx hby (3 : Int32) at_329 rfl ?_
                  refine g_iload X353 hx hby at_330 rfl ?_
                  refine g_icY X353 hx hby 349 at_332 (flt (by decide : ¬ ((3 : Int32) < (3 : Int32)))).2.1 (by decide) (by decide) ?_
                  refine g_iload X353 hx hby at_349 rfl ?_
                  refine g_aload X353 hx hby at_351 rfl rfl ?_
                  have f361 := (f354.keep K353 (allS g_b310 all0))
                  have f362 := (f355.keep K353)
                  have f363 := (f356.keep K353 (ninS (Ne.symm ne314) nin0))
                  have f364 := (f357.keep K353 (ninS (Ne.symm ne314) nin0) (ninS (Ne.symm ne315) nin0))
                  have f365 := (f358.keep K353)
                  have z366 := (Nat.le_trans z359 K353.1)
                  refine g_virtual X353 hx hby hZ hown (rm_rdend l Z a0 hw [] b310 b296 t300 kb300 [d0, d1, d2] 3 (3 : Int32) cz T353.heap n0 z366 O2 P5 f361 f362 f363 f364 rfl (by decide) f365 Tr353 Pr353) w67_ w50_ (notFace_of_selects (args := #[]) (mvT hZ w52_)) w52_ w51_ w37_ w53_ (by decide) rfl f365 (by rw [hml]; rfl) [] (lenOf own_pd13 rfl) rfl rfl (Nat.le_of_ble_eq_true rfl) (Nat.le_of_ble_eq_true rfl) (Nat.le_of_ble_eq_true rfl) (Nat.le_of_ble_eq_true rfl) at_353 (fun v360 T360 L360 X360 hQ360 => ?_)
                  obtain ⟨rfl, N360q, eh360⟩ := hQ360
                  have N360 := Fr.app N353 N360q
                  refine g_topI (T := T360) (1 : Int32) (if_pos rfl) ?_
                  refine g_iand X360 hx hby at_356 ?_
                  refine g_topI (1 : Int32) (by decide) ?_
                  refine g_istore X360 hx hby at_357 (l' := #[.val (.int pa), .val (.int pb), .val (.int pc0), .val (.int pd), .val (.int pe), .val (.int (3 : Int32)), .val (.int (Int32.ofNat J)), .val (.ref b2), .val (.ref b296), .val (.int (1 : Int32)), .val (.ref b310), .val (.int (1 : Int32)), .val (.int (1 : Int32))]) rfl ?_
                  refine g_iload X360 hx hby at_359 rfl ?_
                  refine g_ifN X360 hx hby at_361 (feq (by decide : ¬ ((1 : Int32) = (0 : Int32)))).1 ?_
                  refine g_iload X360 hx hby at_364 rfl ?_
                  refine g_ifN X360 hx hby at_366 (feq (by decide : ¬ ((1 : Int32) = (0 : Int32)))).1 ?_
                  refine g_iconst X360 hx hby (1 : Int32) at_369 rfl ?_
                  refine g_goto X360 hx hby 374 at_370 (by decide) (by decide) ?_
                  refine g_nretW X360 hx hby (t := .boolean) (by simp) Bd.returns Bd.notSynchronized hS0 at_374 eh360 (Nat.le_trans (Nat.le_trans (Nat.zero_le _) hsz9) (Nat.le_trans (Nat.le_trans K316.1 K345.1) K353.1)) (by decide) (by decide) ?_
                  show (Q_law Z pa pb pc0 pd pe fz cz h0 n0) (some (.int (1 : Int32))) _ _
                  exact ⟨rfl, N360⟩
              · skip
                refine g_icN X316 hx hby at_248 (flt hc248_317).1 ?_
                have hK : J4 = 0 := by
                  have q0 := mt (own_ltI (a := 0) (b := J4) (by omega) (by omega)).mpr hc248_317
                  omega
                subst hK
                refine g_iconst X316 hx hby (0 : Int32) at_251 rfl ?_
                refine g_iload X316 hx hby at_252 rfl ?_
                refine g_icN X316 hx hby at_254 (tlt (by decide : (0 : Int32) < (3 : Int32))).2.1 ?_
                refine g_iload X316 hx hby at_257 rfl ?_
                refine g_aload X316 hx hby at_259 rfl rfl ?_
                refine g_aload X316 hx hby at_261 rfl rfl ?_
                refine g_iconst X316 hx hby (0 : Int32) at_263 rfl ?_
                have ne367 : b2 ≠ b310 := (Ne.symm (Exa.neArv rE9 VC9 w36_))
                have f368 := (VC9.keep K316 (ninS ne367 nin0))
                refine g_caload X316 hx hby hZ rfl f368 (.int d0) ⟨by decide, by decide⟩ rfl at_264 ?_
                have f370 := (OL9.keep K316 (allS g_b310 all0))
                have f371 := (E9.keep K316)
                have f372 := (VF9.keep K316 (ninS (Ne.symm ne314) nin0))
                have f373 := (D9.keep K316 (ninS (Ne.symm ne314) nin0) (ninS (Ne.symm ne315) nin0))
                have f374 := (rE9.keep K316)
                have z375 := (Nat.le_trans z9 K316.1)
                refine g_virtual X316 hx hby hZ hown (rm_rdtake l Z a0 hw [] b310 b296 t300 kb300 [d0, d1, d2] 3 0 d0 fz cz T316.heap n0 z375 O2 P5 f370 Uad Uhi Ulo f371 f372 f373 rfl (by decide) f374 Tr316 Pr316 (by decide) rfl hr0 rfz O4 g_b310 ne314 ne315) w103_ w104_ (notFace_of_selects (args := #[]) (mvT hZ w106_)) w106_ w105_ w37_ w107_ (by decide) rfl f374 (by rw [hml]; rfl) [(.int d0)] (lenOf own_pd16 rfl) rfl rfl (Nat.le_of_ble_eq_true rfl) (Nat.le_of_ble_eq_true rfl) (Nat.le_of_ble_eq_true rfl) (Nat.le_of_ble_eq_true rfl) at_265 (fun v369 T369 L369 X369 hQ369 => ?_)
                obtain ⟨rfl, N369q, K369, Er369, Tr369, Pr369⟩ := hQ369
                have N369 := Fr.app N316 N369q
                refine g_at 268 rfl rfl rfl ?_
                refine g_iand X369 hx hby at_268 ?_
                refine g_topI (1 : Int32) (by decide) ?_
                refine g_istore X369 hx hby at_269 (l' := #[.val (.int pa), .val (.int pb), .val (.int pc0), .val (.int pd), .val (.int pe), .val (.int (3 : Int32)), .val (.int (Int32.ofNat J)), .val (.ref b2), .val (.ref b296), .val (.int (0 : Int32)), .val (.ref b310), .val (.int (1 : Int32)), .val (.int (1 : Int32))]) rfl ?_
                refine g_iconst X369 hx hby (1 : Int32) at_271 rfl ?_
                refine g_iload X369 hx hby at_272 rfl ?_
                refine g_icN X369 hx hby at_274 (flt (by decide : ¬ ((1 : Int32) < (0 : Int32)))).1 ?_
                refine g_iconst X369 hx hby (1 : Int32) at_277 rfl ?_
                refine g_iload X369 hx hby at_278 rfl ?_
                refine g_icN X369 hx hby at_280 (tlt (by decide : (1 : Int32) < (3 : Int32))).2.1 ?_
                refine g_iload X369 hx hby at_283 rfl ?_
                refine g_aload X369 hx hby at_285 rfl rfl ?_
                refine g_aload X369 hx hby at_287 rfl rfl ?_
                refine g_iconst X369 hx hby (1 : Int32) at_289 rfl ?_
                have f376 := (f368.keep K369 (ninS ne367 nin0))
                refine g_caload X369 hx hby hZ rfl f376 (.int d1) ⟨by decide, by decide⟩ rfl at_290 ?_
                have f378 := (f370.keep K369 (allS g_b310 all0))
                have f379 := (f371.keep K369)
                have f380 := (f372.keep K369 (ninS (Ne.symm ne314) nin0))
                have f381 := (f373.keep K369 (ninS (Ne.symm ne314) nin0) (ninS (Ne.symm ne315) nin0))
                have f382 := (f374.keep K369)
                have z383 := (Nat.le_trans z375 K369.1)
                refine g_virtual X369 hx hby hZ hown (rm_rdtake l Z a0 hw [] b310 b296 t300 kb300 [d0, d1, d2] 3 1 d1 fz cz T369.heap n0 z383 O2 P5 f378 Uad Uhi Ulo f379 f380 f381 rfl (by decide) f382 Tr369 Pr369 (by decide) rfl hr1 rfz O4 g_b310 ne314 ne315) w103_ w104_ (notFace_of_selects (args := #[]) (mvT hZ w106_)) w106_ w105_ w37_ w107_ (by decide) rfl f382 (by rw [hml]; rfl) [(.int d1)] (lenOf own_pd16 rfl) rfl rfl (Nat.le_of_ble_eq_true rfl) (Nat.le_of_ble_eq_true rfl) (Nat.le_of_ble_eq_true rfl) (Nat.le_of_ble_eq_true rfl) at_291 (fun v377 T377 L377 X377 hQ377 => ?_)
                obtain ⟨rfl, N377q, K377, Er377, Tr377, Pr377⟩ := hQ377
                have N377 := Fr.app N369 N377q
                refine g_iand X377 hx hby at_294 ?_
                refine g_topI (1 : Int32) (by decide) ?_
                refine g_istore X377 hx hby at_295 (l' := #[.val (.int pa), .val (.int pb), .val (.int pc0), .val (.int pd), .val (.int pe), .val (.int (3 : Int32)), .val (.int (Int32.ofNat J)), .val (.ref b2), .val (.ref b296), .val (.int (0 : Int32)), .val (.ref b310), .val (.int (1 : Int32)), .val (.int (1 : Int32))]) rfl ?_
                refine g_iconst X377 hx hby (2 : Int32) at_297 rfl ?_
                refine g_iload X377 hx hby at_298 rfl ?_
                refine g_icN X377 hx hby at_300 (flt (by decide : ¬ ((2 : Int32) < (0 : Int32)))).1 ?_
                refine g_iconst X377 hx hby (2 : Int32) at_303 rfl ?_
                refine g_iload X377 hx hby at_304 rfl ?_
                refine g_at 306 rfl rfl rfl ?_
                refine g_icN X377 hx hby at_306 (tlt (by decide : (2 : Int32) < (3 : Int32))).2.1 ?_
                refine g_iload X377 hx hby at_309 rfl ?_
                refine g_aload X377 hx hby at_311 rfl rfl ?_
                refine g_aload X377 hx hby at_313 rfl rfl ?_
                refine g_iconst X377 hx hby (2 : Int32) at_315 rfl ?_
                have f384 := (f376.keep K377 (ninS ne367 nin0))
                refine g_caload X377 hx hby hZ rfl f384 (.int d2) ⟨by decide, by decide⟩ rfl at_316 ?_
                have f386 := (f378.keep K377 (allS g_b310 all0))
                have f387 := (f379.keep K377)
                have f388 := (f380.keep K377 (ninS (Ne.symm ne314) nin0))
                have f389 := (f381.keep K377 (ninS (Ne.symm ne314) nin0) (ninS (Ne.symm ne315) nin0))
                have f390 := (f382.keep K377)
                have z391 := (Nat.le_trans z383 K377.1)
                refine g_virtual X377 hx hby hZ hown (rm_rdtake l Z a0 hw [] b310 b296 t300 kb300 [d0, d1, d2] 3 2 d2 fz cz T377.heap n0 z391 O2 P5 f386 Uad Uhi Ulo f387 f388 f389 rfl (by decide) f390 Tr377 Pr377 (by decide) rfl hr2 rfz O4 g_b310 ne314 ne315) w103_ w104_ (notFace_of_selects (args := #[]) (mvT hZ w106_)) w106_ w105_ w37_ w107_ (by decide) rfl f390 (by rw [hml]; rfl) [(.int d2)] (lenOf own_pd16 rfl) rfl rfl (Nat.le_of_ble_eq_true rfl) (Nat.le_of_ble_eq_true rfl) (Nat.le_of_ble_eq_true rfl) (Nat.le_of_ble_eq_true rfl) at_317 (fun v385 T385 L385 X385 hQ385 => ?_)
                obtain ⟨rfl, N385q, K385, Er385, Tr385, Pr385⟩ := hQ385
                have N385 := Fr.app N377 N385q
                refine g_iand X385 hx hby at_320 ?_
                refine g_topI (1 : Int32) (by decide) ?_
                refine g_istore X385 hx hby at_321 (l' := #[.val (.int pa), .val (.int pb), .val (.int pc0), .val (.int pd), .val (.int pe), .val (.int (3 : Int32)), .val (.int (Int32.ofNat J)), .val (.ref b2), .val (.ref b296), .val (.int (0 : Int32)), .val (.ref b310), .val (.int (1 : Int32)), .val (.int (1 : Int32))]) rfl ?_
                refine g_iconst X385 hx hby (3 : Int32) at_323 rfl ?_
                refine g_iload X385 hx hby at_324 rfl ?_
                refine g_icN X385 hx hby at_326 (flt (by decide : ¬ ((3 : Int32) < (0 : Int32)))).1 ?_
                refine g_iconst X385 hx hby (3 : Int32) at_329 rfl ?_
                refine g_iload X385 hx hby at_330 rfl ?_
                refine g_icY X385 hx hby 349 at_332 (flt (by decide : ¬ ((3 : Int32) < (3 : Int32)))).2.1 (by decide) (by decide) ?_
                refine g_iload X385 hx hby at_349 rfl ?_
                refine g_aload X385 hx hby at_351 rfl rfl ?_
                have f393 := (f386.keep K385 (allS g_b310 all0))
                have f394 := (f387.keep K385)
                have f395 := (f388.keep K385 (ninS (Ne.symm ne314) nin0))
                have f396 := (f389.keep K385 (ninS (Ne.symm ne314) nin0) (ninS (Ne.symm ne315) nin0))
                have f397 := (f390.keep K385)
                have z398 := (Nat.le_trans z391 K385.1)
                refine g_virtual X385 hx hby hZ hown (rm_rdend l Z a0 hw [] b310 b296 t300 kb300 [d0, d1, d2] 3 (3 : Int32) cz T385.heap n0 z398 O2 P5 f393 f394 f395 f396 rfl (by decide) f397 Tr385 Pr385) w67_ w50_ (notFace_of_selects (args := #[]) (mvT hZ w52_)) w52_ w51_ w37_ w53_ (by decide) rfl f397 (by rw [hml]; rfl) [] (lenOf own_pd13 rfl) rfl rfl (Nat.le_of_ble_eq_true rfl) (Nat.le_of_ble_eq_true rfl) (Nat.le_of_ble_eq_true rfl) (Nat.le_of_ble_eq_true rfl) at_353 (fun v392 T392 L392 X392 hQ392 => ?_)
                obtain ⟨rfl, N392q, eh392⟩ := hQ392
                have N392 := Fr.app N385 N392q
                refine g_topI (T := T392) (1 : Int32) (if_pos rfl) ?_
                refine g_iand X392 hx hby at_356 ?_
                refine g_topI (1 : Int32) (by decide) ?_
                refine g_istore X392 hx hby at_357 (l' := #[.val (.int pa), .val (.int pb), .val (.int pc0), .val (.int pd), .val (.int pe), .val (.int (3 : Int32)), .val (.int (Int32.ofNat J)), .val (.ref b2), .val (.ref b296), .val (.int (0 : Int32)), .val (.ref b310), .val (.int (1 : Int32)), .val (.int (1 : Int32))]) rfl ?_
                refine g_iload X392 hx hby at_359 rfl ?_
                refine g_ifN X392 hx hby at_361 (feq (by decide : ¬ ((1 : Int32) = (0 : Int32)))).1 ?_
                refine g_iload X392 hx hby at_364 rfl ?_
                refine g_ifN X392 hx hby at_366 (feq (by decide : ¬ ((1 : Int32) = (0 : Int32)))).1 ?_
                refine g_iconst X392 hx hby (1 : Int32) at_369 rfl ?_
                refine g_goto X392 hx hby 374 at_370 (by decide) (by decide) ?_
                refine g_nretW X392 hx hby (t := .boolean) (by simp) Bd.returns Bd.notSynchronized hS0 at_374 eh392 (Nat.le_trans (Nat.le_trans (Nat.zero_le _) hsz9) (Nat.le_trans (Nat.le_trans (Nat.le_trans K316.1 K369.1) K377.1) K385.1)) (by decide) (by decide) ?_
                show (Q_law Z pa pb pc0 pd pe fz cz h0 n0) (some (.int (1 : Int32))) _ _
                exact ⟨rfl, N392⟩
            refine g_iload X311 hx hby at_178 rfl ?_
            refine g_iconst X311 hx hby (1 : Int32) at_180 rfl ?_
            by_cases hc181_399 : (Int32.ofNat J) < (1 : Int32)
            · skip
              refine g_icY X311 hx hby 198 at_181 (tlt hc181_399).1 (by decide) (by decide) ?_
              refine g_iload X311 hx hby at_198 rfl ?_
              refine g_iconst X311 hx hby (2 : Int32) at_200 rfl ?_
              refine g_icY X311 hx hby 218 at_201 (tlt ((own_lt12 hc181_399) : (Int32.ofNat J) < (2 : Int32))).1 (by decide) (by decide) ?_
              refine g_iload X311 hx hby at_218 rfl ?_
              refine g_iconst X311 hx hby (3 : Int32) at_220 rfl ?_
              refine g_icY X311 hx hby 238 at_221 (tlt ((own_lt23 (own_lt12 hc181_399)) : (Int32.ofNat J) < (3 : Int32))).1 (by decide) (by decide) ?_
              have hJe : J = 0 := by
                have q0 := (own_ltI (a := J) (b := 1) (by omega) (by omega)).mp hc181_399
                omega
              have f400 := (((f301.keep K300 (allS g_b296 all0)).ext E310).keep K311 (allS g_b310 all0))
              have f401 := (((f302.keep K300).ext E310).keep K311)
              have f402 := ((Vs300.ext E310).keep K311 (ninS (Ne.symm ne314) nin0))
              have f403 := ((D300.ext E310).keep K311 (ninS (Ne.symm ne314) nin0) (ninS (Ne.symm ne315) nin0))
              have ne404 : b2 ≠ b296 := (Nat.ne_of_lt (Nat.lt_of_lt_of_le V2.lt (Nat.le_trans (Nat.le_trans (Nat.le_trans (Nat.le_trans (Keep.of_wr W5).1 (Keep.of_wr W8).1) (Keep.of_wr W11).1) (Keep.of_wr W14).1) (Nat.le_of_eq g296))))
              have ne405 : b2 ≠ b310 := (Nat.ne_of_lt (Nat.lt_of_lt_of_le V2.lt (Nat.le_trans (Nat.le_trans (Nat.le_trans (Nat.le_trans (Nat.le_trans (Nat.le_trans (Nat.le_trans (Keep.of_wr W5).1 (Keep.of_wr W8).1) (Keep.of_wr W11).1) (Keep.of_wr W14).1) E296.1) K297.1) K300.1) (Nat.le_of_eq g310))))
              have f406 := ((((f298.keep K297 nin0).keep K300 (ninS ne404 nin0)).ext E310).keep K311 (ninS ne405 nin0))
              exact JT _ _ _ X311 rfl N311 (Nat.le_refl _) f400 Er311 Tr311 (by rw [hJe]; exact Pr311) f401 f402 f403 f406
            · skip
              refine g_icN X311 hx hby at_181 (flt hc181_399).1 ?_
              refine g_iload X311 hx hby at_184 rfl ?_
              refine g_aload X311 hx hby at_186 rfl rfl ?_
              refine g_aload X311 hx hby at_188 rfl rfl ?_
              refine g_iconst X311 hx hby (0 : Int32) at_190 rfl ?_
              have ne407 : b2 ≠ b296 := (Nat.ne_of_lt (Nat.lt_of_lt_of_le V2.lt (Nat.le_trans (Nat.le_trans (Nat.le_trans (Nat.le_trans (Keep.of_wr W5).1 (Keep.of_wr W8).1) (Keep.of_wr W11).1) (Keep.of_wr W14).1) (Nat.le_of_eq g296))))
              have ne408 : b2 ≠ b310 := (Nat.ne_of_lt (Nat.lt_of_lt_of_le V2.lt (Nat.le_trans (Nat.le_trans (Nat.le_trans (Nat.le_trans (Nat.le_trans (Nat.le_trans (Nat.le_trans (Keep.of_wr W5).1 (Keep.of_wr W8).1) (Keep.of_wr W11).1) (Keep.of_wr W14).1) E296.1) K297.1) K300.1) (Nat.le_of_eq g310))))
              have f409 := ((((f298.keep K297 nin0).keep K300 (ninS ne407 nin0)).ext E310).keep K311 (ninS ne408 nin0))
              refine g_caload X311 hx hby hZ rfl f409 (.int d0) ⟨by decide, by decide⟩ rfl at_191 ?_
              have f411 := (((f301.keep K300 (allS g_b296 all0)).ext E310).keep K311 (allS g_b310 all0))
              have f412 := (((f302.keep K300).ext E310).keep K311)
              have f413 := ((Vs300.ext E310).keep K311 (ninS (Ne.symm ne314) nin0))
              have f414 := ((D300.ext E310).keep K311 (ninS (Ne.symm ne314) nin0) (ninS (Ne.symm ne315) nin0))
              refine g_virtual X311 hx hby hZ hown (rm_rdtake l Z a0 hw [] b310 b296 t300 kb300 [d0, d1, d2] 3 0 d0 fz cz T311.heap n0 z313 O2 P5 f411 Uad Uhi Ulo f412 f413 f414 rfl (by decide) Er311 Tr311 Pr311 (by decide) rfl hr0 rfz O4 g_b310 ne314 ne315) w103_ w104_ (notFace_of_selects (args := #[]) (mvT hZ w106_)) w106_ w105_ w37_ w107_ (by decide) rfl Er311 (by rw [hml]; rfl) [(.int d0)] (lenOf own_pd16 rfl) rfl rfl (Nat.le_of_ble_eq_true rfl) (Nat.le_of_ble_eq_true rfl) (Nat.le_of_ble_eq_true rfl) (Nat.le_of_ble_eq_true rfl) at_192 (fun v410 T410 L410 X410 hQ410 => ?_)
              obtain ⟨rfl, N410q, K410, Er410, Tr410, Pr410⟩ := hQ410
              have N410 := Fr.app N311 N410q
              refine g_at 195 rfl rfl rfl ?_
              refine g_iand X410 hx hby at_195 ?_
              refine g_topI (1 : Int32) (by decide) ?_
              refine g_istore X410 hx hby at_196 (l' := #[.val (.int pa), .val (.int pb), .val (.int pc0), .val (.int pd), .val (.int pe), .val (.int (3 : Int32)), .val (.int (Int32.ofNat J)), .val (.ref b2), .val (.ref b296), .val (.int (Int32.ofNat J4)), .val (.ref b310), .val (.int (1 : Int32)), .unset]) rfl ?_
              refine g_iload X410 hx hby at_198 rfl ?_
              refine g_iconst X410 hx hby (2 : Int32) at_200 rfl ?_
              by_cases hc201_415 : (Int32.ofNat J) < (2 : Int32)
              · skip
                refine g_icY X410 hx hby 218 at_201 (tlt hc201_415).1 (by decide) (by decide) ?_
                refine g_iload X410 hx hby at_218 rfl ?_
                refine g_iconst X410 hx hby (3 : Int32) at_220 rfl ?_
                refine g_icY X410 hx hby 238 at_221 (tlt ((own_lt23 hc201_415) : (Int32.ofNat J) < (3 : Int32))).1 (by decide) (by decide) ?_
                have hJe : J = 1 := by
                  have q0 := mt (own_ltI (a := J) (b := 1) (by omega) (by omega)).mpr hc181_399
                  have q1 := (own_ltI (a := J) (b := 2) (by omega) (by omega)).mp hc201_415
                  omega
                have f416 := (f411.keep K410 (allS g_b310 all0))
                have f417 := (Er311.keep K410)
                have f418 := (f412.keep K410)
                have f419 := (f413.keep K410 (ninS (Ne.symm ne314) nin0))
                have f420 := (f414.keep K410 (ninS (Ne.symm ne314) nin0) (ninS (Ne.symm ne315) nin0))
                have f421 := (f409.keep K410 (ninS ne408 nin0))
                exact JT _ _ _ X410 rfl N410 K410.1 f416 f417 Tr410 (by rw [hJe]; exact Pr410) f418 f419 f420 f421
              · skip
                refine g_icN X410 hx hby at_201 (flt hc201_415).1 ?_
                refine g_iload X410 hx hby at_204 rfl ?_
                refine g_aload X410 hx hby at_206 rfl rfl ?_
                refine g_aload X410 hx hby at_208 rfl rfl ?_
                refine g_iconst X410 hx hby (1 : Int32) at_210 rfl ?_
                have f422 := (f409.keep K410 (ninS ne408 nin0))
                refine g_caload X410 hx hby hZ rfl f422 (.int d1) ⟨by decide, by decide⟩ rfl at_211 ?_
                have f424 := (f411.keep K410 (allS g_b310 all0))
                have f425 := (f412.keep K410)
                have f426 := (f413.keep K410 (ninS (Ne.symm ne314) nin0))
                have f427 := (f414.keep K410 (ninS (Ne.symm ne314) nin0) (ninS (Ne.symm ne315) nin0))
                have f428 := (Er311.keep K410)
                have z429 := (Nat.le_trans z313 K410.1)
                refine g_virtual X410 hx hby hZ hown (rm_rdtake l Z a0 hw [] b310 b296 t300 kb300 [d0, d1, d2] 3 1 d1 fz cz T410.heap n0 z429 O2 P5 f424 Uad Uhi Ulo f425 f426 f427 rfl (by decide) f428 Tr410 Pr410 (by decide) rfl hr1 rfz O4 g_b310 ne314 ne315) w103_ w104_ (notFace_of_selects (args := #[]) (mvT hZ w106_)) w106_ w105_ w37_ w107_ (by decide) rfl f428 (by rw [hml]; rfl) [(.int d1)] (lenOf own_pd16 rfl) rfl rfl (Nat.le_of_ble_eq_true rfl) (Nat.le_of_ble_eq_true rfl) (Nat.le_of_ble_eq_true rfl) (Nat.le_of_ble_eq_true rfl) at_212 (fun v423 T423 L423 X423 hQ423 => ?_)
                obtain ⟨rfl, N423q, K423, Er423, Tr423, Pr423⟩ := hQ423
                have N423 := Fr.app N410 N423q
                refine g_iand X423 hx hby at_215 ?_
                refine g_topI (1 : Int32) (by decide) ?_
                refine g_istore X423 hx hby at_216 (l' := #[.val (.int pa), .val (.int pb), .val (.int pc0), .val (.int pd), .val (.int pe), .val (.int (3 : Int32)), .val (.int (Int32.ofNat J)), .val (.ref b2), .val (.ref b296), .val (.int (Int32.ofNat J4)), .val (.ref b310), .val (.int (1 : Int32)), .unset]) rfl ?_
                refine g_iload X423 hx hby at_218 rfl ?_
                refine g_iconst X423 hx hby (3 : Int32) at_220 rfl ?_
                by_cases hc221_430 : (Int32.ofNat J) < (3 : Int32)
                · skip
                  refine g_icY X423 hx hby 238 at_221 (tlt hc221_430).1 (by decide) (by decide) ?_
                  have hJe : J = 2 := by
                    have q0 := mt (own_ltI (a := J) (b := 1) (by omega) (by omega)).mpr hc181_399
                    have q1 := mt (own_ltI (a := J) (b := 2) (by omega) (by omega)).mpr hc201_415
                    have q2 := (own_ltI (a := J) (b := 3) (by omega) (by omega)).mp hc221_430
                    omega
                  have f431 := (f424.keep K423 (allS g_b310 all0))
                  have f432 := (f428.keep K423)
                  have f433 := (f425.keep K423)
                  have f434 := (f426.keep K423 (ninS (Ne.symm ne314) nin0))
                  have f435 := (f427.keep K423 (ninS (Ne.symm ne314) nin0) (ninS (Ne.symm ne315) nin0))
                  have f436 := (f422.keep K423 (ninS ne408 nin0))
                  exact JT _ _ _ X423 rfl N423 (Nat.le_trans K410.1 K423.1) f431 f432 Tr423 (by rw [hJe]; exact Pr423) f433 f434 f435 f436
                · skip
                  refine g_icN X423 hx hby at_221 (flt hc221_430).1 ?_
                  refine g_iload X423 hx hby at_224 rfl ?_
                  refine g_aload X423 hx hby at_226 rfl rfl ?_
                  refine g_aload X423 hx hby at_228 rfl rfl ?_
                  refine g_iconst X423 hx hby (2 : Int32) at_230 rfl ?_
                  have f437 := (f422.keep K423 (ninS ne408 nin0))
                  refine g_caload X423 hx hby hZ rfl f437 (.int d2) ⟨by decide, by decide⟩ rfl at_231 ?_
                  refine g_at 232 rfl rfl rfl ?_
                  have f439 := (f424.keep K423 (allS g_b310 all0))
                  have f440 := (f425.keep K423)
                  have f441 := (f426.keep K423 (ninS (Ne.symm ne314) nin0))
                  have f442 := (f427.keep K423 (ninS (Ne.symm ne314) nin0) (ninS (Ne.symm ne315) nin0))
                  have f443 := (f428.keep K423)
                  have z444 := (Nat.le_trans z429 K423.1)
                  refine g_virtual X423 hx hby hZ hown (rm_rdtake l Z a0 hw [] b310 b296 t300 kb300 [d0, d1, d2] 3 2 d2 fz cz T423.heap n0 z444 O2 P5 f439 Uad Uhi Ulo f440 f441 f442 rfl (by decide) f443 Tr423 Pr423 (by decide) rfl hr2 rfz O4 g_b310 ne314 ne315) w103_ w104_ (notFace_of_selects (args := #[]) (mvT hZ w106_)) w106_ w105_ w37_ w107_ (by decide) rfl f443 (by rw [hml]; rfl) [(.int d2)] (lenOf own_pd16 rfl) rfl rfl (Nat.le_of_ble_eq_true rfl) (Nat.le_of_ble_eq_true rfl) (Nat.le_of_ble_eq_true rfl) (Nat.le_of_ble_eq_true rfl) at_232 (fun v438 T438 L438 X438 hQ438 => ?_)
                  obtain ⟨rfl, N438q, K438, Er438, Tr438, Pr438⟩ := hQ438
                  have N438 := Fr.app N423 N438q
                  refine g_iand X438 hx hby at_235 ?_
                  refine g_topI (1 : Int32) (by decide) ?_
                  refine g_istore X438 hx hby at_236 (l' := #[.val (.int pa), .val (.int pb), .val (.int pc0), .val (.int pd), .val (.int pe), .val (.int (3 : Int32)), .val (.int (Int32.ofNat J)), .val (.ref b2), .val (.ref b296), .val (.int (Int32.ofNat J4)), .val (.ref b310), .val (.int (1 : Int32)), .unset]) rfl ?_
                  have hJe : J = 3 := by
                    have q0 := mt (own_ltI (a := J) (b := 1) (by omega) (by omega)).mpr hc181_399
                    have q1 := mt (own_ltI (a := J) (b := 2) (by omega) (by omega)).mpr hc201_415
                    have q2 := mt (own_ltI (a := J) (b := 3) (by omega) (by omega)).mpr hc221_430
                    omega
                  have f445 := (f439.keep K438 (allS g_b310 all0))
                  have f446 := (f443.keep K438)
                  have f447 := (f440.keep K438)
                  have f448 := (f441.keep K438 (ninS (Ne.symm ne314) nin0))
                  have f449 := (f442.keep K438 (ninS (Ne.symm ne314) nin0) (ninS (Ne.symm ne315) nin0))
                  have f450 := (f437.keep K438 (ninS ne408 nin0))
                  exact JT _ _ _ X438 rfl N438 (Nat.le_trans (Nat.le_trans K410.1 K423.1) K438.1) f445 f446 Tr438 (by rw [hJe]; exact Pr438) f447 f448 f449 f450
          refine g_iload X308 hx hby at_143 rfl ?_
          refine g_iload X308 hx hby at_145 rfl ?_
          by_cases hc147_451 : (Int32.ofNat J3) < (3 : Int32)
          · skip
            refine g_icN X308 hx hby at_147 (tlt hc147_451).2.1 ?_
            refine g_aload X308 hx hby at_150 rfl rfl ?_
            refine g_iload X308 hx hby at_152 rfl ?_
            have ne452 : b2 ≠ b296 := (Nat.ne_of_lt (Nat.lt_of_lt_of_le V2.lt (Nat.le_trans (Nat.le_trans (Nat.le_trans (Nat.le_trans (Keep.of_wr W5).1 (Keep.of_wr W8).1) (Keep.of_wr W11).1) (Keep.of_wr W14).1) (Nat.le_of_eq g296))))
            have f453 := ((f298.keep K297 nin0).keep K300 (ninS ne452 nin0))
            refine g_caload X308 hx hby hZ e308 f453 (.int ([d0, d1, d2, d3].getD J3 0)) (own_in2 (M := 4) (by have := (own_ltI (a := J3) (b := 3) (by omega) (by omega)).mp hc147_451; omega) (by omega)) (by rw [own_tn2 (by omega)]; exact own_getD [d0, d1, d2, d3] J3) at_154 ?_
            have z455 := (Nat.le_trans z305 K300.1)
            refine g_static X308 hx hby hZ hown (rm_blank l Z a0 hw [] ([d0, d1, d2, d3].getD J3 0) T300.heap n0 z455 ) w78_ w79_ w8_ w80_ (by decide) e308 (by rw [hml]; rfl) [(.int ([d0, d1, d2, d3].getD J3 0))] (lenOf own_pd16 rfl) rfl rfl (Nat.le_of_ble_eq_true rfl) (Nat.le_of_ble_eq_true rfl) (Nat.le_of_ble_eq_true rfl) (Nat.le_of_ble_eq_true rfl) at_155 (fun v454 T454 L454 X454 hQ454 => ?_)
            obtain ⟨rfl, N454q, eh454⟩ := hQ454
            have N454 := Fr.app N308 N454q
            by_cases hc158_456 : (own_blk ([d0, d1, d2, d3].getD J3 0)) = (0 : Int32)
            · skip
              refine g_ifY X454 hx hby 164 at_158 (teq hc158_456).1 (by decide) (by decide) ?_
              exact J309 _ _ _ X454 eh454 N454 (by rw [own_st, if_neg (fun q => by rw [hc158_456] at q; exact absurd q.2 (by decide))])
            · skip
              refine g_ifN X454 hx hby at_158 (feq hc158_456).1 ?_
              refine g_iinc X454 hx hby ((Int32.ofNat J3) + (1 : Int32)) at_161 rfl rfl (l' := #[.val (.int pa), .val (.int pb), .val (.int pc0), .val (.int pd), .val (.int pe), .val (.int (3 : Int32)), .val (.int (Int32.ofNat J)), .val (.ref b2), .val (.ref b296), .val (.int ((Int32.ofNat J3) + (1 : Int32))), .unset, .unset, .unset]) rfl ?_
              exact J309 _ _ _ X454 eh454 N454 (by rw [own_st, if_pos ⟨(own_ltI (a := J3) (b := 3) (by omega) (by omega)).mp hc147_451, own_blk1 hc158_456⟩, own_up])
          · skip
            refine g_icY X308 hx hby 164 at_147 (flt hc147_451).2.1 (by decide) (by decide) ?_
            exact J309 _ _ _ X308 e308 N308 (by rw [own_st, if_neg (fun q => hc147_451 ((own_ltI (a := J3) (b := 3) (by omega) (by omega)).mpr q.1))])
        refine g_iload X307 hx hby at_122 rfl ?_
        refine g_iload X307 hx hby at_124 rfl ?_
        by_cases hc126_457 : (Int32.ofNat J2) < (3 : Int32)
        · skip
          refine g_icN X307 hx hby at_126 (tlt hc126_457).2.1 ?_
          refine g_aload X307 hx hby at_129 rfl rfl ?_
          refine g_iload X307 hx hby at_131 rfl ?_
          have ne458 : b2 ≠ b296 := (Nat.ne_of_lt (Nat.lt_of_lt_of_le V2.lt (Nat.le_trans (Nat.le_trans (Nat.le_trans (Nat.le_trans (Keep.of_wr W5).1 (Keep.of_wr W8).1) (Keep.of_wr W11).1) (Keep.of_wr W14).1) (Nat.le_of_eq g296))))
          have f459 := ((f298.keep K297 nin0).keep K300 (ninS ne458 nin0))
          refine g_caload X307 hx hby hZ e307 f459 (.int ([d0, d1, d2, d3].getD J2 0)) (own_in2 (M := 4) (by have := (own_ltI (a := J2) (b := 3) (by omega) (by omega)).mp hc126_457; omega) (by omega)) (by rw [own_tn2 (by omega)]; exact own_getD [d0, d1, d2, d3] J2) at_133 ?_
          have z461 := (Nat.le_trans z305 K300.1)
          refine g_static X307 hx hby hZ hown (rm_blank l Z a0 hw [] ([d0, d1, d2, d3].getD J2 0) T300.heap n0 z461 ) w78_ w79_ w8_ w80_ (by decide) e307 (by rw [hml]; rfl) [(.int ([d0, d1, d2, d3].getD J2 0))] (lenOf own_pd16 rfl) rfl rfl (Nat.le_of_ble_eq_true rfl) (Nat.le_of_ble_eq_true rfl) (Nat.le_of_ble_eq_true rfl) (Nat.le_of_ble_eq_true rfl) at_134 (fun v460 T460 L460 X460 hQ460 => ?_)
          obtain ⟨rfl, N460q, eh460⟩ := hQ460
          have N460 := Fr.app N307 N460q
          by_cases hc137_462 : (own_blk ([d0, d1, d2, d3].getD J2 0)) = (0 : Int32)
          · skip
            refine g_ifY X460 hx hby 143 at_137 (teq hc137_462).1 (by decide) (by decide) ?_
            exact J308 _ _ _ X460 eh460 N460 (by rw [own_st, if_neg (fun q => by rw [hc137_462] at q; exact absurd q.2 (by decide))])
          · skip
            refine g_ifN X460 hx hby at_137 (feq hc137_462).1 ?_
            refine g_iinc X460 hx hby ((Int32.ofNat J2) + (1 : Int32)) at_140 rfl rfl (l' := #[.val (.int pa), .val (.int pb), .val (.int pc0), .val (.int pd), .val (.int pe), .val (.int (3 : Int32)), .val (.int (Int32.ofNat J)), .val (.ref b2), .val (.ref b296), .val (.int ((Int32.ofNat J2) + (1 : Int32))), .unset, .unset, .unset]) rfl ?_
            exact J308 _ _ _ X460 eh460 N460 (by rw [own_st, if_pos ⟨(own_ltI (a := J2) (b := 3) (by omega) (by omega)).mp hc126_457, own_blk1 hc137_462⟩, own_up])
        · skip
          refine g_icY X307 hx hby 143 at_126 (flt hc126_457).2.1 (by decide) (by decide) ?_
          exact J308 _ _ _ X307 e307 N307 (by rw [own_st, if_neg (fun q => hc126_457 ((own_ltI (a := J2) (b := 3) (by omega) (by omega)).mpr q.1))])
      refine g_iload X306 hx hby at_101 rfl ?_
      refine g_iload X306 hx hby at_103 rfl ?_
      by_cases hc105_463 : (Int32.ofNat J1) < (3 : Int32)
      · skip
        refine g_icN X306 hx hby at_105 (tlt hc105_463).2.1 ?_
        refine g_aload X306 hx hby at_108 rfl rfl ?_
        refine g_iload X306 hx hby at_110 rfl ?_
        have ne464 : b2 ≠ b296 := (Nat.ne_of_lt (Nat.lt_of_lt_of_le V2.lt (Nat.le_trans (Nat.le_trans (Nat.le_trans (Nat.le_trans (Keep.of_wr W5).1 (Keep.of_wr W8).1) (Keep.of_wr W11).1) (Keep.of_wr W14).1) (Nat.le_of_eq g296))))
        have f465 := ((f298.keep K297 nin0).keep K300 (ninS ne464 nin0))
        refine g_caload X306 hx hby hZ e306 f465 (.int ([d0, d1, d2, d3].getD J1 0)) (own_in2 (M := 4) (by have := (own_ltI (a := J1) (b := 3) (by omega) (by omega)).mp hc105_463; omega) (by omega)) (by rw [own_tn2 (by omega)]; exact own_getD [d0, d1, d2, d3] J1) at_112 ?_
        have z467 := (Nat.le_trans z305 K300.1)
        refine g_static X306 hx hby hZ hown (rm_blank l Z a0 hw [] ([d0, d1, d2, d3].getD J1 0) T300.heap n0 z467 ) w78_ w79_ w8_ w80_ (by decide) e306 (by rw [hml]; rfl) [(.int ([d0, d1, d2, d3].getD J1 0))] (lenOf own_pd16 rfl) rfl rfl (Nat.le_of_ble_eq_true rfl) (Nat.le_of_ble_eq_true rfl) (Nat.le_of_ble_eq_true rfl) (Nat.le_of_ble_eq_true rfl) at_113 (fun v466 T466 L466 X466 hQ466 => ?_)
        obtain ⟨rfl, N466q, eh466⟩ := hQ466
        have N466 := Fr.app N306 N466q
        by_cases hc116_468 : (own_blk ([d0, d1, d2, d3].getD J1 0)) = (0 : Int32)
        · skip
          refine g_ifY X466 hx hby 122 at_116 (teq hc116_468).1 (by decide) (by decide) ?_
          exact J307 _ _ _ X466 eh466 N466 (by rw [own_st, if_neg (fun q => by rw [hc116_468] at q; exact absurd q.2 (by decide))])
        · skip
          refine g_ifN X466 hx hby at_116 (feq hc116_468).1 ?_
          refine g_iinc X466 hx hby ((Int32.ofNat J1) + (1 : Int32)) at_119 rfl rfl (l' := #[.val (.int pa), .val (.int pb), .val (.int pc0), .val (.int pd), .val (.int pe), .val (.int (3 : Int32)), .val (.int (Int32.ofNat J)), .val (.ref b2), .val (.ref b296), .val (.int ((Int32.ofNat J1) + (1 : Int32))), .unset, .unset, .unset]) rfl ?_
          exact J307 _ _ _ X466 eh466 N466 (by rw [own_st, if_pos ⟨(own_ltI (a := J1) (b := 3) (by omega) (by omega)).mp hc105_463, own_blk1 hc116_468⟩, own_up])
      · skip
        refine g_icY X306 hx hby 122 at_105 (flt hc105_463).2.1 (by decide) (by decide) ?_
        exact J307 _ _ _ X306 e306 N306 (by rw [own_st, if_neg (fun q => hc105_463 ((own_ltI (a := J1) (b := 3) (by omega) (by omega)).mpr q.1))])
    refine g_iload X300 hx hby at_80 rfl ?_
    refine g_iload X300 hx hby at_82 rfl ?_
    by_cases hc84_469 : (Int32.ofNat J) < (3 : Int32)
    · skip
      refine g_icN X300 hx hby at_84 (tlt hc84_469).2.1 ?_
      refine g_aload X300 hx hby at_87 rfl rfl ?_
      refine g_iload X300 hx hby at_89 rfl ?_
      have ne470 : b2 ≠ b296 := (Nat.ne_of_lt (Nat.lt_of_lt_of_le V2.lt (Nat.le_trans (Nat.le_trans (Nat.le_trans (Nat.le_trans (Keep.of_wr W5).1 (Keep.of_wr W8).1) (Keep.of_wr W11).1) (Keep.of_wr W14).1) (Nat.le_of_eq g296))))
      have f471 := ((f298.keep K297 nin0).keep K300 (ninS ne470 nin0))
      refine g_caload X300 hx hby hZ rfl f471 (.int ([d0, d1, d2, d3].getD J 0)) (own_in2 (M := 4) (by have := (own_ltI (a := J) (b := 3) (by omega) (by omega)).mp hc84_469; omega) (by omega)) (by rw [own_tn2 (by omega)]; exact own_getD [d0, d1, d2, d3] J) at_91 ?_
      have z473 := (Nat.le_trans z305 K300.1)
      refine g_static X300 hx hby hZ hown (rm_blank l Z a0 hw [] ([d0, d1, d2, d3].getD J 0) T300.heap n0 z473 ) w78_ w79_ w8_ w80_ (by decide) rfl (by rw [hml]; rfl) [(.int ([d0, d1, d2, d3].getD J 0))] (lenOf own_pd16 rfl) rfl rfl (Nat.le_of_ble_eq_true rfl) (Nat.le_of_ble_eq_true rfl) (Nat.le_of_ble_eq_true rfl) (Nat.le_of_ble_eq_true rfl) at_92 (fun v472 T472 L472 X472 hQ472 => ?_)
      obtain ⟨rfl, N472q, eh472⟩ := hQ472
      have N472 := Fr.app N300 N472q
      by_cases hc95_474 : (own_blk ([d0, d1, d2, d3].getD J 0)) = (0 : Int32)
      · skip
        refine g_ifY X472 hx hby 101 at_95 (teq hc95_474).1 (by decide) (by decide) ?_
        exact J306 _ _ _ X472 eh472 N472 (by rw [own_st, if_neg (fun q => by rw [hc95_474] at q; exact absurd q.2 (by decide))])
      · skip
        refine g_ifN X472 hx hby at_95 (feq hc95_474).1 ?_
        refine g_iinc X472 hx hby ((Int32.ofNat J) + (1 : Int32)) at_98 rfl rfl (l' := #[.val (.int pa), .val (.int pb), .val (.int pc0), .val (.int pd), .val (.int pe), .val (.int (3 : Int32)), .val (.int (Int32.ofNat J)), .val (.ref b2), .val (.ref b296), .val (.int ((Int32.ofNat J) + (1 : Int32))), .unset, .unset, .unset]) rfl ?_
        exact J306 _ _ _ X472 eh472 N472 (by rw [own_st, if_pos ⟨(own_ltI (a := J) (b := 3) (by omega) (by omega)).mp hc84_469, own_blk1 hc95_474⟩, own_up])
    · skip
      refine g_icY X300 hx hby 101 at_84 (flt hc84_469).2.1 (by decide) (by decide) ?_
      exact J306 _ _ _ X300 rfl N300 (by rw [own_st, if_neg (fun q => hc84_469 ((own_ltI (a := J) (b := 3) (by omega) (by omega)).mpr q.1))])
  · skip
    obtain ⟨J, e_J, hJm, hJ3⟩ := own_mn (x := ((pe.toUInt32 >>> ((8 : Int32) &&& 31).toUInt32).toInt32)) (m := (4 : Int32)) (M := 4) rfl
    rw [e_J]
    clear e_J
    refine g_new X14 hx hby hZ hown w11_ w12_ w13_ e14 (by decide) (by decide) at_60 (fun T475 h475 b475 g475 X475 e475 E475 A475 D475 => ?_)
    have F_value_b475 : Fld Z h475 b475 "java/lang/String" "value" "[B" .null := D475 (Or.inr w29_) (ty := (.array .byte)) (by decide)
    have F_coder_b475 : Fld Z h475 b475 "java/lang/String" "coder" "B" (.int (0 : Int32)) := D475 (Or.inr w30_) (ty := .byte) (by decide)
    refine g_dup X475 hx hby at_63 rfl ?_
    refine g_aload X475 hx hby at_64 rfl rfl ?_
    refine g_iload X475 hx hby at_66 rfl ?_
    have f477 := (VQ.ext E475)
    have z478 := (Nat.le_trans z13 (Nat.le_trans (Keep.of_wr W14).1 E475.1))
    refine g_static X475 hx hby hZ hown (rm_pref4 l Z a0 hw [] b2 k2 d0 d1 d2 d3 h475 n0 z478 f477 hr0 hr1 hr2 hr3) w14_ w15_ w8_ w16_ (by decide) e475 (by rw [hml]; rfl) [(.ref b2), (.int (4 : Int32))] (lenOf own_pd18 rfl) rfl rfl (Nat.le_of_ble_eq_true rfl) (Nat.le_of_ble_eq_true rfl) (Nat.le_of_ble_eq_true rfl) (Nat.le_of_ble_eq_true rfl) at_68 (fun v476 T476 L476 X476 hQ476 => ?_)
    obtain ⟨N476q, K476, pf476, kp476, rfl, lp476, Vp476⟩ := hQ476
    have N476 := Fr.app N14 N476q
    have f480 := (((((((OLD.ext E2).wr W5 g_b2).wr W8 g_b2).wr W11 g_b2).wr W14 g_b2).ext E475).keep K476 all0)
    have f481 := (A475.keep K476)
    have f482 := (F_coder_b475.keep K476 nin0)
    have f483 := (F_value_b475.keep K476 nin0)
    have g_b475 : n0 ≤ b475 := Nat.le_trans (Nat.le_trans z13 (Keep.of_wr W14).1) (Nat.le_of_eq g475)
    have z484 := (Nat.le_trans z478 K476.1)
    refine g_special X476 hx hby hZ hown (rm_ini1G l Z a0 hw [] b475 pf476 kp476 [d0, d1, d2, d3] 4 cz T476.heap n0 z484 O2 P5 f480 Uad Uhi Ulo f481 f482 f483 g_b475 rfl (by decide) (by decide) (fun i hi => by
          match i, hi with
          | 0, _ => exact hr0
          | 1, _ => exact hr1
          | 2, _ => exact hr2
          | 3, _ => exact hr3) Vp476) rfl rfl w17_ w18_ w13_ w19_ (by decide) rfl (by rw [hml]; rfl) [(.ref pf476)] (lenOf own_pd19 rfl) rfl rfl (Nat.le_of_ble_eq_true rfl) (Nat.le_of_ble_eq_true rfl) (Nat.le_of_ble_eq_true rfl) (Nat.le_of_ble_eq_true rfl) at_71 (fun v479 T479 L479 X479 hQ479 => ?_)
    obtain ⟨rfl, N479q, K479, t479, kb479, lo479, Es479, Vs479, D479⟩ := hQ479
    have N479 := Fr.app N476 N479q
    refine g_at 74 rfl rfl rfl ?_
    refine g_astore X479 hx hby at_74 rfl (l' := #[.val (.int pa), .val (.int pb), .val (.int pc0), .val (.int pd), .val (.int pe), .val (.int (4 : Int32)), .val (.int (Int32.ofNat J)), .val (.ref b2), .val (.ref b475), .unset, .unset, .unset, .unset]) rfl ?_
    refine g_iload X479 hx hby at_76 rfl ?_
    refine g_istore X479 hx hby at_78 (l' := #[.val (.int pa), .val (.int pb), .val (.int pc0), .val (.int pd), .val (.int pe), .val (.int (4 : Int32)), .val (.int (Int32.ofNat J)), .val (.ref b2), .val (.ref b475), .val (.int (Int32.ofNat J)), .unset, .unset, .unset]) rfl ?_
    have J485 : ∀ (T485 : State) (L485 : List Loc) (kv0 : Int32), Stand p l e room_1 (s.setVm s.vm) m #[(.int pa), (.int pb), (.int pc0), (.int pd), (.int pe)] below meth c_ T485 L485 5 24 → T485.heap = T479.heap → Fr n0 L485 → (kv0 = Int32.ofNat (own_st 4 [d0, d1, d2, d3] J)) → Go p e below (RetW s (Q_law Z pa pb pc0 pd pe fz cz h0 n0) 24 1152) (T485.setTop (mkF m 101 #[.val (.int pa), .val (.int pb), .val (.int pc0), .val (.int pd), .val (.int pe), .val (.int (4 : Int32)), .val (.int (Int32.ofNat J)), .val (.ref b2), .val (.ref b475), .val (.int kv0), .unset, .unset, .unset] [])) := by
      intro T485 L485 kv0 X485 e485 N485 h_kv0
      obtain ⟨J1, e_J1⟩ : ∃ z, z = own_st 4 [d0, d1, d2, d3] J := ⟨_, rfl⟩
      have hle1 : J1 ≤ 4 := by rw [e_J1]; exact own_st_le hJm
      rw [← e_J1] at h_kv0
      subst h_kv0
      have J486 : ∀ (T486 : State) (L486 : List Loc) (kv1 : Int32), Stand p l e room_1 (s.setVm s.vm) m #[(.int pa), (.int pb), (.int pc0), (.int pd), (.int pe)] below meth c_ T486 L486 5 24 → T486.heap = T479.heap → Fr n0 L486 → (kv1 = Int32.ofNat (own_st 4 [d0, d1, d2, d3] J1)) → Go p e below (RetW s (Q_law Z pa pb pc0 pd pe fz cz h0 n0) 24 1152) (T486.setTop (mkF m 122 #[.val (.int pa), .val (.int pb), .val (.int pc0), .val (.int pd), .val (.int pe), .val (.int (4 : Int32)), .val (.int (Int32.ofNat J)), .val (.ref b2), .val (.ref b475), .val (.int kv1), .unset, .unset, .unset] [])) := by
        intro T486 L486 kv1 X486 e486 N486 h_kv1
        obtain ⟨J2, e_J2⟩ : ∃ z, z = own_st 4 [d0, d1, d2, d3] J1 := ⟨_, rfl⟩
        have hle2 : J2 ≤ 4 := by rw [e_J2]; exact own_st_le hle1
        rw [← e_J2] at h_kv1
        subst h_kv1
        have J487 : ∀ (T487 : State) (L487 : List Loc) (kv2 : Int32), Stand p l e room_1 (s.setVm s.vm) m #[(.int pa), (.int pb), (.int pc0), (.int pd), (.int pe)] below meth c_ T487 L487 5 24 → T487.heap = T479.heap → Fr n0 L487 → (kv2 = Int32.ofNat (own_st 4 [d0, d1, d2, d3] J2)) → Go p e below (RetW s (Q_law Z pa pb pc0 pd pe fz cz h0 n0) 24 1152) (T487.setTop (mkF m 143 #[.val (.int pa), .val (.int pb), .val (.int pc0), .val (.int pd), .val (.int pe), .val (.int (4 : Int32)), .val (.int (Int32.ofNat J)), .val (.ref b2), .val (.ref b475), .val (.int kv2), .unset, .unset, .unset] [])) := by
          intro T487 L487 kv2 X487 e487 N487 h_kv2
          obtain ⟨J3, e_J3⟩ : ∃ z, z = own_st 4 [d0, d1, d2, d3] J2 := ⟨_, rfl⟩
          have hle3 : J3 ≤ 4 := by rw [e_J3]; exact own_st_le hle2
          rw [← e_J3] at h_kv2
          subst h_kv2
          have J488 : ∀ (T488 : State) (L488 : List Loc) (kv3 : Int32), Stand p l e room_1 (s.setVm s.vm) m #[(.int pa), (.int pb), (.int pc0), (.int pd), (.int pe)] below meth c_ T488 L488 5 24 → T488.heap = T479.heap → Fr n0 L488 → (kv3 = Int32.ofNat (own_st 4 [d0, d1, d2, d3] J3)) → Go p e below (RetW s (Q_law Z pa pb pc0 pd pe fz cz h0 n0) 24 1152) (T488.setTop (mkF m 164 #[.val (.int pa), .val (.int pb), .val (.int pc0), .val (.int pd), .val (.int pe), .val (.int (4 : Int32)), .val (.int (Int32.ofNat J)), .val (.ref b2), .val (.ref b475), .val (.int kv3), .unset, .unset, .unset] [])) := by
            intro T488 L488 kv3 X488 e488 N488 h_kv3
            obtain ⟨J4, e_J4⟩ : ∃ z, z = own_st 4 [d0, d1, d2, d3] J3 := ⟨_, rfl⟩
            have hle4 : J4 ≤ 4 := by rw [e_J4]; exact own_st_le hle3
            rw [← e_J4] at h_kv3
            subst h_kv3
            refine g_new X488 hx hby hZ hown w35_ w36_ w37_ e488 (by decide) (by decide) at_164 (fun T489 h489 b489 g489 X489 e489 E489 A489 D489 => ?_)
            have F_text_b489 : Fld Z h489 b489 "com/example/pathloom/pathloom/web/MediaType$Reader" "text" "Ljava/lang/String;" .null := D489 (Or.inr w43_) (ty := (.object "java/lang/String")) (by decide)
            have F_position_b489 : Fld Z h489 b489 "com/example/pathloom/pathloom/web/MediaType$Reader" "position" "I" (.int (0 : Int32)) := D489 (Or.inl w55_) (ty := .int) (by decide)
            refine g_dup X489 hx hby at_167 rfl ?_
            refine g_aload X489 hx hby at_168 rfl rfl ?_
            have g_b489 : n0 ≤ b489 := Nat.le_trans (Nat.le_trans z484 K479.1) (Nat.le_of_eq g489)
            have z491 := (Nat.le_trans z484 (Nat.le_trans K479.1 E489.1))
            refine g_special X489 hx hby hZ hown (rm_rdini l Z a0 hw [] b489 b475 h489 n0 z491 A489 F_text_b489 F_position_b489 g_b489) rfl rfl w38_ w39_ w37_ w40_ (by decide) e489 (by rw [hml]; rfl) [(.ref b475)] (lenOf own_pd20 rfl) rfl rfl (Nat.le_of_ble_eq_true rfl) (Nat.le_of_ble_eq_true rfl) (Nat.le_of_ble_eq_true rfl) (Nat.le_of_ble_eq_true rfl) at_170 (fun v490 T490 L490 X490 hQ490 => ?_)
            obtain ⟨rfl, N490q, K490, Er490, Tr490, Pr490⟩ := hQ490
            have N490 := Fr.app N488 N490q
            refine g_astore X490 hx hby at_173 rfl (l' := #[.val (.int pa), .val (.int pb), .val (.int pc0), .val (.int pd), .val (.int pe), .val (.int (4 : Int32)), .val (.int (Int32.ofNat J)), .val (.ref b2), .val (.ref b475), .val (.int (Int32.ofNat J4)), .val (.ref b489), .unset, .unset]) rfl ?_
            refine g_iconst X490 hx hby (1 : Int32) at_175 rfl ?_
            refine g_istore X490 hx hby at_176 (l' := #[.val (.int pa), .val (.int pb), .val (.int pc0), .val (.int pd), .val (.int pe), .val (.int (4 : Int32)), .val (.int (Int32.ofNat J)), .val (.ref b2), .val (.ref b475), .val (.int (Int32.ofNat J4)), .val (.ref b489), .val (.int (1 : Int32)), .unset]) rfl ?_
            have z492 := (Nat.le_trans z491 K490.1)
            have ne493 : b489 ≠ b475 := (Ne.symm (Nat.ne_of_lt (Nat.lt_of_lt_of_le A475.lt (Nat.le_trans (Nat.le_trans K476.1 K479.1) (Nat.le_of_eq g489)))))
            have ne494 : b489 ≠ t479 := (Ne.symm (Nat.ne_of_lt (Nat.lt_of_lt_of_le D479.lt (Nat.le_of_eq g489))))
            have JT : ∀ (T9 : State) (L9 : List Loc) (h9 : Heap), Stand p l e room_1 (s.setVm s.vm) m #[(.int pa), (.int pb), (.int pc0), (.int pd), (.int pe)] below meth c_ T9 L9 6 26 → T9.heap = h9 → Fr n0 L9 → ((T490.heap).size ≤ h9.size) → (Old Z n0 h9) → (Exa Z h9 b489 "com/example/pathloom/pathloom/web/MediaType$Reader") → (Fld Z h9 b489 "com/example/pathloom/pathloom/web/MediaType$Reader" "text" "Ljava/lang/String;" (.ref b475)) → (Fld Z h9 b489 "com/example/pathloom/pathloom/web/MediaType$Reader" "position" "I" (.int (Int32.ofNat J))) → (Exa Z h9 b475 "java/lang/String") → (Fld Z h9 b475 "java/lang/String" "value" "[B" (.ref t479)) → (own_D Z h9 b475 t479 kb479 [d0, d1, d2, d3] 4) → (Arv Z h9 b2 k2 .char (4 : Int32) [(.int d0), (.int d1), (.int d2), (.int d3)] (.int (0 : Int32))) →  Go p e below (RetW s (Q_law Z pa pb pc0 pd pe fz cz h0 n0) 24 1152) (T9.setTop (mkF m 238 #[.val (.int pa), .val (.int pb), .val (.int pc0), .val (.int pd), .val (.int pe), .val (.int (4 : Int32)), .val (.int (Int32.ofNat J)), .val (.ref b2), .val (.ref b475), .val (.int (Int32.ofNat J4)), .val (.ref b489), .val (.int (1 : Int32)), .unset] [])) := by
              intro T9 L9 h9 X9 e9 N9 hsz9 OL9 rE9 rT9 rP9 E9 VF9 D9 VC9
              have z9 : n0 ≤ h9.size := Nat.le_trans z492 hsz9
              refine g_aload X9 hx hby at_238 rfl rfl ?_
              refine g_virtual X9 hx hby hZ hown (rm_rdskip l Z a0 hw [] b489 b475 t479 kb479 [d0, d1, d2, d3] 4 J fz cz h9 n0 z9 O2 P5 OL9 Uad Uhi Ulo E9 VF9 D9 rfl (by decide) (fun i hi => by
                    match i, hi with
                    | 0, _ => exact hr0
                    | 1, _ => exact hr1
                    | 2, _ => exact hr2
                    | 3, _ => exact hr3) rE9 rT9 rP9 hJm rfz O4 g_b489 ne493 ne494) w44_ w45_ (notFace_of_selects (args := #[]) (mvT hZ w47_)) w47_ w46_ w37_ w48_ (by decide) e9 rE9 (by rw [hml]; rfl) [] (lenOf own_pd13 rfl) rfl rfl (Nat.le_of_ble_eq_true rfl) (Nat.le_of_ble_eq_true rfl) (Nat.le_of_ble_eq_true rfl) (Nat.le_of_ble_eq_true rfl) at_240 (fun v495 T495 L495 X495 hQ495 => ?_)
              obtain ⟨rfl, N495q, K495, Er495, Tr495, Pr495⟩ := hQ495
              have N495 := Fr.app N9 N495q
              have eK : own_sk (4 - J) [d0, d1, d2, d3] J = J4 := by rw [own_it4 (ds := [d0, d1, d2, d3]) (fun i hi => by
                    match i, hi with
                    | 0, _ => rfl
                    | 1, _ => rfl
                    | 2, _ => rfl
                    | 3, _ => rfl) hJm (by decide), ← e_J1, ← e_J2, ← e_J3, ← e_J4]
              rw [eK] at Pr495
              refine g_istore X495 hx hby at_243 (l' := #[.val (.int pa), .val (.int pb), .val (.int pc0), .val (.int pd), .val (.int pe), .val (.int (4 : Int32)), .val (.int (Int32.ofNat J)), .val (.ref b2), .val (.ref b475), .val (.int (Int32.ofNat J4)), .val (.ref b489), .val (.int (1 : Int32)), .val (.int (1 : Int32))]) rfl ?_
              refine g_iconst X495 hx hby (0 : Int32) at_245 rfl ?_
              refine g_iload X495 hx hby at_246 rfl ?_
              by_cases hc248_496 : (0 : Int32) < (Int32.ofNat J4)
              · skip
                refine g_icY X495 hx hby 271 at_248 (tlt hc248_496).1 (by decide) (by decide) ?_
                refine g_iconst X495 hx hby (1 : Int32) at_271 rfl ?_
                refine g_iload X495 hx hby at_272 rfl ?_
                by_cases hc274_497 : (1 : Int32) < (Int32.ofNat J4)
                · skip
                  refine g_icY X495 hx hby 297 at_274 (tlt hc274_497).1 (by decide) (by decide) ?_
                  refine g_iconst X495 hx hby (2 : Int32) at_297 rfl ?_
                  refine g_iload X495 hx hby at_298 rfl ?_
                  by_cases hc300_498 : (2 : Int32) < (Int32.ofNat J4)
                  · skip
                    refine g_icY X495 hx hby 323 at_300 (tlt hc300_498).1 (by decide) (by decide) ?_
                    refine g_iconst X495 hx hby (3 : Int32) at_323 rfl ?_
                    refine g_iload X495 hx hby at_324 rfl ?_
                    by_cases hc326_499 : (3 : Int32) < (Int32.ofNat J4)
                    · skip
                      refine g_icY X495 hx hby 349 at_326 (tlt hc326_499).1 (by decide) (by decide) ?_
                      have hK : J4 = 4 := by
                        have q0 := (own_ltI (a := 0) (b := J4) (by omega) (by omega)).mp hc248_496
                        have q1 := (own_ltI (a := 1) (b := J4) (by omega) (by omega)).mp hc274_497
                        have q2 := (own_ltI (a := 2) (b := J4) (by omega) (by omega)).mp hc300_498
                        have q3 := (own_ltI (a := 3) (b := J4) (by omega) (by omega)).mp hc326_499
                        omega
                      subst hK
                      refine g_iload X495 hx hby at_349 rfl ?_
                      refine g_aload X495 hx hby at_351 rfl rfl ?_
                      have f501 := (OL9.keep K495 (allS g_b489 all0))
                      have f502 := (E9.keep K495)
                      have f503 := (VF9.keep K495 (ninS (Ne.symm ne493) nin0))
                      have f504 := (D9.keep K495 (ninS (Ne.symm ne493) nin0) (ninS (Ne.symm ne494) nin0))
                      have f505 := (rE9.keep K495)
                      have z506 := (Nat.le_trans z9 K495.1)
                      refine g_virtual X495 hx hby hZ hown (rm_rdend l Z a0 hw [] b489 b475 t479 kb479 [d0, d1, d2, d3] 4 (4 : Int32) cz T495.heap n0 z506 O2 P5 f501 f502 f503 f504 rfl (by decide) f505 Tr495 Pr495) w67_ w50_ (notFace_of_selects (args := #[]) (mvT hZ w52_)) w52_ w51_ w37_ w53_ (by decide) rfl f505 (by rw [hml]; rfl) [] (lenOf own_pd13 rfl) rfl rfl (Nat.le_of_ble_eq_true rfl) (Nat.le_of_ble_eq_true rfl) (Nat.le_of_ble_eq_true rfl) (Nat.le_of_ble_eq_true rfl) at_353 (fun v500 T500 L500 X500 hQ500 => ?_)
                      obtain ⟨rfl, N500q, eh500⟩ := hQ500
                      have N500 := Fr.app N495 N500q
                      refine g_topI (T := T500) (1 : Int32) (if_pos rfl) ?_
                      refine g_iand X500 hx hby at_356 ?_
                      refine g_topI (1 : Int32) (by decide) ?_
                      refine g_istore X500 hx hby at_357 (l' := #[.val (.int pa), .val (.int pb), .val (.int pc0), .val (.int pd), .val (.int pe), .val (.int (4 : Int32)), .val (.int (Int32.ofNat J)), .val (.ref b2), .val (.ref b475), .val (.int (4 : Int32)), .val (.ref b489), .val (.int (1 : Int32)), .val (.int (1 : Int32))]) rfl ?_
                      refine g_iload X500 hx hby at_359 rfl ?_
                      refine g_ifN X500 hx hby at_361 (feq (by decide : ¬ ((1 : Int32) = (0 : Int32)))).1 ?_
                      refine g_iload X500 hx hby at_364 rfl ?_
                      refine g_ifN X500 hx hby at_366 (feq (by decide : ¬ ((1 : Int32) = (0 : Int32)))).1 ?_
                      refine g_iconst X500 hx hby (1 : Int32) at_369 rfl ?_
                      refine g_goto X500 hx hby 374 at_370 (by decide) (by decide) ?_
                      refine g_nretW X500 hx hby (t := .boolean) (by simp) Bd.returns Bd.notSynchronized hS0 at_374 eh500 (Nat.le_trans (Nat.le_trans (Nat.zero_le _) hsz9) K495.1) (by decide) (by decide) ?_
                      show (Q_law Z pa pb pc0 pd pe fz cz h0 n0) (some (.int (1 : Int32))) _ _
                      exact ⟨rfl, N500⟩
                    · skip
                      refine g_icN X495 hx hby at_326 (flt hc326_499).1 ?_
                      have hK : J4 = 3 := by
                        have q0 := (own_ltI (a := 0) (b := J4) (by omega) (by omega)).mp hc248_496
                        have q1 := (own_ltI (a := 1) (b := J4) (by omega) (by omega)).mp hc274_497
                        have q2 := (own_ltI (a := 2) (b := J4) (by omega) (by omega)).mp hc300_498
                        have q3 := mt (own_ltI (a := 3) (b := J4) (by omega) (by omega)).mpr hc326_499
                        omega
                      subst hK
                      refine g_iconst X495 hx hby (3 : Int32) at_329 rfl ?_
                      refine g_iload X495 hx hby at_330 rfl ?_
                      refine g_icN X495 hx hby at_332 (tlt (by decide : (3 : Int32) < (4 : Int32))).2.1 ?_
                      refine g_iload X495 hx hby at_335 rfl ?_
                      refine g_aload X495 hx hby at_337 rfl rfl ?_
                      refine g_aload X495 hx hby at_339 rfl rfl ?_
                      refine g_iconst X495 hx hby (3 : Int32) at_341 rfl ?_
                      have ne507 : b2 ≠ b489 := (Ne.symm (Exa.neArv rE9 VC9 w36_))
                      have f508 := (VC9.keep K495 (ninS ne507 nin0))
                      refine g_caload X495 hx hby hZ rfl f508 (.int d3) ⟨by decide, by decide⟩ rfl at_342 ?_
                      have f510 := (OL9.keep K495 (allS g_b489 all0))
                      have f511 := (E9.keep K495)
                      have f512 := (VF9.keep K495 (ninS (Ne.symm ne493) nin0))
                      have f513 := (D9.keep K495 (ninS (Ne.symm ne493) nin0) (ninS (Ne.symm ne494) nin0))
                      have f514 := (rE9.keep K495)
                      have z515 := (Nat.le_trans z9 K495.1)
                      refine g_virtual X495 hx hby hZ hown (rm_rdtake l Z a0 hw [] b489 b475 t479 kb479 [d0, d1, d2, d3] 4 3 d3 fz cz T495.heap n0 z515 O2 P5 f510 Uad Uhi Ulo f511 f512 f513 rfl (by decide) f514 Tr495 Pr495 (by decide) rfl hr3 rfz O4 g_b489 ne493 ne494) w103_ w104_ (notFace_of_selects (args := #[]) (mvT hZ w106_)) w106_ w105_ w37_ w107_ (by decide) rfl f514 (by rw [hml]; rfl) [(.int d3)] (lenOf own_pd16 rfl) rfl rfl (Nat.le_of_ble_eq_true rfl) (Nat.le_of_ble_eq_true rfl) (Nat.le_of_ble_eq_true rfl) (Nat.le_of_ble_eq_true rfl) at_343 (fun v509 T509 L509 X509 hQ509 => ?_)
                      obtain ⟨rfl, N509q, K509, Er509, Tr509, Pr509⟩ := hQ509
                      have N509 := Fr.app N495 N509q
                      refine g_iand X509 hx hby at_346 ?_
                      refine g_topI (1 : Int32) (by decide) ?_
                      refine g_istore X509 hx hby at_347 (l' := #[.val (.int pa), .val (.int pb), .val (.int pc0), .val (.int pd), .val (.int pe), .val (.int (4 : Int32)), .val (.int (Int32.ofNat J)), .val (.ref b2), .val (.ref b475), .val (.int (3 : Int32)), .val (.ref b489), .val (.int (1 : Int32)), .val (.int (1 : Int32))]) rfl ?_
                      refine g_iload X509 hx hby at_349 rfl ?_
                      refine g_aload X509 hx hby at_351 rfl rfl ?_
                      have f517 := (f510.keep K509 (allS g_b489 all0))
                      have f518 := (f511.keep K509)
                      have f519 := (f512.keep K509 (ninS (Ne.symm ne493) nin0))
                      have f520 := (f513.keep K509 (ninS (Ne.symm ne493) nin0) (ninS (Ne.symm ne494) nin0))
                      have f521 := (f514.keep K509)
                      have z522 := (Nat.le_trans z515 K509.1)
                      refine g_virtual X509 hx hby hZ hown (rm_rdend l Z a0 hw [] b489 b475 t479 kb479 [d0, d1, d2, d3] 4 (4 : Int32) cz T509.heap n0 z522 O2 P5 f517 f518 f519 f520 rfl (by decide) f521 Tr509 Pr509) w67_ w50_ (notFace_of_selects (args := #[]) (mvT hZ w52_)) w52_ w51_ w37_ w53_ (by decide) rfl f521 (by rw [hml]; rfl) [] (lenOf own_pd13 rfl) rfl rfl (Nat.le_of_ble_eq_true rfl) (Nat.le_of_ble_eq_true rfl) (Nat.le_of_ble_eq_true rfl) (Nat.le_of_ble_eq_true rfl) at_353 (fun v516 T516 L516 X516 hQ516 => ?_)
                      obtain ⟨rfl, N516q, eh516⟩ := hQ516
                      have N516 := Fr.app N509 N516q
                      refine g_topI (T := T516) (1 : Int32) (if_pos rfl) ?_
                      refine g_at 356 rfl rfl rfl ?_
                      refine g_iand X516 hx hby at_356 ?_
                      refine g_topI (1 : Int32) (by decide) ?_
                      refine g_istore X516 hx hby at_357 (l' := #[.val (.int pa), .val (.int pb), .val (.int pc0), .val (.int pd), .val (.int pe), .val (.int (4 : Int32)), .val (.int (Int32.ofNat J)), .val (.ref b2), .val (.ref b475), .val (.int (3 : Int32)), .val (.ref b489), .val (.int (1 : Int32)), .val (.int (1 : Int32))]) rfl ?_
                      refine g_iload X516 hx hby at_359 rfl ?_
                      refine g_ifN X516 hx hby at_361 (feq (by decide : ¬ ((1 : Int32) = (0 : Int32)))).1 ?_
                      refine g_iload X516 hx hby at_364 rfl ?_
                      refine g_ifN X516 hx hby at_366 (feq (by decide : ¬ ((1 : Int32) = (0 : Int32)))).1 ?_
                      refine g_iconst X516 hx hby (1 : Int32) at_369 rfl ?_
                      refine g_goto X516 hx hby 374 at_370 (by decide) (by decide) ?_
                      refine g_nretW X516 hx hby (t := .boolean) (by simp) Bd.returns Bd.notSynchronized hS0 at_374 eh516 (Nat.le_trans (Nat.le_trans (Nat.zero_le _) hsz9) (Nat.le_trans K495.1 K509.1)) (by decide) (by decide) ?_
                      show (Q_law Z pa pb pc0 pd pe fz cz h0 n0) (some (.int (1 : Int32))) _ _
                      exact ⟨rfl, N516⟩
                  · skip
                    refine g_icN X495 hx hby at_300 (flt hc300_498).1 ?_
                    have hK : J4 = 2 := by
                      have q0 := (own_ltI (a := 0) (b := J4) (by omega) (by omega)).mp hc248_496
                      have q1 := (own_ltI (a := 1) (b := J4) (by omega) (by omega)).mp hc274_497
                      have q2 := mt (own_ltI (a := 2) (b := J4) (by omega) (by omega)).mpr hc300_498
                      omega
                    subst hK
                    refine g_iconst X495 hx hby (2 : Int32) at_303 rfl ?_
                    refine g_iload X495 hx hby at_304 rfl ?_
                    refine g_icN X495 hx hby at_306 (tlt (by decide : (2 : Int32) < (4 : Int32))).2.1 ?_
                    refine g_iload X495 hx hby at_309 rfl ?_
                    refine g_aload X495 hx hby at_311 rfl rfl ?_
                    refine g_aload X495 hx hby at_313 rfl rfl ?_
                    refine g_iconst X495 hx hby (2 : Int32) at_315 rfl ?_
                    have ne523 : b2 ≠ b489 := (Ne.symm (Exa.neArv rE9 VC9 w36_))
                    have f524 := (VC9.keep K495 (ninS ne523 nin0))
                    refine g_caload X495 hx hby hZ rfl f524 (.int d2) ⟨by decide, by decide⟩ rfl at_316 ?_
                    have f526 := (OL9.keep K495 (allS g_b489 all0))
                    have f527 := (E9.keep K495)
                    have f528 := (VF9.keep K495 (ninS (Ne.symm ne493) nin0))
                    have f529 := (D9.keep K495 (ninS (Ne.symm ne493) nin0) (ninS (Ne.symm ne494) nin0))
                    have f530 := (rE9.keep K495)
                    have z531 := (Nat.le_trans z9 K495.1)
                    refine g_virtual X495 hx hby hZ hown (rm_rdtake l Z a0 hw [] b489 b475 t479 kb479 [d0, d1, d2, d3] 4 2 d2 fz cz T495.heap n0 z531 O2 P5 f526 Uad Uhi Ulo f527 f528 f529 rfl (by decide) f530 Tr495 Pr495 (by decide) rfl hr2 rfz O4 g_b489 ne493 ne494) w103_ w104_ (notFace_of_selects (args := #[]) (mvT hZ w106_)) w106_ w105_ w37_ w107_ (by decide) rfl f530 (by rw [hml]; rfl) [(.int d2)] (lenOf own_pd16 rfl) rfl rfl (Nat.le_of_ble_eq_true rfl) (Nat.le_of_ble_eq_true rfl) (Nat.le_of_ble_eq_true rfl) (Nat.le_of_ble_eq_true rfl) at_317 (fun v525 T525 L525 X525 hQ525 => ?_)
                    obtain ⟨rfl, N525q, K525, Er525, Tr525, Pr525⟩ := hQ525
                    have N525 := Fr.app N495 N525q
                    refine g_iand X525 hx hby at_320 ?_
                    refine g_topI (1 : Int32) (by decide) ?_
                    refine g_istore X525 hx hby at_321 (l' := #[.val (.int pa), .val (.int pb), .val (.int pc0), .val (.int pd), .val (.int pe), .val (.int (4 : Int32)), .val (.int (Int32.ofNat J)), .val (.ref b2), .val (.ref b475), .val (.int (2 : Int32)), .val (.ref b489), .val (.int (1 : Int32)), .val (.int (1 : Int32))]) rfl ?_
                    refine g_iconst X525 hx hby (3 : Int32) at_323 rfl ?_
                    refine g_iload X525 hx hby at_324 rfl ?_
                    refine g_icN X525 hx hby at_326 (flt (by decide : ¬ ((3 : Int32) < (2 : Int32)))).1 ?_
                    refine g_iconst X525 hx hby (3 : Int32) at_329 rfl ?_
                    refine g_iload X525 hx hby at_330 rfl ?_
                    refine g_icN X525 hx hby at_332 (tlt (by decide : (3 : Int32) < (4 : Int32))).2.1 ?_
                    refine g_at 335 rfl rfl rfl ?_
                    refine g_iload X525 hx hby at_335 rfl ?_
                    refine g_aload X525 hx hby at_337 rfl rfl ?_
                    refine g_aload X525 hx hby at_339 rfl rfl ?_
                    refine g_iconst X525 hx hby (3 : Int32) at_341 rfl ?_
                    have f532 := (f524.keep K525 (ninS ne523 nin0))
                    refine g_caload X525 hx hby hZ rfl f532 (.int d3) ⟨by decide, by decide⟩ rfl at_342 ?_
                    have f534 := (f526.keep K525 (allS g_b489 all0))
                    have f535 := (f527.keep K525)
                    have f536 := (f528.keep K525 (ninS (Ne.symm ne493) nin0))
                    have f537 := (f529.keep K525 (ninS (Ne.symm ne493) nin0) (ninS (Ne.symm ne494) nin0))
                    have f538 := (f530.keep K525)
                    have z539 := (Nat.le_trans z531 K525.1)
                    refine g_virtual X525 hx hby hZ hown (rm_rdtake l Z a0 hw [] b489 b475 t479 kb479 [d0, d1, d2, d3] 4 3 d3 fz cz T525.heap n0 z539 O2 P5 f534 Uad Uhi Ulo f535 f536 f537 rfl (by decide) f538 Tr525 Pr525 (by decide) rfl hr3 rfz O4 g_b489 ne493 ne494) w103_ w104_ (notFace_of_selects (args := #[]) (mvT hZ w106_)) w106_ w105_ w37_ w107_ (by decide) rfl f538 (by rw [hml]; rfl) [(.int d3)] (lenOf own_pd16 rfl) rfl rfl (Nat.le_of_ble_eq_true rfl) (Nat.le_of_ble_eq_true rfl) (Nat.le_of_ble_eq_true rfl) (Nat.le_of_ble_eq_true rfl) at_343 (fun v533 T533 L533 X533 hQ533 => ?_)
                    obtain ⟨rfl, N533q, K533, Er533, Tr533, Pr533⟩ := hQ533
                    have N533 := Fr.app N525 N533q
                    refine g_iand X533 hx hby at_346 ?_
                    refine g_topI (1 : Int32) (by decide) ?_
                    refine g_istore X533 hx hby at_347 (l' := #[.val (.int pa), .val (.int pb), .val (.int pc0), .val (.int pd), .val (.int pe), .val (.int (4 : Int32)), .val (.int (Int32.ofNat J)), .val (.ref b2), .val (.ref b475), .val (.int (2 : Int32)), .val (.ref b489), .val (.int (1 : Int32)), .val (.int (1 : Int32))]) rfl ?_
                    refine g_iload X533 hx hby at_349 rfl ?_
                    refine g_aload X533 hx hby at_351 rfl rfl ?_
                    have f541 := (f534.keep K533 (allS g_b489 all0))
                    have f542 := (f535.keep K533)
                    have f543 := (f536.keep K533 (ninS (Ne.symm ne493) nin0))
                    have f544 := (f537.keep K533 (ninS (Ne.symm ne493) nin0) (ninS (Ne.symm ne494) nin0))
                    have f545 := (f538.keep K533)
                    have z546 := (Nat.le_trans z539 K533.1)
                    refine g_virtual X533 hx hby hZ hown (rm_rdend l Z a0 hw [] b489 b475 t479 kb479 [d0, d1, d2, d3] 4 (4 : Int32) cz T533.heap n0 z546 O2 P5 f541 f542 f543 f544 rfl (by decide) f545 Tr533 Pr533) w67_ w50_ (notFace_of_selects (args := #[]) (mvT hZ w52_)) w52_ w51_ w37_ w53_ (by decide) rfl f545 (by rw [hml]; rfl) [] (lenOf own_pd13 rfl) rfl rfl (Nat.le_of_ble_eq_true rfl) (Nat.le_of_ble_eq_true rfl) (Nat.le_of_ble_eq_true rfl) (Nat.le_of_ble_eq_true rfl) at_353 (fun v540 T540 L540 X540 hQ540 => ?_)
                    obtain ⟨rfl, N540q, eh540⟩ := hQ540
                    have N540 := Fr.app N533 N540q
                    refine g_topI (T := T540) (1 : Int32) (if_pos rfl) ?_
                    refine g_iand X540 hx hby at_356 ?_
                    refine g_topI (1 : Int32) (by decide) ?_
                    refine g_istore X540 hx hby at_357 (l' := #[.val (.int pa), .val (.int pb), .val (.int pc0), .val (.int pd), .val (.int pe), .val (.int (4 : Int32)), .val (.int (Int32.ofNat J)), .val (.ref b2), .val (.ref b475), .val (.int (2 : Int32)), .val (.ref b489), .val (.int (1 : Int32)), .val (.int (1 : Int32))]) rfl ?_
                    refine g_iload X540 hx hby at_359 rfl ?_
                    refine g_ifN X540 hx hby at_361 (feq (by decide : ¬ ((1 : Int32) = (0 : Int32)))).1 ?_
                    refine g_iload X540 hx hby at_364 rfl ?_
                    refine g_at 366 rfl rfl rfl ?_
                    refine g_ifN X540 hx hby at_366 (feq (by decide : ¬ ((1 : Int32) = (0 : Int32)))).1 ?_
                    refine g_iconst X540 hx hby (1 : Int32) at_369 rfl ?_
                    refine g_goto X540 hx hby 374 at_370 (by decide) (by decide) ?_
                    refine g_nretW X540 hx hby (t := .boolean) (by simp) Bd.returns Bd.notSynchronized hS0 at_374 eh540 (Nat.le_trans (Nat.le_trans (Nat.zero_le _) hsz9) (Nat.le_trans (Nat.le_trans K495.1 K525.1) K533.1)) (by decide) (by decide) ?_
                    show (Q_law Z pa pb pc0 pd pe fz cz h0 n0) (some (.int (1 : Int32))) _ _
                    exact ⟨rfl, N540⟩
                · skip
                  refine g_icN X495 hx hby at_274 (flt hc274_497).1 ?_
                  have hK : J4 = 1 := by
                    have q0 := (own_ltI (a := 0) (b := J4) (by omega) (by omega)).mp hc248_496
                    have q1 := mt (own_ltI (a := 1) (b := J4) (by omega) (by omega)).mpr hc274_497
                    omega
                  subst hK
                  refine g_iconst X495 hx hby (1 : Int32) at_277 rfl ?_
                  refine g_iload X495 hx hby at_278 rfl ?_
                  refine g_icN X495 hx hby at_280 (tlt (by decide : (1 : Int32) < (4 : Int32))).2.1 ?_
                  refine g_iload X495 hx hby at_283 rfl ?_
                  refine g_aload X495 hx hby at_285 rfl rfl ?_
                  refine g_aload X495 hx hby at_287 rfl rfl ?_
                  refine g_iconst X495 hx hby (1 : Int32) at_289 rfl ?_
                  have ne547 : b2 ≠ b489 := (Ne.symm (Exa.neArv rE9 VC9 w36_))
                  have f548 := (VC9.keep K495 (ninS ne547 nin0))
                  refine g_caload X495 hx hby hZ rfl f548 (.int d1) ⟨by decide, by decide⟩ rfl at_290 ?_
                  have f550 := (OL9.keep K495 (allS g_b489 all0))
                  have f551 := (E9.keep K495)
                  have f552 := (VF9.keep K495 (ninS (Ne.symm ne493) nin0))
                  have f553 := (D9.keep K495 (ninS (Ne.symm ne493) nin0) (ninS (Ne.symm ne494) nin0))
                  have f554 := (rE9.keep K495)
                  have z555 := (Nat.le_trans z9 K495.1)
                  refine g_virtual X495 hx hby hZ hown (rm_rdtake l Z a0 hw [] b489 b475 t479 kb479 [d0, d1, d2, d3] 4 1 d1 fz cz T495.heap n0 z555 O2 P5 f550 Uad Uhi Ulo f551 f552 f553 rfl (by decide) f554 Tr495 Pr495 (by decide) rfl hr1 rfz O4 g_b489 ne493 ne494) w103_ w104_ (notFace_of_selects (args := #[]) (mvT hZ w106_)) w106_ w105_ w37_ w107_ (by decide) rfl f554 (by rw [hml]; rfl) [(.int d1)] (lenOf own_pd16 rfl) rfl rfl (Nat.le_of_ble_eq_true rfl) (Nat.le_of_ble_eq_true rfl) (Nat.le_of_ble_eq_true rfl) (Nat.le_of_ble_eq_true rfl) at_291 (fun v549 T549 L549 X549 hQ549 => ?_)
                  obtain ⟨rfl, N549q, K549, Er549, Tr549, Pr549⟩ := hQ549
                  have N549 := Fr.app N495 N549q
                  refine g_iand X549 hx hby at_294 ?_
                  refine g_topI (1 : Int32) (by decide) ?_
                  refine g_istore X549 hx hby at_295 (l' := #[.val (.int pa), .val (.int pb), .val (.int pc0), .val (.int pd), .val (.int pe), .val (.int (4 : Int32)), .val (.int (Int32.ofNat J)), .val (.ref b2), .val (.ref b475), .val (.int (1 : Int32)), .val (.ref b489), .val (.int (1 : Int32)), .val (.int (1 : Int32))]) rfl ?_
                  refine g_iconst X549 hx hby (2 : Int32) at_297 rfl ?_
                  refine g_iload X549 hx hby at_298 rfl ?_
                  refine g_icN X549 hx hby at_300 (flt (by decide : ¬ ((2 : Int32) < (1 : Int32)))).1 ?_
                  refine g_iconst X549 hx hby (2 : Int32) at_303 rfl ?_
                  refine g_iload X549 hx hby at_304 rfl ?_
                  refine g_icN X549 hx hby at_306 (tlt (by decide : (2 : Int32) < (4 : Int32))).2.1 ?_
                  refine g_at 309 rfl rfl rfl ?_
                  refine g_iload X549 hx hby at_309 rfl ?_
                  refine g_aload X549 hx hby at_311 rfl rfl ?_
                  refine g_aload X549 hx hby at_313 rfl rfl ?_
                  refine g_iconst X549 hx hby (2 : Int32) at_315 rfl ?_
                  have f556 := (f548.keep K549 (ninS ne547 nin0))
                  refine g_caload X549 hx hby hZ rfl f556 (.int d2) ⟨by decide, by decide⟩ rfl at_316 ?_
                  have f558 := (f550.keep K549 (allS g_b489 all0))
                  have f559 := (f551.keep K549)
                  have f560 := (f552.keep K549 (ninS (Ne.symm ne493) nin0))
                  have f561 := (f553.keep K549 (ninS (Ne.symm ne493) nin0) (ninS (Ne.symm ne494) nin0))
                  have f562 := (f554.keep K549)
                  have z563 := (Nat.le_trans z555 K549.1)
                  refine g_virtual X549 hx hby hZ hown (rm_rdtake l Z a0 hw [] b489 b475 t479 kb479 [d0, d1, d2, d3] 4 2 d2 fz cz T549.heap n0 z563 O2 P5 f558 Uad Uhi Ulo f559 f560 f561 rfl (by decide) f562 Tr549 Pr549 (by decide) rfl hr2 rfz O4 g_b489 ne493 ne494) w103_ w104_ (notFace_of_selects (args := #[]) (mvT hZ w106_)) w106_ w105_ w37_ w107_ (by decide) rfl f562 (by rw [hml]; rfl) [(.int d2)] (lenOf own_pd16 rfl) rfl rfl (Nat.le_of_ble_eq_true rfl) (Nat.le_of_ble_eq_true rfl) (Nat.le_of_ble_eq_true rfl) (Nat.le_of_ble_eq_true rfl) at_317 (fun v557 T557 L557 X557 hQ557 => ?_)
                  obtain ⟨rfl, N557q, K557, Er557, Tr557, Pr557⟩ := hQ557
                  have N557 := Fr.app N549 N557q
                  refine g_iand X557 hx hby at_320 ?_
                  refine g_topI (1 : Int32) (by decide) ?_
                  refine g_istore X557 hx hby at_321 (l' := #[.val (.int pa), .val (.int pb), .val (.int pc0), .val (.int pd), .val (.int pe), .val (.int (4 : Int32)), .val (.int (Int32.ofNat J)), .val (.ref b2), .val (.ref b475), .val (.int (1 : Int32)), .val (.ref b489), .val (.int (1 : Int32)), .val (.int (1 : Int32))]) rfl ?_
                  refine g_iconst X557 hx hby (3 : Int32) at_323 rfl ?_
                  refine g_iload X557 hx hby at_324 rfl ?_
                  refine g_icN X557 hx hby at_326 (flt (by decide : ¬ ((3 : Int32) < (1 : Int32)))).1 ?_
                  refine g_iconst X557 hx hby (3 : Int32) at_329 rfl ?_
                  refine g_iload X557 hx hby at_330 rfl ?_
                  refine g_icN X557 hx hby at_332 (tlt (by decide : (3 : Int32) < (4 : Int32))).2.1 ?_
                  refine g_iload X557 hx hby at_335 rfl ?_
                  refine g_aload X557 hx hby at_337 rfl rfl ?_
                  refine g_aload X557 hx hby at_339 rfl rfl ?_
                  refine g_iconst X557 hx hby (3 : Int32) at_341 rfl ?_
                  have f564 := (f556.keep K557 (ninS ne547 nin0))
                  refine g_caload X557 hx hby hZ rfl f564 (.int d3) ⟨by decide, by decide⟩ rfl at_342 ?_
                  have f566 := (f558.keep K557 (allS g_b489 all0))
                  have f567 := (f559.keep K557)
                  have f568 := (f560.keep K557 (ninS (Ne.symm ne493) nin0))
                  have f569 := (f561.keep K557 (ninS (Ne.symm ne493) nin0) (ninS (Ne.symm ne494) nin0))
                  have f570 := (f562.keep K557)
                  have z571 := (Nat.le_trans z563 K557.1)
                  refine g_virtual X557 hx hby hZ hown (rm_rdtake l Z a0 hw [] b489 b475 t479 kb479 [d0, d1, d2, d3] 4 3 d3 fz cz T557.heap n0 z571 O2 P5 f566 Uad Uhi Ulo f567 f568 f569 rfl (by decide) f570 Tr557 Pr557 (by decide) rfl hr3 rfz O4 g_b489 ne493 ne494) w103_ w104_ (notFace_of_selects (args := #[]) (mvT hZ w106_)) w106_ w105_ w37_ w107_ (by decide) rfl f570 (by rw [hml]; rfl) [(.int d3)] (lenOf own_pd16 rfl) rfl rfl (Nat.le_of_ble_eq_true rfl) (Nat.le_of_ble_eq_true rfl) (Nat.le_of_ble_eq_true rfl) (Nat.le_of_ble_eq_true rfl) at_343 (fun v565 T565 L565 X565 hQ565 => ?_)
                  obtain ⟨rfl, N565q, K565, Er565, Tr565, Pr565⟩ := hQ565
                  have N565 := Fr.app N557 N565q
                  refine g_at 346 rfl rfl rfl ?_
                  refine g_iand X565 hx hby at_346 ?_
                  refine g_topI (1 : Int32) (by decide) ?_
                  refine g_istore X565 hx hby at_347 (l' := #[.val (.int pa), .val (.int pb), .val (.int pc0), .val (.int pd), .val (.int pe), .val (.int (4 : Int32)), .val (.int (Int32.ofNat J)), .val (.ref b2), .val (.ref b475), .val (.int (1 : Int32)), .val (.ref b489), .val (.int (1 : Int32)), .val (.int (1 : Int32))]) rfl ?_
                  refine g_iload X565 hx hby at_349 rfl ?_
                  refine g_aload X565 hx hby at_351 rfl rfl ?_
                  have f573 := (f566.keep K565 (allS g_b489 all0))
                  have f574 := (f567.keep K565)
                  have f575 := (f568.keep K565 (ninS (Ne.symm ne493) nin0))
                  have f576 := (f569.keep K565 (ninS (Ne.symm ne493) nin0) (ninS (Ne.symm ne494) nin0))
                  have f577 := (f570.keep K565)
                  have z578 := (Nat.le_trans z571 K565.1)
                  refine g_virtual X565 hx hby hZ hown (rm_rdend l Z a0 hw [] b489 b475 t479 kb479 [d0, d1, d2, d3] 4 (4 : Int32) cz T565.heap n0 z578 O2 P5 f573 f574 f575 f576 rfl (by decide) f577 Tr565 Pr565) w67_ w50_ (notFace_of_selects (args := #[]) (mvT hZ w52_)) w52_ w51_ w37_ w53_ (by decide) rfl f577 (by rw [hml]; rfl) [] (lenOf own_pd13 rfl) rfl rfl (Nat.le_of_ble_eq_true rfl) (Nat.le_of_ble_eq_true rfl) (Nat.le_of_ble_eq_true rfl) (Nat.le_of_ble_eq_true rfl) at_353 (fun v572 T572 L572 X572 hQ572 => ?_)
                  obtain ⟨rfl, N572q, eh572⟩ := hQ572
                  have N572 := Fr.app N565 N572q
                  refine g_topI (T := T572) (1 : Int32) (if_pos rfl) ?_
                  refine g_iand X572 hx hby at_356 ?_
                  refine g_topI (1 : Int32) (by decide) ?_
                  refine g_istore X572 hx hby at_357 (l' := #[.val (.int pa), .val (.int pb), .val (.int pc0), .val (.int pd), .val (.int pe), .val (.int (4 : Int32)), .val (.int (Int32.ofNat J)), .val (.ref b2), .val (.ref b475), .val (.int (1 : Int32)), .val (.ref b489), .val (.int (1 : Int32)), .val (.int (1 : Int32))]) rfl ?_
                  refine g_iload X572 hx hby at_359 rfl ?_
                  refine g_ifN X572 hx hby at_361 (feq (by decide : ¬ ((1 : Int32) = (0 : Int32)))).1 ?_
                  refine g_iload X572 hx hby at_364 rfl ?_
                  refine g_ifN X572 hx hby at_366 (feq (by decide : ¬ ((1 : Int32) = (0 : Int32)))).1 ?_
                  refine g_iconst X572 hx hby (1 : Int32) at_369 rfl ?_
                  refine g_goto X572 hx hby 374 at_370 (by decide) (by decide) ?_
                  refine g_nretW X572 hx hby (t := .boolean) (by simp) Bd.returns Bd.notSynchronized hS0 at_374 eh572 (Nat.le_trans (Nat.le_trans (Nat.zero_le _) hsz9) (Nat.le_trans (Nat.le_trans (Nat.le_trans K495.1 K549.1) K557.1) K565.1)) (by decide) (by decide) ?_
                  show (Q_law Z pa pb pc0 pd pe fz cz h0 n0) (some (.int (1 : Int32))) _ _
                  exact ⟨rfl, N572⟩
              · skip
                refine g_icN X495 hx hby at_248 (flt hc248_496).1 ?_
                have hK : J4 = 0 := by
                  have q0 := mt (own_ltI (a := 0) (b := J4) (by omega) (by omega)).mpr hc248_496
                  omega
                subst hK
                refine g_iconst X495 hx hby (0 : Int32) at_251 rfl ?_
                refine g_iload X495 hx hby at_252 rfl ?_
                refine g_icN X495 hx hby at_254 (tlt (by decide : (0 : Int32) < (4 : Int32))).2.1 ?_
                refine g_iload X495 hx hby at_257 rfl ?_
                refine g_aload X495 hx hby at_259 rfl rfl ?_
                refine g_aload X495 hx hby at_261 rfl rfl ?_
                refine g_iconst X495 hx hby (0 : Int32) at_263 rfl ?_
                have ne579 : b2 ≠ b489 := (Ne.symm (Exa.neArv rE9 VC9 w36_))
                have f580 := (VC9.keep K495 (ninS ne579 nin0))
                refine g_caload X495 hx hby hZ rfl f580 (.int d0) ⟨by decide, by decide⟩ rfl at_264 ?_
                have f582 := (OL9.keep K495 (allS g_b489 all0))
                have f583 := (E9.keep K495)
                have f584 := (VF9.keep K495 (ninS (Ne.symm ne493) nin0))
                have f585 := (D9.keep K495 (ninS (Ne.symm ne493) nin0) (ninS (Ne.symm ne494) nin0))
                have f586 := (rE9.keep K495)
                have z587 := (Nat.le_trans z9 K495.1)
                refine g_virtual X495 hx hby hZ hown (rm_rdtake l Z a0 hw [] b489 b475 t479 kb479 [d0, d1, d2, d3] 4 0 d0 fz cz T495.heap n0 z587 O2 P5 f582 Uad Uhi Ulo f583 f584 f585 rfl (by decide) f586 Tr495 Pr495 (by decide) rfl hr0 rfz O4 g_b489 ne493 ne494) w103_ w104_ (notFace_of_selects (args := #[]) (mvT hZ w106_)) w106_ w105_ w37_ w107_ (by decide) rfl f586 (by rw [hml]; rfl) [(.int d0)] (lenOf own_pd16 rfl) rfl rfl (Nat.le_of_ble_eq_true rfl) (Nat.le_of_ble_eq_true rfl) (Nat.le_of_ble_eq_true rfl) (Nat.le_of_ble_eq_true rfl) at_265 (fun v581 T581 L581 X581 hQ581 => ?_)
                obtain ⟨rfl, N581q, K581, Er581, Tr581, Pr581⟩ := hQ581
                have N581 := Fr.app N495 N581q
                refine g_at 268 rfl rfl rfl ?_
                refine g_iand X581 hx hby at_268 ?_
                refine g_topI (1 : Int32) (by decide) ?_
                refine g_istore X581 hx hby at_269 (l' := #[.val (.int pa), .val (.int pb), .val (.int pc0), .val (.int pd), .val (.int pe), .val (.int (4 : Int32)), .val (.int (Int32.ofNat J)), .val (.ref b2), .val (.ref b475), .val (.int (0 : Int32)), .val (.ref b489), .val (.int (1 : Int32)), .val (.int (1 : Int32))]) rfl ?_
                refine g_iconst X581 hx hby (1 : Int32) at_271 rfl ?_
                refine g_iload X581 hx hby at_272 rfl ?_
                refine g_icN X581 hx hby at_274 (flt (by decide : ¬ ((1 : Int32) < (0 : Int32)))).1 ?_
                refine g_iconst X581 hx hby (1 : Int32) at_277 rfl ?_
                refine g_iload X581 hx hby at_278 rfl ?_
                refine g_icN X581 hx hby at_280 (tlt (by decide : (1 : Int32) < (4 : Int32))).2.1 ?_
                refine g_iload X581 hx hby at_283 rfl ?_
                refine g_aload X581 hx hby at_285 rfl rfl ?_
                refine g_aload X581 hx hby at_287 rfl rfl ?_
                refine g_iconst X581 hx hby (1 : Int32) at_289 rfl ?_
                have f588 := (f580.keep K581 (ninS ne579 nin0))
                refine g_caload X581 hx hby hZ rfl f588 (.int d1) ⟨by decide, by decide⟩ rfl at_290 ?_
                have f590 := (f582.keep K581 (allS g_b489 all0))
                have f591 := (f583.keep K581)
                have f592 := (f584.keep K581 (ninS (Ne.symm ne493) nin0))
                have f593 := (f585.keep K581 (ninS (Ne.symm ne493) nin0) (ninS (Ne.symm ne494) nin0))
                have f594 := (f586.keep K581)
                have z595 := (Nat.le_trans z587 K581.1)
                refine g_virtual X581 hx hby hZ hown (rm_rdtake l Z a0 hw [] b489 b475 t479 kb479 [d0, d1, d2, d3] 4 1 d1 fz cz T581.heap n0 z595 O2 P5 f590 Uad Uhi Ulo f591 f592 f593 rfl (by decide) f594 Tr581 Pr581 (by decide) rfl hr1 rfz O4 g_b489 ne493 ne494) w103_ w104_ (notFace_of_selects (args := #[]) (mvT hZ w106_)) w106_ w105_ w37_ w107_ (by decide) rfl f594 (by rw [hml]; rfl) [(.int d1)] (lenOf own_pd16 rfl) rfl rfl (Nat.le_of_ble_eq_true rfl) (Nat.le_of_ble_eq_true rfl) (Nat.le_of_ble_eq_true rfl) (Nat.le_of_ble_eq_true rfl) at_291 (fun v589 T589 L589 X589 hQ589 => ?_)
                obtain ⟨rfl, N589q, K589, Er589, Tr589, Pr589⟩ := hQ589
                have N589 := Fr.app N581 N589q
                refine g_iand X589 hx hby at_294 ?_
                refine g_topI (1 : Int32) (by decide) ?_
                refine g_istore X589 hx hby at_295 (l' := #[.val (.int pa), .val (.int pb), .val (.int pc0), .val (.int pd), .val (.int pe), .val (.int (4 : Int32)), .val (.int (Int32.ofNat J)), .val (.ref b2), .val (.ref b475), .val (.int (0 : Int32)), .val (.ref b489), .val (.int (1 : Int32)), .val (.int (1 : Int32))]) rfl ?_
                refine g_iconst X589 hx hby (2 : Int32) at_297 rfl ?_
                refine g_iload X589 hx hby at_298 rfl ?_
                refine g_icN X589 hx hby at_300 (flt (by decide : ¬ ((2 : Int32) < (0 : Int32)))).1 ?_
                refine g_iconst X589 hx hby (2 : Int32) at_303 rfl ?_
                refine g_iload X589 hx hby at_304 rfl ?_
                refine g_at 306 rfl rfl rfl ?_
                refine g_icN X589 hx hby at_306 (tlt (by decide : (2 : Int32) < (4 : Int32))).2.1 ?_
                refine g_iload X589 hx hby at_309 rfl ?_
                refine g_aload X589 hx hby at_311 rfl rfl ?_
                refine g_aload X589 hx hby at_313 rfl rfl ?_
                refine g_iconst X589 hx hby (2 : Int32) at_315 rfl ?_
                have f596 := (f588.keep K589 (ninS ne579 nin0))
                refine g_caload X589 hx hby hZ rfl f596 (.int d2) ⟨by decide, by decide⟩ rfl at_316 ?_
                have f598 := (f590.keep K589 (allS g_b489 all0))
                have f599 := (f591.keep K589)
                have f600 := (f592.keep K589 (ninS (Ne.symm ne493) nin0))
                have f601 := (f593.keep K589 (ninS (Ne.symm ne493) nin0) (ninS (Ne.symm ne494) nin0))
                have f602 := (f594.keep K589)
                have z603 := (Nat.le_trans z595 K589.1)
                refine g_virtual X589 hx hby hZ hown (rm_rdtake l Z a0 hw [] b489 b475 t479 kb479 [d0, d1, d2, d3] 4 2 d2 fz cz T589.heap n0 z603 O2 P5 f598 Uad Uhi Ulo f599 f600 f601 rfl (by decide) f602 Tr589 Pr589 (by decide) rfl hr2 rfz O4 g_b489 ne493 ne494) w103_ w104_ (notFace_of_selects (args := #[]) (mvT hZ w106_)) w106_ w105_ w37_ w107_ (by decide) rfl f602 (by rw [hml]; rfl) [(.int d2)] (lenOf own_pd16 rfl) rfl rfl (Nat.le_of_ble_eq_true rfl) (Nat.le_of_ble_eq_true rfl) (Nat.le_of_ble_eq_true rfl) (Nat.le_of_ble_eq_true rfl) at_317 (fun v597 T597 L597 X597 hQ597 => ?_)
                obtain ⟨rfl, N597q, K597, Er597, Tr597, Pr597⟩ := hQ597
                have N597 := Fr.app N589 N597q
                refine g_iand X597 hx hby at_320 ?_
                refine g_topI (1 : Int32) (by decide) ?_
                refine g_istore X597 hx hby at_321 (l' := #[.val (.int pa), .val (.int pb), .val (.int pc0), .val (.int pd), .val (.int pe), .val (.int (4 : Int32)), .val (.int (Int32.ofNat J)), .val (.ref b2), .val (.ref b475), .val (.int (0 : Int32)), .val (.ref b489), .val (.int (1 : Int32)), .val (.int (1 : Int32))]) rfl ?_
                refine g_iconst X597 hx hby (3 : Int32) at_323 rfl ?_
                refine g_iload X597 hx hby at_324 rfl ?_
                refine g_icN X597 hx hby at_326 (flt (by decide : ¬ ((3 : Int32) < (0 : Int32)))).1 ?_
                refine g_iconst X597 hx hby (3 : Int32) at_329 rfl ?_
                refine g_iload X597 hx hby at_330 rfl ?_
                refine g_icN X597 hx hby at_332 (tlt (by decide : (3 : Int32) < (4 : Int32))).2.1 ?_
                refine g_iload X597 hx hby at_335 rfl ?_
                refine g_aload X597 hx hby at_337 rfl rfl ?_
                refine g_aload X597 hx hby at_339 rfl rfl ?_
                refine g_iconst X597 hx hby (3 : Int32) at_341 rfl ?_
                have f604 := (f596.keep K597 (ninS ne579 nin0))
                refine g_caload X597 hx hby hZ rfl f604 (.int d3) ⟨by decide, by decide⟩ rfl at_342 ?_
                have f606 := (f598.keep K597 (allS g_b489 all0))
                have f607 := (f599.keep K597)
                have f608 := (f600.keep K597 (ninS (Ne.symm ne493) nin0))
                have f609 := (f601.keep K597 (ninS (Ne.symm ne493) nin0) (ninS (Ne.symm ne494) nin0))
                have f610 := (f602.keep K597)
                have z611 := (Nat.le_trans z603 K597.1)
                refine g_virtual X597 hx hby hZ hown (rm_rdtake l Z a0 hw [] b489 b475 t479 kb479 [d0, d1, d2, d3] 4 3 d3 fz cz T597.heap n0 z611 O2 P5 f606 Uad Uhi Ulo f607 f608 f609 rfl (by decide) f610 Tr597 Pr597 (by decide) rfl hr3 rfz O4 g_b489 ne493 ne494) w103_ w104_ (notFace_of_selects (args := #[]) (mvT hZ w106_)) w106_ w105_ w37_ w107_ (by decide) rfl f610 (by rw [hml]; rfl) [(.int d3)] (lenOf own_pd16 rfl) rfl rfl (Nat.le_of_ble_eq_true rfl) (Nat.le_of_ble_eq_true rfl) (Nat.le_of_ble_eq_true rfl) (Nat.le_of_ble_eq_true rfl) at_343 (fun v605 T605 L605 X605 hQ605 => ?_)
                obtain ⟨rfl, N605q, K605, Er605, Tr605, Pr605⟩ := hQ605
                have N605 := Fr.app N597 N605q
                refine g_at 346 rfl rfl rfl ?_
                refine g_iand X605 hx hby at_346 ?_
                refine g_topI (1 : Int32) (by decide) ?_
                refine g_istore X605 hx hby at_347 (l' := #[.val (.int pa), .val (.int pb), .val (.int pc0), .val (.int pd), .val (.int pe), .val (.int (4 : Int32)), .val (.int (Int32.ofNat J)), .val (.ref b2), .val (.ref b475), .val (.int (0 : Int32)), .val (.ref b489), .val (.int (1 : Int32)), .val (.int (1 : Int32))]) rfl ?_
                refine g_iload X605 hx hby at_349 rfl ?_
                refine g_aload X605 hx hby at_351 rfl rfl ?_
                have f613 := (f606.keep K605 (allS g_b489 all0))
                have f614 := (f607.keep K605)
                have f615 := (f608.keep K605 (ninS (Ne.symm ne493) nin0))
                have f616 := (f609.keep K605 (ninS (Ne.symm ne493) nin0) (ninS (Ne.symm ne494) nin0))
                have f617 := (f610.keep K605)
                have z618 := (Nat.le_trans z611 K605.1)
                refine g_virtual X605 hx hby hZ hown (rm_rdend l Z a0 hw [] b489 b475 t479 kb479 [d0, d1, d2, d3] 4 (4 : Int32) cz T605.heap n0 z618 O2 P5 f613 f614 f615 f616 rfl (by decide) f617 Tr605 Pr605) w67_ w50_ (notFace_of_selects (args := #[]) (mvT hZ w52_)) w52_ w51_ w37_ w53_ (by decide) rfl f617 (by rw [hml]; rfl) [] (lenOf own_pd13 rfl) rfl rfl (Nat.le_of_ble_eq_true rfl) (Nat.le_of_ble_eq_true rfl) (Nat.le_of_ble_eq_true rfl) (Nat.le_of_ble_eq_true rfl) at_353 (fun v612 T612 L612 X612 hQ612 => ?_)
                obtain ⟨rfl, N612q, eh612⟩ := hQ612
                have N612 := Fr.app N605 N612q
                refine g_topI (T := T612) (1 : Int32) (if_pos rfl) ?_
                refine g_iand X612 hx hby at_356 ?_
                refine g_topI (1 : Int32) (by decide) ?_
                refine g_istore X612 hx hby at_357 (l' := #[.val (.int pa), .val (.int pb), .val (.int pc0), .val (.int pd), .val (.int pe), .val (.int (4 : Int32)), .val (.int (Int32.ofNat J)), .val (.ref b2), .val (.ref b475), .val (.int (0 : Int32)), .val (.ref b489), .val (.int (1 : Int32)), .val (.int (1 : Int32))]) rfl ?_
                refine g_iload X612 hx hby at_359 rfl ?_
                refine g_ifN X612 hx hby at_361 (feq (by decide : ¬ ((1 : Int32) = (0 : Int32)))).1 ?_
                refine g_iload X612 hx hby at_364 rfl ?_
                refine g_ifN X612 hx hby at_366 (feq (by decide : ¬ ((1 : Int32) = (0 : Int32)))).1 ?_
                refine g_iconst X612 hx hby (1 : Int32) at_369 rfl ?_
                refine g_goto X612 hx hby 374 at_370 (by decide) (by decide) ?_
                refine g_nretW X612 hx hby (t := .boolean) (by simp) Bd.returns Bd.notSynchronized hS0 at_374 eh612 (Nat.le_trans (Nat.le_trans (Nat.zero_le _) hsz9) (Nat.le_trans (Nat.le_trans (Nat.le_trans (Nat.le_trans K495.1 K581.1) K589.1) K597.1) K605.1)) (by decide) (by decide) ?_
                show (Q_law Z pa pb pc0 pd pe fz cz h0 n0) (some (.int (1 : Int32))) _ _
                exact ⟨rfl, N612⟩
            refine g_iload X490 hx hby at_178 rfl ?_
            refine g_iconst X490 hx hby (1 : Int32) at_180 rfl ?_
            by_cases hc181_619 : (Int32.ofNat J) < (1 : Int32)
            · skip
              refine g_icY X490 hx hby 198 at_181 (tlt hc181_619).1 (by decide) (by decide) ?_
              refine g_iload X490 hx hby at_198 rfl ?_
              refine g_iconst X490 hx hby (2 : Int32) at_200 rfl ?_
              refine g_icY X490 hx hby 218 at_201 (tlt ((own_lt12 hc181_619) : (Int32.ofNat J) < (2 : Int32))).1 (by decide) (by decide) ?_
              refine g_iload X490 hx hby at_218 rfl ?_
              refine g_iconst X490 hx hby (3 : Int32) at_220 rfl ?_
              refine g_icY X490 hx hby 238 at_221 (tlt ((own_lt23 (own_lt12 hc181_619)) : (Int32.ofNat J) < (3 : Int32))).1 (by decide) (by decide) ?_
              have hJe : J = 0 := by
                have q0 := (own_ltI (a := J) (b := 1) (by omega) (by omega)).mp hc181_619
                omega
              have f620 := (((f480.keep K479 (allS g_b475 all0)).ext E489).keep K490 (allS g_b489 all0))
              have f621 := (((f481.keep K479).ext E489).keep K490)
              have f622 := ((Vs479.ext E489).keep K490 (ninS (Ne.symm ne493) nin0))
              have f623 := ((D479.ext E489).keep K490 (ninS (Ne.symm ne493) nin0) (ninS (Ne.symm ne494) nin0))
              have ne624 : b2 ≠ b475 := (Nat.ne_of_lt (Nat.lt_of_lt_of_le V2.lt (Nat.le_trans (Nat.le_trans (Nat.le_trans (Nat.le_trans (Keep.of_wr W5).1 (Keep.of_wr W8).1) (Keep.of_wr W11).1) (Keep.of_wr W14).1) (Nat.le_of_eq g475))))
              have ne625 : b2 ≠ b489 := (Nat.ne_of_lt (Nat.lt_of_lt_of_le V2.lt (Nat.le_trans (Nat.le_trans (Nat.le_trans (Nat.le_trans (Nat.le_trans (Nat.le_trans (Nat.le_trans (Keep.of_wr W5).1 (Keep.of_wr W8).1) (Keep.of_wr W11).1) (Keep.of_wr W14).1) E475.1) K476.1) K479.1) (Nat.le_of_eq g489))))
              have f626 := ((((f477.keep K476 nin0).keep K479 (ninS ne624 nin0)).ext E489).keep K490 (ninS ne625 nin0))
              exact JT _ _ _ X490 rfl N490 (Nat.le_refl _) f620 Er490 Tr490 (by rw [hJe]; exact Pr490) f621 f622 f623 f626
            · skip
              refine g_icN X490 hx hby at_181 (flt hc181_619).1 ?_
              refine g_iload X490 hx hby at_184 rfl ?_
              refine g_aload X490 hx hby at_186 rfl rfl ?_
              refine g_aload X490 hx hby at_188 rfl rfl ?_
              refine g_iconst X490 hx hby (0 : Int32) at_190 rfl ?_
              have ne627 : b2 ≠ b475 := (Nat.ne_of_lt (Nat.lt_of_lt_of_le V2.lt (Nat.le_trans (Nat.le_trans (Nat.le_trans (Nat.le_trans (Keep.of_wr W5).1 (Keep.of_wr W8).1) (Keep.of_wr W11).1) (Keep.of_wr W14).1) (Nat.le_of_eq g475))))
              have ne628 : b2 ≠ b489 := (Nat.ne_of_lt (Nat.lt_of_lt_of_le V2.lt (Nat.le_trans (Nat.le_trans (Nat.le_trans (Nat.le_trans (Nat.le_trans (Nat.le_trans (Nat.le_trans (Keep.of_wr W5).1 (Keep.of_wr W8).1) (Keep.of_wr W11).1) (Keep.of_wr W14).1) E475.1) K476.1) K479.1) (Nat.le_of_eq g489))))
              have f629 := ((((f477.keep K476 nin0).keep K479 (ninS ne627 nin0)).ext E489).keep K490 (ninS ne628 nin0))
              refine g_caload X490 hx hby hZ rfl f629 (.int d0) ⟨by decide, by decide⟩ rfl at_191 ?_
              have f631 := (((f480.keep K479 (allS g_b475 all0)).ext E489).keep K490 (allS g_b489 all0))
              have f632 := (((f481.keep K479).ext E489).keep K490)
              have f633 := ((Vs479.ext E489).keep K490 (ninS (Ne.symm ne493) nin0))
              have f634 := ((D479.ext E489).keep K490 (ninS (Ne.symm ne493) nin0) (ninS (Ne.symm ne494) nin0))
              refine g_virtual X490 hx hby hZ hown (rm_rdtake l Z a0 hw [] b489 b475 t479 kb479 [d0, d1, d2, d3] 4 0 d0 fz cz T490.heap n0 z492 O2 P5 f631 Uad Uhi Ulo f632 f633 f634 rfl (by decide) Er490 Tr490 Pr490 (by decide) rfl hr0 rfz O4 g_b489 ne493 ne494) w103_ w104_ (notFace_of_selects (args := #[]) (mvT hZ w106_)) w106_ w105_ w37_ w107_ (by decide) rfl Er490 (by rw [hml]; rfl) [(.int d0)] (lenOf own_pd16 rfl) rfl rfl (Nat.le_of_ble_eq_true rfl) (Nat.le_of_ble_eq_true rfl) (Nat.le_of_ble_eq_true rfl) (Nat.le_of_ble_eq_true rfl) at_192 (fun v630 T630 L630 X630 hQ630 => ?_)
              obtain ⟨rfl, N630q, K630, Er630, Tr630, Pr630⟩ := hQ630
              have N630 := Fr.app N490 N630q
              refine g_at 195 rfl rfl rfl ?_
              refine g_iand X630 hx hby at_195 ?_
              refine g_topI (1 : Int32) (by decide) ?_
              refine g_istore X630 hx hby at_196 (l' := #[.val (.int pa), .val (.int pb), .val (.int pc0), .val (.int pd), .val (.int pe), .val (.int (4 : Int32)), .val (.int (Int32.ofNat J)), .val (.ref b2), .val (.ref b475), .val (.int (Int32.ofNat J4)), .val (.ref b489), .val (.int (1 : Int32)), .unset]) rfl ?_
              refine g_iload X630 hx hby at_198 rfl ?_
              refine g_iconst X630 hx hby (2 : Int32) at_200 rfl ?_
              by_cases hc201_635 : (Int32.ofNat J) < (2 : Int32)
              · skip
                refine g_icY X630 hx hby 218 at_201 (tlt hc201_635).1 (by decide) (by decide) ?_
                refine g_iload X630 hx hby at_218 rfl ?_
                refine g_iconst X630 hx hby (3 : Int32) at_220 rfl ?_
                refine g_icY X630 hx hby 238 at_221 (tlt ((own_lt23 hc201_635) : (Int32.ofNat J) < (3 : Int32))).1 (by decide) (by decide) ?_
                have hJe : J = 1 := by
                  have q0 := mt (own_ltI (a := J) (b := 1) (by omega) (by omega)).mpr hc181_619
                  have q1 := (own_ltI (a := J) (b := 2) (by omega) (by omega)).mp hc201_635
                  omega
                have f636 := (f631.keep K630 (allS g_b489 all0))
                have f637 := (Er490.keep K630)
                have f638 := (f632.keep K630)
                have f639 := (f633.keep K630 (ninS (Ne.symm ne493) nin0))
                have f640 := (f634.keep K630 (ninS (Ne.symm ne493) nin0) (ninS (Ne.symm ne494) nin0))
                have f641 := (f629.keep K630 (ninS ne628 nin0))
                exact JT _ _ _ X630 rfl N630 K630.1 f636 f637 Tr630 (by rw [hJe]; exact Pr630) f638 f639 f640 f641
              · skip
                refine g_icN X630 hx hby at_201 (flt hc201_635).1 ?_
                refine g_iload X630 hx hby at_204 rfl ?_
                refine g_aload X630 hx hby at_206 rfl rfl ?_
                refine g_aload X630 hx hby at_208 rfl rfl ?_
                refine g_iconst X630 hx hby (1 : Int32) at_210 rfl ?_
                have f642 := (f629.keep K630 (ninS ne628 nin0))
                refine g_caload X630 hx hby hZ rfl f642 (.int d1) ⟨by decide, by decide⟩ rfl at_211 ?_
                have f644 := (f631.keep K630 (allS g_b489 all0))
                have f645 := (f632.keep K630)
                have f646 := (f633.keep K630 (ninS (Ne.symm ne493) nin0))
                have f647 := (f634.keep K630 (ninS (Ne.symm ne493) nin0) (ninS (Ne.symm ne494) nin0))
                have f648 := (Er490.keep K630)
                have z649 := (Nat.le_trans z492 K630.1)
                refine g_virtual X630 hx hby hZ hown (rm_rdtake l Z a0 hw [] b489 b475 t479 kb479 [d0, d1, d2, d3] 4 1 d1 fz cz T630.heap n0 z649 O2 P5 f644 Uad Uhi Ulo f645 f646 f647 rfl (by decide) f648 Tr630 Pr630 (by decide) rfl hr1 rfz O4 g_b489 ne493 ne494) w103_ w104_ (notFace_of_selects (args := #[]) (mvT hZ w106_)) w106_ w105_ w37_ w107_ (by decide) rfl f648 (by rw [hml]; rfl) [(.int d1)] (lenOf own_pd16 rfl) rfl rfl (Nat.le_of_ble_eq_true rfl) (Nat.le_of_ble_eq_true rfl) (Nat.le_of_ble_eq_true rfl) (Nat.le_of_ble_eq_true rfl) at_212 (fun v643 T643 L643 X643 hQ643 => ?_)
                obtain ⟨rfl, N643q, K643, Er643, Tr643, Pr643⟩ := hQ643
                have N643 := Fr.app N630 N643q
                refine g_iand X643 hx hby at_215 ?_
                refine g_topI (1 : Int32) (by decide) ?_
                refine g_istore X643 hx hby at_216 (l' := #[.val (.int pa), .val (.int pb), .val (.int pc0), .val (.int pd), .val (.int pe), .val (.int (4 : Int32)), .val (.int (Int32.ofNat J)), .val (.ref b2), .val (.ref b475), .val (.int (Int32.ofNat J4)), .val (.ref b489), .val (.int (1 : Int32)), .unset]) rfl ?_
                refine g_iload X643 hx hby at_218 rfl ?_
                refine g_iconst X643 hx hby (3 : Int32) at_220 rfl ?_
                by_cases hc221_650 : (Int32.ofNat J) < (3 : Int32)
                · skip
                  refine g_icY X643 hx hby 238 at_221 (tlt hc221_650).1 (by decide) (by decide) ?_
                  have hJe : J = 2 := by
                    have q0 := mt (own_ltI (a := J) (b := 1) (by omega) (by omega)).mpr hc181_619
                    have q1 := mt (own_ltI (a := J) (b := 2) (by omega) (by omega)).mpr hc201_635
                    have q2 := (own_ltI (a := J) (b := 3) (by omega) (by omega)).mp hc221_650
                    omega
                  have f651 := (f644.keep K643 (allS g_b489 all0))
                  have f652 := (f648.keep K643)
                  have f653 := (f645.keep K643)
                  have f654 := (f646.keep K643 (ninS (Ne.symm ne493) nin0))
                  have f655 := (f647.keep K643 (ninS (Ne.symm ne493) nin0) (ninS (Ne.symm ne494) nin0))
                  have f656 := (f642.keep K643 (ninS ne628 nin0))
                  exact JT _ _ _ X643 rfl N643 (Nat.le_trans K630.1 K643.1) f651 f652 Tr643 (by rw [hJe]; exact Pr643) f653 f654 f655 f656
                · skip
                  refine g_icN X643 hx hby at_221 (flt hc221_650).1 ?_
                  refine g_iload X643 hx hby at_224 rfl ?_
                  refine g_aload X643 hx hby at_226 rfl rfl ?_
                  refine g_aload X643 hx hby at_228 rfl rfl ?_
                  refine g_iconst X643 hx hby (2 : Int32) at_230 rfl ?_
                  have f657 := (f642.keep K643 (ninS ne628 nin0))
                  refine g_caload X643 hx hby hZ rfl f657 (.int d2) ⟨by decide, by decide⟩ rfl at_231 ?_
                  refine g_at 232 rfl rfl rfl ?_
                  have f659 := (f644.keep K643 (allS g_b489 all0))
                  have f660 := (f645.keep K643)
                  have f661 := (f646.keep K643 (ninS (Ne.symm ne493) nin0))
                  have f662 := (f647.keep K643 (ninS (Ne.symm ne493) nin0) (ninS (Ne.symm ne494) nin0))
                  have f663 := (f648.keep K643)
                  have z664 := (Nat.le_trans z649 K643.1)
                  refine g_virtual X643 hx hby hZ hown (rm_rdtake l Z a0 hw [] b489 b475 t479 kb479 [d0, d1, d2, d3] 4 2 d2 fz cz T643.heap n0 z664 O2 P5 f659 Uad Uhi Ulo f660 f661 f662 rfl (by decide) f663 Tr643 Pr643 (by decide) rfl hr2 rfz O4 g_b489 ne493 ne494) w103_ w104_ (notFace_of_selects (args := #[]) (mvT hZ w106_)) w106_ w105_ w37_ w107_ (by decide) rfl f663 (by rw [hml]; rfl) [(.int d2)] (lenOf own_pd16 rfl) rfl rfl (Nat.le_of_ble_eq_true rfl) (Nat.le_of_ble_eq_true rfl) (Nat.le_of_ble_eq_true rfl) (Nat.le_of_ble_eq_true rfl) at_232 (fun v658 T658 L658 X658 hQ658 => ?_)
                  obtain ⟨rfl, N658q, K658, Er658, Tr658, Pr658⟩ := hQ658
                  have N658 := Fr.app N643 N658q
                  refine g_iand X658 hx hby at_235 ?_
                  refine g_topI (1 : Int32) (by decide) ?_
                  refine g_istore X658 hx hby at_236 (l' := #[.val (.int pa), .val (.int pb), .val (.int pc0), .val (.int pd), .val (.int pe), .val (.int (4 : Int32)), .val (.int (Int32.ofNat J)), .val (.ref b2), .val (.ref b475), .val (.int (Int32.ofNat J4)), .val (.ref b489), .val (.int (1 : Int32)), .unset]) rfl ?_
                  have hJe : J = 3 := by
                    have q0 := mt (own_ltI (a := J) (b := 1) (by omega) (by omega)).mpr hc181_619
                    have q1 := mt (own_ltI (a := J) (b := 2) (by omega) (by omega)).mpr hc201_635
                    have q2 := mt (own_ltI (a := J) (b := 3) (by omega) (by omega)).mpr hc221_650
                    omega
                  have f665 := (f659.keep K658 (allS g_b489 all0))
                  have f666 := (f663.keep K658)
                  have f667 := (f660.keep K658)
                  have f668 := (f661.keep K658 (ninS (Ne.symm ne493) nin0))
                  have f669 := (f662.keep K658 (ninS (Ne.symm ne493) nin0) (ninS (Ne.symm ne494) nin0))
                  have f670 := (f657.keep K658 (ninS ne628 nin0))
                  exact JT _ _ _ X658 rfl N658 (Nat.le_trans (Nat.le_trans K630.1 K643.1) K658.1) f665 f666 Tr658 (by rw [hJe]; exact Pr658) f667 f668 f669 f670
          refine g_iload X487 hx hby at_143 rfl ?_
          refine g_iload X487 hx hby at_145 rfl ?_
          by_cases hc147_671 : (Int32.ofNat J3) < (4 : Int32)
          · skip
            refine g_icN X487 hx hby at_147 (tlt hc147_671).2.1 ?_
            refine g_aload X487 hx hby at_150 rfl rfl ?_
            refine g_iload X487 hx hby at_152 rfl ?_
            have ne672 : b2 ≠ b475 := (Nat.ne_of_lt (Nat.lt_of_lt_of_le V2.lt (Nat.le_trans (Nat.le_trans (Nat.le_trans (Nat.le_trans (Keep.of_wr W5).1 (Keep.of_wr W8).1) (Keep.of_wr W11).1) (Keep.of_wr W14).1) (Nat.le_of_eq g475))))
            have f673 := ((f477.keep K476 nin0).keep K479 (ninS ne672 nin0))
            refine g_caload X487 hx hby hZ e487 f673 (.int ([d0, d1, d2, d3].getD J3 0)) (own_in2 (M := 4) (by have := (own_ltI (a := J3) (b := 4) (by omega) (by omega)).mp hc147_671; omega) (by omega)) (by rw [own_tn2 (by omega)]; exact own_getD [d0, d1, d2, d3] J3) at_154 ?_
            have z675 := (Nat.le_trans z484 K479.1)
            refine g_static X487 hx hby hZ hown (rm_blank l Z a0 hw [] ([d0, d1, d2, d3].getD J3 0) T479.heap n0 z675 ) w78_ w79_ w8_ w80_ (by decide) e487 (by rw [hml]; rfl) [(.int ([d0, d1, d2, d3].getD J3 0))] (lenOf own_pd16 rfl) rfl rfl (Nat.le_of_ble_eq_true rfl) (Nat.le_of_ble_eq_true rfl) (Nat.le_of_ble_eq_true rfl) (Nat.le_of_ble_eq_true rfl) at_155 (fun v674 T674 L674 X674 hQ674 => ?_)
            obtain ⟨rfl, N674q, eh674⟩ := hQ674
            have N674 := Fr.app N487 N674q
            by_cases hc158_676 : (own_blk ([d0, d1, d2, d3].getD J3 0)) = (0 : Int32)
            · skip
              refine g_ifY X674 hx hby 164 at_158 (teq hc158_676).1 (by decide) (by decide) ?_
              exact J488 _ _ _ X674 eh674 N674 (by rw [own_st, if_neg (fun q => by rw [hc158_676] at q; exact absurd q.2 (by decide))])
            · skip
              refine g_ifN X674 hx hby at_158 (feq hc158_676).1 ?_
              refine g_iinc X674 hx hby ((Int32.ofNat J3) + (1 : Int32)) at_161 rfl rfl (l' := #[.val (.int pa), .val (.int pb), .val (.int pc0), .val (.int pd), .val (.int pe), .val (.int (4 : Int32)), .val (.int (Int32.ofNat J)), .val (.ref b2), .val (.ref b475), .val (.int ((Int32.ofNat J3) + (1 : Int32))), .unset, .unset, .unset]) rfl ?_
              exact J488 _ _ _ X674 eh674 N674 (by rw [own_st, if_pos ⟨(own_ltI (a := J3) (b := 4) (by omega) (by omega)).mp hc147_671, own_blk1 hc158_676⟩, own_up])
          · skip
            refine g_icY X487 hx hby 164 at_147 (flt hc147_671).2.1 (by decide) (by decide) ?_
            exact J488 _ _ _ X487 e487 N487 (by rw [own_st, if_neg (fun q => hc147_671 ((own_ltI (a := J3) (b := 4) (by omega) (by omega)).mpr q.1))])
        refine g_iload X486 hx hby at_122 rfl ?_
        refine g_iload X486 hx hby at_124 rfl ?_
        by_cases hc126_677 : (Int32.ofNat J2) < (4 : Int32)
        · skip
          refine g_icN X486 hx hby at_126 (tlt hc126_677).2.1 ?_
          refine g_aload X486 hx hby at_129 rfl rfl ?_
          refine g_iload X486 hx hby at_131 rfl ?_
          have ne678 : b2 ≠ b475 := (Nat.ne_of_lt (Nat.lt_of_lt_of_le V2.lt (Nat.le_trans (Nat.le_trans (Nat.le_trans (Nat.le_trans (Keep.of_wr W5).1 (Keep.of_wr W8).1) (Keep.of_wr W11).1) (Keep.of_wr W14).1) (Nat.le_of_eq g475))))
          have f679 := ((f477.keep K476 nin0).keep K479 (ninS ne678 nin0))
          refine g_caload X486 hx hby hZ e486 f679 (.int ([d0, d1, d2, d3].getD J2 0)) (own_in2 (M := 4) (by have := (own_ltI (a := J2) (b := 4) (by omega) (by omega)).mp hc126_677; omega) (by omega)) (by rw [own_tn2 (by omega)]; exact own_getD [d0, d1, d2, d3] J2) at_133 ?_
          have z681 := (Nat.le_trans z484 K479.1)
          refine g_static X486 hx hby hZ hown (rm_blank l Z a0 hw [] ([d0, d1, d2, d3].getD J2 0) T479.heap n0 z681 ) w78_ w79_ w8_ w80_ (by decide) e486 (by rw [hml]; rfl) [(.int ([d0, d1, d2, d3].getD J2 0))] (lenOf own_pd16 rfl) rfl rfl (Nat.le_of_ble_eq_true rfl) (Nat.le_of_ble_eq_true rfl) (Nat.le_of_ble_eq_true rfl) (Nat.le_of_ble_eq_true rfl) at_134 (fun v680 T680 L680 X680 hQ680 => ?_)
          obtain ⟨rfl, N680q, eh680⟩ := hQ680
          have N680 := Fr.app N486 N680q
          by_cases hc137_682 : (own_blk ([d0, d1, d2, d3].getD J2 0)) = (0 : Int32)
          · skip
            refine g_ifY X680 hx hby 143 at_137 (teq hc137_682).1 (by decide) (by decide) ?_
            exact J487 _ _ _ X680 eh680 N680 (by rw [own_st, if_neg (fun q => by rw [hc137_682] at q; exact absurd q.2 (by decide))])
          · skip
            refine g_ifN X680 hx hby at_137 (feq hc137_682).1 ?_
            refine g_iinc X680 hx hby ((Int32.ofNat J2) + (1 : Int32)) at_140 rfl rfl (l' := #[.val (.int pa), .val (.int pb), .val (.int pc0), .val (.int pd), .val (.int pe), .val (.int (4 : Int32)), .val (.int (Int32.ofNat J)), .val (.ref b2), .val (.ref b475), .val (.int ((Int32.ofNat J2) + (1 : Int32))), .unset, .unset, .unset]) rfl ?_
            exact J487 _ _ _ X680 eh680 N680 (by rw [own_st, if_pos ⟨(own_ltI (a := J2) (b := 4) (by omega) (by omega)).mp hc126_677, own_blk1 hc137_682⟩, own_up])
        · skip
          refine g_icY X486 hx hby 143 at_126 (flt hc126_677).2.1 (by decide) (by decide) ?_
          exact J487 _ _ _ X486 e486 N486 (by rw [own_st, if_neg (fun q => hc126_677 ((own_ltI (a := J2) (b := 4) (by omega) (by omega)).mpr q.1))])
      refine g_iload X485 hx hby at_101 rfl ?_
      refine g_iload X485 hx hby at_103 rfl ?_
      by_cases hc105_683 : (Int32.ofNat J1) < (4 : Int32)
      · skip
        refine g_icN X485 hx hby at_105 (tlt hc105_683).2.1 ?_
        refine g_aload X485 hx hby at_108 rfl rfl ?_
        refine g_iload X485 hx hby at_110 rfl ?_
        have ne684 : b2 ≠ b475 := (Nat.ne_of_lt (Nat.lt_of_lt_of_le V2.lt (Nat.le_trans (Nat.le_trans (Nat.le_trans (Nat.le_trans (Keep.of_wr W5).1 (Keep.of_wr W8).1) (Keep.of_wr W11).1) (Keep.of_wr W14).1) (Nat.le_of_eq g475))))
        have f685 := ((f477.keep K476 nin0).keep K479 (ninS ne684 nin0))
        refine g_caload X485 hx hby hZ e485 f685 (.int ([d0, d1, d2, d3].getD J1 0)) (own_in2 (M := 4) (by have := (own_ltI (a := J1) (b := 4) (by omega) (by omega)).mp hc105_683; omega) (by omega)) (by rw [own_tn2 (by omega)]; exact own_getD [d0, d1, d2, d3] J1) at_112 ?_
        have z687 := (Nat.le_trans z484 K479.1)
        refine g_static X485 hx hby hZ hown (rm_blank l Z a0 hw [] ([d0, d1, d2, d3].getD J1 0) T479.heap n0 z687 ) w78_ w79_ w8_ w80_ (by decide) e485 (by rw [hml]; rfl) [(.int ([d0, d1, d2, d3].getD J1 0))] (lenOf own_pd16 rfl) rfl rfl (Nat.le_of_ble_eq_true rfl) (Nat.le_of_ble_eq_true rfl) (Nat.le_of_ble_eq_true rfl) (Nat.le_of_ble_eq_true rfl) at_113 (fun v686 T686 L686 X686 hQ686 => ?_)
        obtain ⟨rfl, N686q, eh686⟩ := hQ686
        have N686 := Fr.app N485 N686q
        by_cases hc116_688 : (own_blk ([d0, d1, d2, d3].getD J1 0)) = (0 : Int32)
        · skip
          refine g_ifY X686 hx hby 122 at_116 (teq hc116_688).1 (by decide) (by decide) ?_
          exact J486 _ _ _ X686 eh686 N686 (by rw [own_st, if_neg (fun q => by rw [hc116_688] at q; exact absurd q.2 (by decide))])
        · skip
          refine g_ifN X686 hx hby at_116 (feq hc116_688).1 ?_
          refine g_iinc X686 hx hby ((Int32.ofNat J1) + (1 : Int32)) at_119 rfl rfl (l' := #[.val (.int pa), .val (.int pb), .val (.int pc0), .val (.int pd), .val (.int pe), .val (.int (4 : Int32)), .val (.int (Int32.ofNat J)), .val (.ref b2), .val (.ref b475), .val (.int ((Int32.ofNat J1) + (1 : Int32))), .unset, .unset, .unset]) rfl ?_
          exact J486 _ _ _ X686 eh686 N686 (by rw [own_st, if_pos ⟨(own_ltI (a := J1) (b := 4) (by omega) (by omega)).mp hc105_683, own_blk1 hc116_688⟩, own_up])
      · skip
        refine g_icY X485 hx hby 122 at_105 (flt hc105_683).2.1 (by decide) (by decide) ?_
        exact J486 _ _ _ X485 e485 N485 (by rw [own_st, if_neg (fun q => hc105_683 ((own_ltI (a := J1) (b := 4) (by omega) (by omega)).mpr q.1))])
    refine g_iload X479 hx hby at_80 rfl ?_
    refine g_iload X479 hx hby at_82 rfl ?_
    by_cases hc84_689 : (Int32.ofNat J) < (4 : Int32)
    · skip
      refine g_icN X479 hx hby at_84 (tlt hc84_689).2.1 ?_
      refine g_aload X479 hx hby at_87 rfl rfl ?_
      refine g_iload X479 hx hby at_89 rfl ?_
      have ne690 : b2 ≠ b475 := (Nat.ne_of_lt (Nat.lt_of_lt_of_le V2.lt (Nat.le_trans (Nat.le_trans (Nat.le_trans (Nat.le_trans (Keep.of_wr W5).1 (Keep.of_wr W8).1) (Keep.of_wr W11).1) (Keep.of_wr W14).1) (Nat.le_of_eq g475))))
      have f691 := ((f477.keep K476 nin0).keep K479 (ninS ne690 nin0))
      refine g_caload X479 hx hby hZ rfl f691 (.int ([d0, d1, d2, d3].getD J 0)) (own_in2 (M := 4) (by have := (own_ltI (a := J) (b := 4) (by omega) (by omega)).mp hc84_689; omega) (by omega)) (by rw [own_tn2 (by omega)]; exact own_getD [d0, d1, d2, d3] J) at_91 ?_
      have z693 := (Nat.le_trans z484 K479.1)
      refine g_static X479 hx hby hZ hown (rm_blank l Z a0 hw [] ([d0, d1, d2, d3].getD J 0) T479.heap n0 z693 ) w78_ w79_ w8_ w80_ (by decide) rfl (by rw [hml]; rfl) [(.int ([d0, d1, d2, d3].getD J 0))] (lenOf own_pd16 rfl) rfl rfl (Nat.le_of_ble_eq_true rfl) (Nat.le_of_ble_eq_true rfl) (Nat.le_of_ble_eq_true rfl) (Nat.le_of_ble_eq_true rfl) at_92 (fun v692 T692 L692 X692 hQ692 => ?_)
      obtain ⟨rfl, N692q, eh692⟩ := hQ692
      have N692 := Fr.app N479 N692q
      by_cases hc95_694 : (own_blk ([d0, d1, d2, d3].getD J 0)) = (0 : Int32)
      · skip
        refine g_ifY X692 hx hby 101 at_95 (teq hc95_694).1 (by decide) (by decide) ?_
        exact J485 _ _ _ X692 eh692 N692 (by rw [own_st, if_neg (fun q => by rw [hc95_694] at q; exact absurd q.2 (by decide))])
      · skip
        refine g_ifN X692 hx hby at_95 (feq hc95_694).1 ?_
        refine g_iinc X692 hx hby ((Int32.ofNat J) + (1 : Int32)) at_98 rfl rfl (l' := #[.val (.int pa), .val (.int pb), .val (.int pc0), .val (.int pd), .val (.int pe), .val (.int (4 : Int32)), .val (.int (Int32.ofNat J)), .val (.ref b2), .val (.ref b475), .val (.int ((Int32.ofNat J) + (1 : Int32))), .unset, .unset, .unset]) rfl ?_
        exact J485 _ _ _ X692 eh692 N692 (by rw [own_st, if_pos ⟨(own_ltI (a := J) (b := 4) (by omega) (by omega)).mp hc84_689, own_blk1 hc95_694⟩, own_up])
    · skip
      refine g_icY X479 hx hby 101 at_84 (flt hc84_689).2.1 (by decide) (by decide) ?_
      exact J485 _ _ _ X479 rfl N479 (by rw [own_st, if_neg (fun q => hc84_689 ((own_ltI (a := J) (b := 4) (by omega) (by omega)).mpr q.1))])

set_option maxRecDepth 65536 in
set_option maxHeartbeats 40000000 in
theorem comes_1 {Post : Tables → Env → Array Value → State → Outcome → State → Prop} (hpost : ∀ tb e args s v u, (limb_1_1.after args s (.returned v) u = true ∧ limb_1_2.after args s (.returned v) u = true ∧ True) → ReturnedEndW s (.returned v) u (Jvm.fieldLocs frame_1_writes args s ++ Jvm.arrayLocs frame_1_arrays args s ++ Jvm.staticLocs frame_1_statics s) 24 1152 → Post tb e args s (.returned v) u) :
    ArmFor flags0 classFile x code maxLocals ret World_1 tables_1 room_1 Calls_1 rest_1 Pre_1 Post := by
  intro l hfl _ _ p e ha hc hk s m args below hf hA hF happ hP
  obtain ⟨hcalls, hrest, hpre⟩ := hP
  obtain ⟨-, -, -, hnamed, -, -, -, hat⟩ := (Spec.applies_iff hf).mp happ
  obtain ⟨hg, hn⟩ := and_e (Cond.before_iff.mp (show (Jvm.Cond.and given_1 narrow_1).before args s = true from hpre))
  obtain ⟨hcount, hg1⟩ := and_e hg
  obtain ⟨ga0, hg2⟩ := and_e hg1
  obtain ⟨ga1, hg3⟩ := and_e hg2
  obtain ⟨ga2, hg4⟩ := and_e hg3
  obtain ⟨ga3, hg5⟩ := and_e hg4
  have ga4 := hg5
  obtain ⟨w0, w1, w2, w3, w4, rfl⟩ : ∃ w0 w1 w2 w3 w4 : Value, args = #[w0, w1, w2, w3, w4] := by
    have hs : args.size = 5 := by simpa [Cond.value, given_1] using hcount
    obtain ⟨L⟩ := args
    match L, hs with
    | [w0, w1, w2, w3, w4], _ => exact ⟨w0, w1, w2, w3, w4, rfl⟩
  have hw := fun d (hd : d ∈ tables_1) => atoms_spec (ws := Jvm.Cond.code x code maxLocals ret :: tables_1) hat d (List.mem_cons_of_mem _ hd)
  have hfit : Fit s := fun {y c} hc i hi => by
    obtain ⟨ha, rfl⟩ := Array.getElem?_eq_some_iff.mp hc
    have q := List.all_eq_true.mp ((Array.all_eq_true_iff_forall_mem.mp hF) _ (Array.getElem_mem ha)) i (List.mem_range.mpr hi)
    simpa [Array.getElem?_eq_getElem hi] using q
  obtain ⟨hsets, hown0⟩ := atoms_of _ (rest_1_c_eq ▸ (show rest_1_c.before _ s = true from hrest))
  have hr0 := Cond.before_iff.mp hown0
  obtain ⟨i0, ei0⟩ := is_v ga0
  obtain rfl : w0 = (.int i0) := Option.some.inj ei0
  obtain ⟨i1, ei1⟩ := is_v ga1
  obtain rfl : w1 = (.int i1) := Option.some.inj ei1
  obtain ⟨i2, ei2⟩ := is_v ga2
  obtain rfl : w2 = (.int i2) := Option.some.inj ei2
  obtain ⟨i3, ei3⟩ := is_v ga3
  obtain rfl : w3 = (.int i3) := Option.some.inj ei3
  obtain ⟨i4, ei4⟩ := is_v ga4
  obtain rfl : w4 = (.int i4) := Option.some.inj ei4
  obtain ⟨cz, ecz⟩ := is_v (Cond.before_iff.mp (hsets _ (List.mem_of_getElem? (i := 1) rfl)))
  have O2 := Sta.start ecz (Or.inl (hsets _ (List.mem_of_getElem? (i := 0) rfl)))
  have P5 : ¬ cz = (0 : Int32) := gotF (Cond.eq_ints ecz (Term.int_eval 0)) (not_v (Cond.before_iff.mp (hsets _ (List.mem_of_getElem? (i := 2) rfl))))
  obtain ⟨fz, efz, rfz0⟩ := isR_v (Cond.before_iff.mp (hsets _ (List.mem_of_getElem? (i := 8) rfl)))
  have rfz := Rf.of rfz0
  have O4 := Sta.start efz (Or.inl (hsets _ (List.mem_of_getElem? (i := 7) rfl)))
  have Uad := Sta.start (own_eq_int (Cond.before_iff.mp (hsets _ (List.mem_of_getElem? (i := 12) rfl)))) (Or.inl (hsets _ (List.mem_of_getElem? (i := 11) rfl)))
  have Uhi := Sta.start (own_eq_int (Cond.before_iff.mp (hsets _ (List.mem_of_getElem? (i := 15) rfl)))) (Or.inl (hsets _ (List.mem_of_getElem? (i := 14) rfl)))
  have Ulo := Sta.start (own_eq_int (Cond.before_iff.mp (hsets _ (List.mem_of_getElem? (i := 18) rfl)))) (Or.inl (hsets _ (List.mem_of_getElem? (i := 17) rfl)))
  have hheld : Jvm.Lit.constHeld s "java/lang/String" 7 := hcalls.1 ("java/lang/String", 7) (by simp [consts_1])
  have hcw : Jvm.Lit.compactW.before #[Value.int i0, Value.int i1, Value.int i2, Value.int i3, Value.int i4] s = true := hsets _ (List.mem_of_getElem? (i := 2) rfl)
  obtain ⟨n, o, h1, h2, h3, _, L, rfl, ⟨rfl, N⟩, hq⟩ := rm_law l s _ hw tables_1 i0 i1 i2 i3 i4 fz cz s.heap s.heap.size (Nat.le_refl _) O2 P5 (Old.start s) Uad Uhi Ulo rfz O4 hheld hcw p e ha hc hk s m _ below hf ((Spec.applies_iff_loose hf).mp happ).1 ⟨rfl, ⟨State.Warmed39.refl s, rfl⟩, rfl⟩ trivial
  refine ⟨n, _, h1, h2, h3, hpost _ _ _ _ _ _ ⟨Cond.after_iff.mpr rfl, Cond.after_iff.mpr (eq_i res_at (Term.int_eval (1)) rfl), trivial⟩ (own_widen hq N (by decide) (by decide))⟩
theorem main_1_1 : Claimed_1_1 := comes_1 fun _ _ _ _ _ _ h hF => ⟨h.1, hF⟩
theorem main_1_2 : Claimed_1_2 := comes_1 fun _ _ _ _ _ _ h hF => ⟨h.2.1, hF⟩

end Jvm.Pilot.@@N@@
namespace Jvm.Pilot.@@N@@
open Jvm Jvm.ClassFile Sem Op Lib Jvm.Free Jvm.Stand Jvm.Pilot.@@N@@.Jvm.D
/-! MADE BY PROGRAM (witnessworld.py) out of the Statement's table words and the real class files: 21 classes; the members and pool entries that the words name. The judged class is class 1, her method 4. -/
namespace start1
open Jvm.ClassFile
def u (s : String) : CpInfo := .utf8 (stringToUtf16 s)
/-- a pool by its gaps: so many unusable entries, then the entry; so many at the end -/
def gap : Nat → List CpInfo → List CpInfo
  | 0, r => r
  | n + 1, r => .unusable :: gap n r
def poolList (es : List (Nat × CpInfo)) (last : Nat) : List CpInfo := es.foldr (fun e r => gap e.1 (e.2 :: r)) (gap last [])
def pool (es : List (Nat × CpInfo)) (last : Nat) : Array CpInfo := ⟨poolList es last⟩
def fileOf (pool : Array CpInfo) (this : Nat) (attrs : Array Attribute := #[]) (ms : Array MethodInfo := #[]) (fl : Nat := 33) (sup : Nat := 0) (ifs : Array Nat := #[]) (fds : Array FieldInfo := #[]) : ClassFile where
  minorVersion := 0
  majorVersion := 65
  constantPool := pool
  accessFlags := fl
  thisClass := this
  superClass := sup
  interfaces := ifs
  fields := fds
  methods := ms
  attributes := attrs
def plain (name : String) (sup : Option ClassId) : Class where
  name := name
  kind := .ordinary
  loader := none
  accessFlags := 33
  super := sup
  interfaces := #[]
  cf := none
  fields := #[]
  methods := #[]
  instanceTypes := #[]
  staticTypes := #[]
  resolved := #[]
  callSites := []
  init := .initialized
  statics := none
  mirror := none

def pool0 : Array CpInfo := pool [(5, u "<init>"), (0, u "()V"), (1, .class_ 10), (1, u "java/lang/Object")] 113

def k0c0 : Code := { maxStack := 0, maxLocals := 1, code := object_method_1_code, exceptionTable := #[], attributes := #[] }
def k0m0 : Method := { name := "<init>", desc := "()V", sig := { parameters := [], returnType := none }, accessFlags := 1, code := some k0c0 }
/-- java/lang/Object -/
def k0 : Class := { plain "java/lang/Object" none with
  accessFlags := 33
  interfaces := #[]
  cf := some (fileOf pool0 8 #[] #[{ accessFlags := 1, nameIndex := 5, descriptorIndex := 6, attributes := #[] }] 33 0 #[] #[])
  fields := #[]
  methods := #[k0m0]
  instanceTypes := #[]
  staticTypes := #[]
  resolved := Array.replicate 124 none
  statics := none }

def pool1 : Array CpInfo := pool [(2, .class_ 4), (1, u "java/lang/Object"), (0, u "<init>"), (0, u "()V"), (0, .integer 65535), (0, .integer 2147483647), (0, .methodref 10 11), (0, .class_ 12), (0, .nameAndType 13 14), (0, u "java/lang/Math"), (0, u "min"), (0, u "(II)I"), (0, .methodref 16 17), (0, .class_ 18), (0, .nameAndType 19 20), (0, u "com/example/pathloom/pathloom/web/ReaderSkipSpacePinLaw"), (0, u "pick"), (0, u "(I)C"), (0, .class_ 22), (0, u "java/lang/String"), (0, .methodref 16 24), (0, .nameAndType 25 26), (0, u "prefix"), (0, u "([CI)[C"), (0, .methodref 21 28), (0, .nameAndType 5 29), (0, u "([C)V"), (0, .methodref 16 31), (0, .nameAndType 32 33), (0, u "blank"), (0, u "(C)Z"), (0, .class_ 35), (0, u "com/example/pathloom/pathloom/web/MediaType$Reader"), (0, .methodref 34 37), (0, .nameAndType 5 38), (0, u "(Ljava/lang/String;)V"), (0, .methodref 34 40), (0, .nameAndType 41 33), (0, u "take"), (0, .methodref 34 43), (0, .nameAndType 44 45), (0, u "skipSpace"), (0, u "()Z"), (0, .methodref 34 47), (0, .nameAndType 48 45), (0, u "atEnd"), (3, u "law"), (0, u "(IIIII)Z")] 8

def k1m0 : Method := { name := "<init>", desc := "()V", sig := { parameters := [], returnType := none }, accessFlags := 2, code := none }
def k1c1 : Code := { maxStack := 2, maxLocals := 2, code := method_2_code, exceptionTable := #[], attributes := #[] }
def k1m1 : Method := { name := "pick", desc := "(I)C", sig := { parameters := [.int], returnType := some .char }, accessFlags := 10, code := some k1c1 }
def k1c2 : Code := { maxStack := 2, maxLocals := 1, code := method_3_code, exceptionTable := #[], attributes := #[] }
def k1m2 : Method := { name := "blank", desc := "(C)Z", sig := { parameters := [.char], returnType := some .boolean }, accessFlags := 10, code := some k1c2 }
def k1c3 : Code := { maxStack := 5, maxLocals := 2, code := method_4_code, exceptionTable := #[], attributes := #[] }
def k1m3 : Method := { name := "prefix", desc := "([CI)[C", sig := { parameters := [(.array .char), .int], returnType := some (.array .char) }, accessFlags := 10, code := some k1c3 }
def k1c4 : Code := { maxStack := 4, maxLocals := 13, code := code, exceptionTable := #[], attributes := #[] }
def k1m4 : Method := { name := "law", desc := "(IIIII)Z", sig := { parameters := [.int, .int, .int, .int, .int], returnType := some .boolean }, accessFlags := 9, code := some k1c4 }
/-- com/example/pathloom/pathloom/web/ReaderSkipSpacePinLaw -/
def k1 : Class := { plain "com/example/pathloom/pathloom/web/ReaderSkipSpacePinLaw" (some 0) with
  accessFlags := 49
  interfaces := #[]
  cf := some (fileOf pool1 16 #[] #[{ accessFlags := 2, nameIndex := 5, descriptorIndex := 6, attributes := #[] }, { accessFlags := 10, nameIndex := 19, descriptorIndex := 20, attributes := #[] }, { accessFlags := 10, nameIndex := 32, descriptorIndex := 33, attributes := #[] }, { accessFlags := 10, nameIndex := 25, descriptorIndex := 26, attributes := #[] }, { accessFlags := 9, nameIndex := 52, descriptorIndex := 53, attributes := #[] }] 49 2 #[] #[])
  fields := #[]
  methods := #[k1m0, k1m1, k1m2, k1m3, k1m4]
  instanceTypes := #[]
  staticTypes := #[]
  resolved := Array.replicate 62 none
  statics := none }

def pool2 : Array CpInfo := pool [(1, .class_ 2), (0, u "java/lang/Math"), (1, .class_ 6), (1, u "java/lang/Object"), (0, u "<init>"), (0, u "()V"), (89, .class_ 100), (1, u "java/lang/Math$RandomNumberGeneratorHolder"), (71, u "negativeZeroFloatBits"), (0, u "J"), (2, u "negativeZeroDoubleBits"), (24, u "min"), (43, u "$assertionsDisabled"), (0, u "Z"), (88, u "(II)I"), (2, u "twoToTheDoubleScaleDown"), (0, u "D"), (4, u "twoToTheDoubleScaleUp"), (9, u "E"), (3, u "PI"), (2, u "TAU"), (2, u "DEGREES_TO_RADIANS"), (0, u "RADIANS_TO_DEGREES")] 94

def k2m0 : Method := { name := "<init>", desc := "()V", sig := { parameters := [], returnType := none }, accessFlags := 2, code := none }
def k2c1 : Code := { maxStack := 2, maxLocals := 2, code := jdk_29_method_69_code, exceptionTable := #[], attributes := #[] }
def k2m1 : Method := { name := "min", desc := "(II)I", sig := { parameters := [.int, .int], returnType := some .int }, accessFlags := 9, code := some k2c1 }
/-- java/lang/Math -/
def k2 : Class := { plain "java/lang/Math" (some 0) with
  accessFlags := 49
  interfaces := #[]
  cf := some (fileOf pool2 1 #[.nestMembers #[98]] #[{ accessFlags := 2, nameIndex := 7, descriptorIndex := 8, attributes := #[] }, { accessFlags := 9, nameIndex := 201, descriptorIndex := 335, attributes := #[] }] 49 4 #[] #[{ accessFlags := 25, nameIndex := 354, descriptorIndex := 339, attributes := #[] }, { accessFlags := 25, nameIndex := 358, descriptorIndex := 339, attributes := #[] }, { accessFlags := 25, nameIndex := 361, descriptorIndex := 339, attributes := #[] }, { accessFlags := 26, nameIndex := 364, descriptorIndex := 339, attributes := #[] }, { accessFlags := 26, nameIndex := 365, descriptorIndex := 339, attributes := #[] }, { accessFlags := 26, nameIndex := 172, descriptorIndex := 173, attributes := #[] }, { accessFlags := 26, nameIndex := 176, descriptorIndex := 173, attributes := #[] }, { accessFlags := 8, nameIndex := 344, descriptorIndex := 339, attributes := #[] }, { accessFlags := 8, nameIndex := 338, descriptorIndex := 339, attributes := #[] }, { accessFlags := 4120, nameIndex := 245, descriptorIndex := 246, attributes := #[] }])
  fields := #[{ name := "E", type := .double, accessFlags := 25, slot := 0, constantValue := 0 }, { name := "PI", type := .double, accessFlags := 25, slot := 1, constantValue := 0 }, { name := "TAU", type := .double, accessFlags := 25, slot := 2, constantValue := 0 }, { name := "DEGREES_TO_RADIANS", type := .double, accessFlags := 26, slot := 3, constantValue := 0 }, { name := "RADIANS_TO_DEGREES", type := .double, accessFlags := 26, slot := 4, constantValue := 0 }, { name := "negativeZeroFloatBits", type := .long, accessFlags := 26, slot := 5, constantValue := 0 }, { name := "negativeZeroDoubleBits", type := .long, accessFlags := 26, slot := 6, constantValue := 0 }, { name := "twoToTheDoubleScaleUp", type := .double, accessFlags := 8, slot := 7, constantValue := 0 }, { name := "twoToTheDoubleScaleDown", type := .double, accessFlags := 8, slot := 8, constantValue := 0 }, { name := "$assertionsDisabled", type := .boolean, accessFlags := 4120, slot := 9, constantValue := 0 }]
  methods := #[k2m0, k2m1]
  instanceTypes := #[]
  staticTypes := #[.double, .double, .double, .double, .double, .long, .long, .double, .double, .boolean]
  resolved := Array.replicate 460 none
  statics := none }

def pool3 : Array CpInfo := pool [(1, .class_ 2), (0, u "java/io/Serializable"), (0, .class_ 4), (0, u "java/lang/Object")] 2

/-- java/io/Serializable -/
def k3 : Class := { plain "java/io/Serializable" (some 0) with
  accessFlags := 1537
  interfaces := #[]
  cf := some (fileOf pool3 1 #[] #[] 1537 3 #[] #[])
  fields := #[]
  methods := #[]
  instanceTypes := #[]
  staticTypes := #[]
  resolved := Array.replicate 7 none
  statics := none }

def pool4 : Array CpInfo := pool [(1, .class_ 2), (0, u "java/lang/Comparable"), (0, .class_ 4), (0, u "java/lang/Object")] 7

/-- java/lang/Comparable -/
def k4 : Class := { plain "java/lang/Comparable" (some 0) with
  accessFlags := 1537
  interfaces := #[]
  cf := some (fileOf pool4 1 #[] #[] 1537 3 #[] #[])
  fields := #[]
  methods := #[]
  instanceTypes := #[]
  staticTypes := #[]
  resolved := Array.replicate 12 none
  statics := none }

def pool5 : Array CpInfo := pool [(2, .class_ 4), (1, u "java/lang/CharSequence"), (42, .class_ 48), (0, u "java/lang/CharSequence$1CodePointIterator"), (10, .class_ 60), (0, u "java/lang/CharSequence$1CharIterator"), (5, .class_ 67), (0, u "java/lang/Object")] 63

/-- java/lang/CharSequence -/
def k5 : Class := { plain "java/lang/CharSequence" (some 0) with
  accessFlags := 1537
  interfaces := #[]
  cf := some (fileOf pool5 2 #[.nestMembers #[47, 59]] #[] 1537 66 #[] #[])
  fields := #[]
  methods := #[]
  instanceTypes := #[]
  staticTypes := #[]
  resolved := Array.replicate 131 none
  statics := none }

def pool6 : Array CpInfo := pool [(1, .class_ 2), (0, u "java/lang/constant/Constable"), (0, .class_ 4), (0, u "java/lang/Object")] 6

/-- java/lang/constant/Constable -/
def k6 : Class := { plain "java/lang/constant/Constable" (some 0) with
  accessFlags := 1537
  interfaces := #[]
  cf := some (fileOf pool6 1 #[] #[] 1537 3 #[] #[])
  fields := #[]
  methods := #[]
  instanceTypes := #[]
  staticTypes := #[]
  resolved := Array.replicate 11 none
  statics := none }

def pool7 : Array CpInfo := pool [(1, .class_ 2), (0, u "java/lang/constant/ConstantDesc"), (0, .class_ 4), (0, u "java/lang/Object")] 32

/-- java/lang/constant/ConstantDesc -/
def k7 : Class := { plain "java/lang/constant/ConstantDesc" (some 0) with
  accessFlags := 1537
  interfaces := #[]
  cf := some (fileOf pool7 1 #[] #[] 1537 3 #[] #[])
  fields := #[]
  methods := #[]
  instanceTypes := #[]
  staticTypes := #[]
  resolved := Array.replicate 37 none
  statics := none }

def pool8 : Array CpInfo := pool [(1, .methodref 2 3), (0, .class_ 4), (0, .nameAndType 5 6), (0, u "java/lang/Object"), (0, u "<init>"), (0, u "()V"), (0, .string 8), (0, u ""), (0, .fieldref 10 11), (0, .class_ 12), (0, .nameAndType 13 14), (0, u "java/lang/String"), (0, u "value"), (0, u "[B"), (0, .fieldref 10 16), (0, .nameAndType 17 18), (0, u "coder"), (0, u "B"), (2, u "hash"), (0, u "I"), (2, u "hashIsZero"), (0, u "Z"), (0, .methodref 10 28), (0, .nameAndType 5 29), (0, u "([CIILjava/lang/Void;)V"), (8, .fieldref 10 39), (0, .nameAndType 40 26), (0, u "COMPACT_STRINGS"), (1, .class_ 44), (1, u "java/lang/StringUTF16"), (0, u "compress"), (1, .methodref 42 48), (0, .nameAndType 49 50), (0, u "coderFromArrayLen"), (0, u "([BI)B"), (56, .class_ 109), (1, u "java/lang/StringLatin1"), (32, u "()Z"), (34, .methodref 42 178), (0, .nameAndType 45 179), (0, u "([CII)[B"), (154, u "()I"), (0, .methodref 10 336), (0, .nameAndType 17 337), (0, u "()B"), (25, u "([BI)C"), (27, u "(II)V"), (35, u "(I)C"), (64, .methodref 10 493), (0, .nameAndType 494 142), (0, u "isLatin1"), (0, .methodref 107 496), (0, .nameAndType 497 363), (0, u "charAt"), (0, .methodref 42 496), (2, u "checkIndex"), (5, u "length"), (67, .class_ 576), (0, u "java/lang/CharSequence"), (22, u "CASE_INSENSITIVE_ORDER"), (0, u "Ljava/util/Comparator;"), (409, u "([C)V"), (42, .fieldref 1054 1055), (0, .class_ 1056), (0, .nameAndType 1057 1058), (0, u "jdk/internal/util/Preconditions"), (0, u "SIOOBE_FORMATTER"), (0, u "Ljava/util/function/BiFunction;"), (0, .methodref 1054 1060), (0, .nameAndType 501 1061), (0, u "(IILjava/util/function/BiFunction;)I"), (39, u "serialPersistentFields"), (0, u "[Ljava/io/ObjectStreamField;"), (0, .class_ 1104), (0, u "java/lang/String$CaseInsensitiveComparator"), (1, .class_ 1107), (0, u "java/io/Serializable"), (0, .class_ 1109), (0, u "java/lang/Comparable"), (0, .class_ 1111), (0, u "java/lang/constant/Constable"), (0, .class_ 1113), (0, u "java/lang/constant/ConstantDesc"), (2, u "serialVersionUID"), (0, u "J"), (3, u "REPL"), (0, u "C"), (2, u "LATIN1"), (1, u "UTF16")] 323

def k8m0 : Method := { name := "<init>", desc := "()V", sig := { parameters := [], returnType := none }, accessFlags := 1, code := none }
def k8c1 : Code := { maxStack := 5, maxLocals := 2, code := jdk_42_method_3_code, exceptionTable := #[], attributes := #[] }
def k8m1 : Method := { name := "<init>", desc := "([C)V", sig := { parameters := [(.array .char)], returnType := none }, accessFlags := 1, code := some k8c1 }
def k8c2 : Code := { maxStack := 2, maxLocals := 1, code := jdk_42_method_54_code, exceptionTable := #[], attributes := #[] }
def k8m2 : Method := { name := "length", desc := "()I", sig := { parameters := [], returnType := some .int }, accessFlags := 1, code := some k8c2 }
def k8c3 : Code := { maxStack := 2, maxLocals := 2, code := jdk_42_method_56_code, exceptionTable := #[], attributes := #[] }
def k8m3 : Method := { name := "charAt", desc := "(I)C", sig := { parameters := [.int], returnType := some .char }, accessFlags := 1, code := some k8c3 }
def k8c4 : Code := { maxStack := 4, maxLocals := 6, code := jdk_42_method_149_code, exceptionTable := #[], attributes := #[] }
def k8m4 : Method := { name := "<init>", desc := "([CIILjava/lang/Void;)V", sig := { parameters := [(.array .char), .int, .int, (.object "java/lang/Void")], returnType := none }, accessFlags := 2, code := some k8c4 }
def k8c5 : Code := { maxStack := 1, maxLocals := 1, code := jdk_42_method_152_code, exceptionTable := #[], attributes := #[] }
def k8m5 : Method := { name := "coder", desc := "()B", sig := { parameters := [], returnType := some .byte }, accessFlags := 0, code := some k8c5 }
def k8c6 : Code := { maxStack := 1, maxLocals := 1, code := jdk_42_method_154_code, exceptionTable := #[], attributes := #[] }
def k8m6 : Method := { name := "isLatin1", desc := "()Z", sig := { parameters := [], returnType := some .boolean }, accessFlags := 0, code := some k8c6 }
def k8c7 : Code := { maxStack := 3, maxLocals := 2, code := jdk_42_method_155_code, exceptionTable := #[], attributes := #[] }
def k8m7 : Method := { name := "checkIndex", desc := "(II)V", sig := { parameters := [.int, .int], returnType := none }, accessFlags := 8, code := some k8c7 }
/-- java/lang/String -/
def k8 : Class := { plain "java/lang/String" (some 0) with
  accessFlags := 49
  interfaces := #[3, 4, 5, 6, 7]
  cf := some (fileOf pool8 10 #[.nestMembers #[1103]] #[{ accessFlags := 1, nameIndex := 5, descriptorIndex := 6, attributes := #[] }, { accessFlags := 1, nameIndex := 5, descriptorIndex := 1010, attributes := #[] }, { accessFlags := 1, nameIndex := 507, descriptorIndex := 334, attributes := #[] }, { accessFlags := 1, nameIndex := 497, descriptorIndex := 427, attributes := #[] }, { accessFlags := 2, nameIndex := 5, descriptorIndex := 29, attributes := #[] }, { accessFlags := 0, nameIndex := 17, descriptorIndex := 337, attributes := #[] }, { accessFlags := 0, nameIndex := 494, descriptorIndex := 142, attributes := #[] }, { accessFlags := 8, nameIndex := 501, descriptorIndex := 391, attributes := #[] }] 49 2 #[1106, 1108, 575, 1110, 1112] #[{ accessFlags := 18, nameIndex := 13, descriptorIndex := 14, attributes := #[] }, { accessFlags := 18, nameIndex := 17, descriptorIndex := 18, attributes := #[] }, { accessFlags := 2, nameIndex := 21, descriptorIndex := 22, attributes := #[] }, { accessFlags := 2, nameIndex := 25, descriptorIndex := 26, attributes := #[] }, { accessFlags := 26, nameIndex := 1116, descriptorIndex := 1117, attributes := #[] }, { accessFlags := 24, nameIndex := 40, descriptorIndex := 26, attributes := #[] }, { accessFlags := 26, nameIndex := 1101, descriptorIndex := 1102, attributes := #[] }, { accessFlags := 26, nameIndex := 1121, descriptorIndex := 1122, attributes := #[] }, { accessFlags := 25, nameIndex := 599, descriptorIndex := 600, attributes := #[] }, { accessFlags := 24, nameIndex := 1125, descriptorIndex := 18, attributes := #[] }, { accessFlags := 24, nameIndex := 1127, descriptorIndex := 18, attributes := #[] }])
  fields := #[{ name := "value", type := (.array .byte), accessFlags := 18, slot := 0, constantValue := 0 }, { name := "coder", type := .byte, accessFlags := 18, slot := 1, constantValue := 0 }, { name := "hash", type := .int, accessFlags := 2, slot := 2, constantValue := 0 }, { name := "hashIsZero", type := .boolean, accessFlags := 2, slot := 3, constantValue := 0 }, { name := "serialVersionUID", type := .long, accessFlags := 26, slot := 0, constantValue := 0 }, { name := "COMPACT_STRINGS", type := .boolean, accessFlags := 24, slot := 1, constantValue := 0 }, { name := "serialPersistentFields", type := (.array (.object "java/io/ObjectStreamField")), accessFlags := 26, slot := 2, constantValue := 0 }, { name := "REPL", type := .char, accessFlags := 26, slot := 3, constantValue := 0 }, { name := "CASE_INSENSITIVE_ORDER", type := (.object "java/util/Comparator"), accessFlags := 25, slot := 4, constantValue := 0 }, { name := "LATIN1", type := .byte, accessFlags := 24, slot := 5, constantValue := 0 }, { name := "UTF16", type := .byte, accessFlags := 24, slot := 6, constantValue := 0 }]
  methods := #[k8m0, k8m1, k8m2, k8m3, k8m4, k8m5, k8m6, k8m7]
  instanceTypes := #[(.array .byte), .byte, .int, .boolean]
  staticTypes := #[.long, .boolean, (.array (.object "java/io/ObjectStreamField")), .char, (.object "java/util/Comparator"), .byte, .byte]
  resolved := Array.replicate 1451 none
  statics := some 0 }

def pool9 : Array CpInfo := pool [(1, .methodref 2 3), (0, .class_ 4), (0, .nameAndType 5 6), (0, u "java/lang/Object"), (0, u "<init>"), (0, u "()V"), (0, .fieldref 8 9), (0, .class_ 10), (0, .nameAndType 11 12), (0, u "com/example/pathloom/pathloom/web/MediaType$Reader"), (0, u "text"), (0, u "Ljava/lang/String;"), (0, .fieldref 8 14), (0, .nameAndType 15 16), (0, u "position"), (0, u "I"), (0, .methodref 18 19), (0, .class_ 20), (0, .nameAndType 21 22), (0, u "java/lang/String"), (0, u "length"), (0, u "()I"), (0, .methodref 8 24), (0, .nameAndType 25 26), (0, u "atEnd"), (0, u "()Z"), (0, .methodref 18 28), (0, .nameAndType 29 30), (0, u "charAt"), (0, u "(I)C"), (0, .methodref 8 32), (0, .nameAndType 33 34), (0, u "at"), (0, u "(C)Z"), (11, u "take"), (14, u "(Ljava/lang/String;)V"), (3, u "skipSpace"), (5, .class_ 72), (0, u "com/example/pathloom/pathloom/web/MediaType")] 2

def k9c0 : Code := { maxStack := 2, maxLocals := 2, code := prog_35_method_1_code, exceptionTable := #[], attributes := #[] }
def k9m0 : Method := { name := "<init>", desc := "(Ljava/lang/String;)V", sig := { parameters := [(.object "java/lang/String")], returnType := none }, accessFlags := 0, code := some k9c0 }
def k9c1 : Code := { maxStack := 2, maxLocals := 1, code := prog_35_method_2_code, exceptionTable := #[], attributes := #[] }
def k9m1 : Method := { name := "atEnd", desc := "()Z", sig := { parameters := [], returnType := some .boolean }, accessFlags := 0, code := some k9c1 }
def k9c2 : Code := { maxStack := 3, maxLocals := 1, code := prog_35_method_3_code, exceptionTable := #[], attributes := #[] }
def k9m2 : Method := { name := "skipSpace", desc := "()Z", sig := { parameters := [], returnType := some .boolean }, accessFlags := 0, code := some k9c2 }
def k9c3 : Code := { maxStack := 2, maxLocals := 2, code := prog_35_method_4_code, exceptionTable := #[], attributes := #[] }
def k9m3 : Method := { name := "at", desc := "(C)Z", sig := { parameters := [.char], returnType := some .boolean }, accessFlags := 0, code := some k9c3 }
def k9c4 : Code := { maxStack := 3, maxLocals := 3, code := prog_35_method_5_code, exceptionTable := #[], attributes := #[] }
def k9m4 : Method := { name := "take", desc := "(C)Z", sig := { parameters := [.char], returnType := some .boolean }, accessFlags := 0, code := some k9c4 }
/-- com/example/pathloom/pathloom/web/MediaType$Reader -/
def k9 : Class := { plain "com/example/pathloom/pathloom/web/MediaType$Reader" (some 0) with
  accessFlags := 48
  interfaces := #[]
  cf := some (fileOf pool9 8 #[.nestHost 71] #[{ accessFlags := 0, nameIndex := 5, descriptorIndex := 61, attributes := #[] }, { accessFlags := 0, nameIndex := 25, descriptorIndex := 26, attributes := #[] }, { accessFlags := 0, nameIndex := 65, descriptorIndex := 26, attributes := #[] }, { accessFlags := 0, nameIndex := 33, descriptorIndex := 34, attributes := #[] }, { accessFlags := 0, nameIndex := 46, descriptorIndex := 34, attributes := #[] }] 48 2 #[] #[{ accessFlags := 18, nameIndex := 11, descriptorIndex := 12, attributes := #[] }, { accessFlags := 2, nameIndex := 15, descriptorIndex := 16, attributes := #[] }])
  fields := #[{ name := "text", type := (.object "java/lang/String"), accessFlags := 18, slot := 0, constantValue := 0 }, { name := "position", type := .int, accessFlags := 2, slot := 1, constantValue := 0 }]
  methods := #[k9m0, k9m1, k9m2, k9m3, k9m4]
  instanceTypes := #[(.object "java/lang/String"), .int]
  staticTypes := #[]
  resolved := Array.replicate 75 none
  statics := none }

def pool10 : Array CpInfo := pool [(3, .class_ 4), (0, u "java/lang/String"), (1, .class_ 8), (1, u "java/lang/Object"), (0, u "<init>"), (0, u "()V"), (0, .methodref 12 13), (0, .class_ 14), (0, .nameAndType 15 16), (0, u "java/lang/StringUTF16"), (0, u "newBytesLength"), (0, u "(I)I"), (3, .integer 1073741823), (23, .fieldref 12 45), (0, .nameAndType 46 47), (0, u "$assertionsDisabled"), (0, u "Z"), (0, .methodref 12 49), (0, .nameAndType 50 51), (0, u "length"), (0, u "([B)I"), (7, .fieldref 12 60), (0, .nameAndType 61 62), (0, u "HI_BYTE_SHIFT"), (0, u "I"), (0, .fieldref 12 64), (0, .nameAndType 65 62), (0, u "LO_BYTE_SHIFT"), (1, .methodref 12 68), (0, .nameAndType 69 70), (0, u "checkIndex"), (0, u "(I[B)V"), (0, .methodref 12 72), (0, .nameAndType 73 74), (0, u "getChar"), (0, u "([BI)C"), (32, .methodref 12 108), (0, .nameAndType 109 110), (0, u "newBytesFor"), (0, u "(I)[B"), (0, .methodref 12 112), (0, .nameAndType 113 114), (0, u "putChar"), (0, u "([BII)V"), (0, .methodref 12 116), (0, .nameAndType 117 118), (0, u "compress"), (0, u "([CI[BII)I"), (0, .methodref 12 120), (0, .nameAndType 121 122), (0, u "toBytes"), (0, u "([CII)[B"), (138, u "coderFromArrayLen"), (0, u "([BI)B"), (106, .class_ 371), (1, u "java/lang/StringUTF16$LinesSpliterator"), (20, u "charAt"), (21, .methodref 3 415), (0, .nameAndType 69 416), (0, u "(II)V"), (13, u "MAX_LENGTH"), (196, .class_ 628), (0, u "java/lang/StringUTF16$CodePointsSpliterator"), (0, .class_ 630), (0, u "java/lang/StringUTF16$CharsSpliterator")] 4

def k10m0 : Method := { name := "<init>", desc := "()V", sig := { parameters := [], returnType := none }, accessFlags := 0, code := none }
def k10c1 : Code := { maxStack := 1, maxLocals := 1, code := jdk_52_method_2_code, exceptionTable := #[], attributes := #[] }
def k10m1 : Method := { name := "newBytesFor", desc := "(I)[B", sig := { parameters := [.int], returnType := some (.array .byte) }, accessFlags := 9, code := some k10c1 }
def k10c2 : Code := { maxStack := 4, maxLocals := 1, code := jdk_52_method_3_code, exceptionTable := #[], attributes := #[] }
def k10m2 : Method := { name := "newBytesLength", desc := "(I)I", sig := { parameters := [.int], returnType := some .int }, accessFlags := 9, code := some k10c2 }
def k10c3 : Code := { maxStack := 4, maxLocals := 3, code := jdk_52_method_4_code, exceptionTable := #[], attributes := #[] }
def k10m3 : Method := { name := "putChar", desc := "([BII)V", sig := { parameters := [(.array .byte), .int, .int], returnType := none }, accessFlags := 8, code := some k10c3 }
def k10c4 : Code := { maxStack := 3, maxLocals := 2, code := jdk_52_method_5_code, exceptionTable := #[], attributes := #[] }
def k10m4 : Method := { name := "getChar", desc := "([BI)C", sig := { parameters := [(.array .byte), .int], returnType := some .char }, accessFlags := 8, code := some k10c4 }
def k10c5 : Code := { maxStack := 2, maxLocals := 1, code := jdk_52_method_6_code, exceptionTable := #[], attributes := #[] }
def k10m5 : Method := { name := "length", desc := "([B)I", sig := { parameters := [(.array .byte)], returnType := some .int }, accessFlags := 9, code := some k10c5 }
def k10c6 : Code := { maxStack := 4, maxLocals := 5, code := jdk_52_method_14_code, exceptionTable := #[], attributes := #[] }
def k10m6 : Method := { name := "toBytes", desc := "([CII)[B", sig := { parameters := [(.array .char), .int, .int], returnType := some (.array .byte) }, accessFlags := 9, code := some k10c6 }
def k10c7 : Code := { maxStack := 2, maxLocals := 2, code := jdk_52_method_15_code, exceptionTable := #[], attributes := #[] }
def k10m7 : Method := { name := "coderFromArrayLen", desc := "([BI)B", sig := { parameters := [(.array .byte), .int], returnType := some .byte }, accessFlags := 8, code := some k10c7 }
def k10c8 : Code := { maxStack := 5, maxLocals := 6, code := jdk_52_method_16_code, exceptionTable := #[], attributes := #[] }
def k10m8 : Method := { name := "compress", desc := "([CII)[B", sig := { parameters := [(.array .char), .int, .int], returnType := some (.array .byte) }, accessFlags := 9, code := some k10c8 }
def k10c9 : Code := { maxStack := 3, maxLocals := 7, code := jdk_52_method_21_code, exceptionTable := #[], attributes := #[] }
def k10m9 : Method := { name := "compress", desc := "([CI[BII)I", sig := { parameters := [(.array .char), .int, (.array .byte), .int, .int], returnType := some .int }, accessFlags := 9, code := some k10c9 }
def k10c10 : Code := { maxStack := 2, maxLocals := 2, code := jdk_52_method_83_code, exceptionTable := #[], attributes := #[] }
def k10m10 : Method := { name := "charAt", desc := "([BI)C", sig := { parameters := [(.array .byte), .int], returnType := some .char }, accessFlags := 9, code := some k10c10 }
def k10c11 : Code := { maxStack := 2, maxLocals := 2, code := jdk_52_method_91_code, exceptionTable := #[], attributes := #[] }
def k10m11 : Method := { name := "checkIndex", desc := "(I[B)V", sig := { parameters := [.int, (.array .byte)], returnType := none }, accessFlags := 9, code := some k10c11 }
/-- java/lang/StringUTF16 -/
def k10 : Class := { plain "java/lang/StringUTF16" (some 0) with
  accessFlags := 48
  interfaces := #[]
  cf := some (fileOf pool10 12 #[.nestMembers #[627, 629, 369]] #[{ accessFlags := 0, nameIndex := 9, descriptorIndex := 10, attributes := #[] }, { accessFlags := 9, nameIndex := 109, descriptorIndex := 110, attributes := #[] }, { accessFlags := 9, nameIndex := 15, descriptorIndex := 16, attributes := #[] }, { accessFlags := 8, nameIndex := 113, descriptorIndex := 114, attributes := #[] }, { accessFlags := 8, nameIndex := 73, descriptorIndex := 74, attributes := #[] }, { accessFlags := 9, nameIndex := 50, descriptorIndex := 51, attributes := #[] }, { accessFlags := 9, nameIndex := 121, descriptorIndex := 122, attributes := #[] }, { accessFlags := 8, nameIndex := 261, descriptorIndex := 262, attributes := #[] }, { accessFlags := 9, nameIndex := 117, descriptorIndex := 122, attributes := #[] }, { accessFlags := 9, nameIndex := 117, descriptorIndex := 118, attributes := #[] }, { accessFlags := 9, nameIndex := 392, descriptorIndex := 74, attributes := #[] }, { accessFlags := 9, nameIndex := 69, descriptorIndex := 70, attributes := #[] }] 48 6 #[] #[{ accessFlags := 26, nameIndex := 61, descriptorIndex := 62, attributes := #[] }, { accessFlags := 26, nameIndex := 65, descriptorIndex := 62, attributes := #[] }, { accessFlags := 24, nameIndex := 430, descriptorIndex := 62, attributes := #[] }, { accessFlags := 4120, nameIndex := 46, descriptorIndex := 47, attributes := #[] }])
  fields := #[{ name := "HI_BYTE_SHIFT", type := .int, accessFlags := 26, slot := 0, constantValue := 0 }, { name := "LO_BYTE_SHIFT", type := .int, accessFlags := 26, slot := 1, constantValue := 0 }, { name := "MAX_LENGTH", type := .int, accessFlags := 24, slot := 2, constantValue := 0 }, { name := "$assertionsDisabled", type := .boolean, accessFlags := 4120, slot := 3, constantValue := 0 }]
  methods := #[k10m0, k10m1, k10m2, k10m3, k10m4, k10m5, k10m6, k10m7, k10m8, k10m9, k10m10, k10m11]
  instanceTypes := #[]
  staticTypes := #[.int, .int, .int, .boolean]
  resolved := Array.replicate 635 none
  statics := some 1 }

def pool11 : Array CpInfo := pool [(1, .class_ 2), (0, u "java/lang/String"), (1, .class_ 6), (1, u "java/lang/Object"), (0, u "<init>"), (0, u "()V"), (0, .methodref 1 10), (0, .nameAndType 11 12), (0, u "checkIndex"), (0, u "(II)V"), (1, .class_ 16), (1, u "java/lang/StringLatin1"), (36, u "([BI)C"), (67, u "$assertionsDisabled"), (0, u "Z"), (98, .class_ 223), (1, u "java/lang/StringLatin1$LinesSpliterator"), (28, u "charAt"), (137, .class_ 391), (0, u "java/lang/StringLatin1$CharsSpliterator")] 3

def k11m0 : Method := { name := "<init>", desc := "()V", sig := { parameters := [], returnType := none }, accessFlags := 0, code := none }
def k11c1 : Code := { maxStack := 2, maxLocals := 2, code := jdk_43_method_2_code, exceptionTable := #[], attributes := #[] }
def k11m1 : Method := { name := "charAt", desc := "([BI)C", sig := { parameters := [(.array .byte), .int], returnType := some .char }, accessFlags := 9, code := some k11c1 }
/-- java/lang/StringLatin1 -/
def k11 : Class := { plain "java/lang/StringLatin1" (some 0) with
  accessFlags := 48
  interfaces := #[]
  cf := some (fileOf pool11 14 #[.nestMembers #[390, 221]] #[{ accessFlags := 0, nameIndex := 7, descriptorIndex := 8, attributes := #[] }, { accessFlags := 9, nameIndex := 252, descriptorIndex := 53, attributes := #[] }] 48 4 #[] #[{ accessFlags := 4120, nameIndex := 121, descriptorIndex := 122, attributes := #[] }])
  fields := #[{ name := "$assertionsDisabled", type := .boolean, accessFlags := 4120, slot := 0, constantValue := 0 }]
  methods := #[k11m0, k11m1]
  instanceTypes := #[]
  staticTypes := #[.boolean]
  resolved := Array.replicate 395 none
  statics := none }

def pool12 : Array CpInfo := pool [(2, .class_ 4), (1, u "java/lang/Object"), (0, u "<init>"), (0, u "()V"), (17, .class_ 26), (1, u "jdk/internal/util/Preconditions"), (6, u "checkIndex"), (21, .class_ 56), (0, u "jdk/internal/util/Preconditions$4"), (57, .class_ 115), (0, u "jdk/internal/util/Preconditions$1"), (7, u "SIOOBE_FORMATTER"), (0, u "Ljava/util/function/BiFunction;"), (0, .class_ 126), (0, u "jdk/internal/util/Preconditions$2"), (3, u "AIOOBE_FORMATTER"), (0, .class_ 132), (0, u "jdk/internal/util/Preconditions$3"), (3, u "IOOBE_FORMATTER"), (41, u "(IILjava/util/function/BiFunction;)I")] 15

def k12m0 : Method := { name := "<init>", desc := "()V", sig := { parameters := [], returnType := none }, accessFlags := 1, code := none }
def k12c1 : Code := { maxStack := 3, maxLocals := 3, code := jdk_41_method_11_code, exceptionTable := #[], attributes := #[] }
def k12m1 : Method := { name := "checkIndex", desc := "(IILjava/util/function/BiFunction;)I", sig := { parameters := [.int, .int, (.object "java/util/function/BiFunction")], returnType := some .int }, accessFlags := 9, code := some k12c1 }
/-- jdk/internal/util/Preconditions -/
def k12 : Class := { plain "jdk/internal/util/Preconditions" (some 0) with
  accessFlags := 33
  interfaces := #[]
  cf := some (fileOf pool12 24 #[.nestMembers #[55, 131, 125, 114]] #[{ accessFlags := 1, nameIndex := 5, descriptorIndex := 6, attributes := #[] }, { accessFlags := 9, nameIndex := 33, descriptorIndex := 178, attributes := #[] }] 33 2 #[] #[{ accessFlags := 25, nameIndex := 123, descriptorIndex := 124, attributes := #[] }, { accessFlags := 25, nameIndex := 130, descriptorIndex := 124, attributes := #[] }, { accessFlags := 25, nameIndex := 136, descriptorIndex := 124, attributes := #[] }])
  fields := #[{ name := "SIOOBE_FORMATTER", type := (.object "java/util/function/BiFunction"), accessFlags := 25, slot := 0, constantValue := 0 }, { name := "AIOOBE_FORMATTER", type := (.object "java/util/function/BiFunction"), accessFlags := 25, slot := 1, constantValue := 0 }, { name := "IOOBE_FORMATTER", type := (.object "java/util/function/BiFunction"), accessFlags := 25, slot := 2, constantValue := 0 }]
  methods := #[k12m0, k12m1]
  instanceTypes := #[]
  staticTypes := #[(.object "java/util/function/BiFunction"), (.object "java/util/function/BiFunction"), (.object "java/util/function/BiFunction")]
  resolved := Array.replicate 194 none
  statics := some 2 }

def pool13 : Array CpInfo := pool [(9, u "<init>"), (6, .class_ 18), (1, u "java/lang/Object"), (0, u "()V"), (1, .class_ 23), (1, u "jdk/internal/util/ArraysSupport"), (0, u "LOG2_ARRAY_LONG_INDEX_SCALE"), (0, u "I"), (2, u "U"), (0, u "Ljdk/internal/misc/Unsafe;"), (8, u "BIG_ENDIAN"), (0, u "Z"), (8, u "LOG2_BYTE_BIT_SIZE"), (4, u "LOG2_ARRAY_INT_INDEX_SCALE"), (54, u "JLA"), (0, u "Ljdk/internal/access/JavaLangAccess;"), (11, u "LOG2_ARRAY_BOOLEAN_INDEX_SCALE"), (9, u "LOG2_ARRAY_BYTE_INDEX_SCALE"), (5, u "LOG2_ARRAY_CHAR_INDEX_SCALE"), (5, u "LOG2_ARRAY_SHORT_INDEX_SCALE"), (18, u "LOG2_ARRAY_FLOAT_INDEX_SCALE"), (24, u "LOG2_ARRAY_DOUBLE_INDEX_SCALE"), (89, u "T_BOOLEAN"), (2, u "T_CHAR"), (1, u "T_FLOAT"), (1, u "T_DOUBLE"), (1, u "T_BYTE"), (1, u "T_SHORT"), (1, u "T_INT"), (1, u "T_LONG"), (1, u "SOFT_MAX_ARRAY_LENGTH")] 83

def k13m0 : Method := { name := "<init>", desc := "()V", sig := { parameters := [], returnType := none }, accessFlags := 2, code := none }
/-- jdk/internal/util/ArraysSupport -/
def k13 : Class := { plain "jdk/internal/util/ArraysSupport" (some 0) with
  accessFlags := 33
  interfaces := #[]
  cf := some (fileOf pool13 21 #[] #[{ accessFlags := 2, nameIndex := 9, descriptorIndex := 19, attributes := #[] }] 33 16 #[] #[{ accessFlags := 24, nameIndex := 28, descriptorIndex := 29, attributes := #[] }, { accessFlags := 26, nameIndex := 38, descriptorIndex := 39, attributes := #[] }, { accessFlags := 25, nameIndex := 121, descriptorIndex := 25, attributes := #[] }, { accessFlags := 25, nameIndex := 131, descriptorIndex := 25, attributes := #[] }, { accessFlags := 25, nameIndex := 137, descriptorIndex := 25, attributes := #[] }, { accessFlags := 25, nameIndex := 143, descriptorIndex := 25, attributes := #[] }, { accessFlags := 25, nameIndex := 53, descriptorIndex := 25, attributes := #[] }, { accessFlags := 25, nameIndex := 24, descriptorIndex := 25, attributes := #[] }, { accessFlags := 25, nameIndex := 162, descriptorIndex := 25, attributes := #[] }, { accessFlags := 25, nameIndex := 187, descriptorIndex := 25, attributes := #[] }, { accessFlags := 26, nameIndex := 48, descriptorIndex := 25, attributes := #[] }, { accessFlags := 25, nameIndex := 277, descriptorIndex := 25, attributes := #[] }, { accessFlags := 25, nameIndex := 280, descriptorIndex := 25, attributes := #[] }, { accessFlags := 25, nameIndex := 282, descriptorIndex := 25, attributes := #[] }, { accessFlags := 25, nameIndex := 284, descriptorIndex := 25, attributes := #[] }, { accessFlags := 25, nameIndex := 286, descriptorIndex := 25, attributes := #[] }, { accessFlags := 25, nameIndex := 288, descriptorIndex := 25, attributes := #[] }, { accessFlags := 25, nameIndex := 290, descriptorIndex := 25, attributes := #[] }, { accessFlags := 25, nameIndex := 292, descriptorIndex := 25, attributes := #[] }, { accessFlags := 26, nameIndex := 108, descriptorIndex := 109, attributes := #[] }, { accessFlags := 25, nameIndex := 294, descriptorIndex := 25, attributes := #[] }])
  fields := #[{ name := "U", type := (.object "jdk/internal/misc/Unsafe"), accessFlags := 24, slot := 0, constantValue := 0 }, { name := "BIG_ENDIAN", type := .boolean, accessFlags := 26, slot := 1, constantValue := 0 }, { name := "LOG2_ARRAY_BOOLEAN_INDEX_SCALE", type := .int, accessFlags := 25, slot := 2, constantValue := 0 }, { name := "LOG2_ARRAY_BYTE_INDEX_SCALE", type := .int, accessFlags := 25, slot := 3, constantValue := 0 }, { name := "LOG2_ARRAY_CHAR_INDEX_SCALE", type := .int, accessFlags := 25, slot := 4, constantValue := 0 }, { name := "LOG2_ARRAY_SHORT_INDEX_SCALE", type := .int, accessFlags := 25, slot := 5, constantValue := 0 }, { name := "LOG2_ARRAY_INT_INDEX_SCALE", type := .int, accessFlags := 25, slot := 6, constantValue := 0 }, { name := "LOG2_ARRAY_LONG_INDEX_SCALE", type := .int, accessFlags := 25, slot := 7, constantValue := 0 }, { name := "LOG2_ARRAY_FLOAT_INDEX_SCALE", type := .int, accessFlags := 25, slot := 8, constantValue := 0 }, { name := "LOG2_ARRAY_DOUBLE_INDEX_SCALE", type := .int, accessFlags := 25, slot := 9, constantValue := 0 }, { name := "LOG2_BYTE_BIT_SIZE", type := .int, accessFlags := 26, slot := 10, constantValue := 0 }, { name := "T_BOOLEAN", type := .int, accessFlags := 25, slot := 11, constantValue := 0 }, { name := "T_CHAR", type := .int, accessFlags := 25, slot := 12, constantValue := 0 }, { name := "T_FLOAT", type := .int, accessFlags := 25, slot := 13, constantValue := 0 }, { name := "T_DOUBLE", type := .int, accessFlags := 25, slot := 14, constantValue := 0 }, { name := "T_BYTE", type := .int, accessFlags := 25, slot := 15, constantValue := 0 }, { name := "T_SHORT", type := .int, accessFlags := 25, slot := 16, constantValue := 0 }, { name := "T_INT", type := .int, accessFlags := 25, slot := 17, constantValue := 0 }, { name := "T_LONG", type := .int, accessFlags := 25, slot := 18, constantValue := 0 }, { name := "JLA", type := (.object "jdk/internal/access/JavaLangAccess"), accessFlags := 26, slot := 19, constantValue := 0 }, { name := "SOFT_MAX_ARRAY_LENGTH", type := .int, accessFlags := 25, slot := 20, constantValue := 0 }]
  methods := #[k13m0]
  instanceTypes := #[]
  staticTypes := #[(.object "jdk/internal/misc/Unsafe"), .boolean, .int, .int, .int, .int, .int, .int, .int, .int, .int, .int, .int, .int, .int, .int, .int, .int, .int, (.object "jdk/internal/access/JavaLangAccess"), .int]
  resolved := Array.replicate 378 none
  statics := none }

def pool14 : Array CpInfo := pool [(1, u "java/lang/Cloneable"), (0, .class_ 1), (0, u "java/lang/Object"), (0, .class_ 3)] 3

/-- java/lang/Cloneable -/
def k14 : Class := { plain "java/lang/Cloneable" (some 0) with
  accessFlags := 1537
  interfaces := #[]
  cf := some (fileOf pool14 2 #[] #[] 1537 4 #[] #[])
  fields := #[]
  methods := #[]
  instanceTypes := #[]
  staticTypes := #[]
  resolved := Array.replicate 8 none
  statics := none }

/-- the primitive byte -/
def k15 : Class := { plain "byte" none with kind := .primitive 'B', accessFlags := 0x411 }
/-- [B -/
def k16 : Class := { plain "[B" (some 0) with kind := .array 15 .byte, interfaces := #[14, 3], accessFlags := 1041 }

/-- the primitive char -/
def k17 : Class := { plain "char" none with kind := .primitive 'C', accessFlags := 0x411 }
/-- [C -/
def k18 : Class := { plain "[C" (some 0) with kind := .array 17 .char, interfaces := #[14, 3], accessFlags := 1041 }

/-- the primitive int -/
def k19 : Class := { plain "int" none with kind := .primitive 'I', accessFlags := 0x411 }
/-- [I -/
def k20 : Class := { plain "[I" (some 0) with kind := .array 19 .int, interfaces := #[14, 3], accessFlags := 1041 }

def heap : Heap := #[{ cls := 8, slots := #[.long 0, .int 1, .null, .int 0, .null, .int 0, .int 0], vm := .statics 8 },
  { cls := 10, slots := #[.int 0, .int 8, .int 0, .int 1], vm := .statics 10 },
  { cls := 12, slots := #[.null, .null, .null], vm := .statics 12 }]
def classes : Array Class := #[k0, k1, k2, k3, k4, k5, k6, k7, k8, k9, k10, k11, k12, k13, k14, k15, k16, k17, k18, k19, k20]
def interned : List (Array UInt16 × Addr) := []
def slotsUsed : Nat := 14
def theMethod : MethodId := ⟨1, 4⟩
def args0 : Array Value := #[.int 5, .int 1, .int 3, .int 4, .int 7]
def aboutOver (below : List Frame) : State where
  vm := { classes := classes, interned := interned.toArray }
  heap := heap
  slotsUsed := slotsUsed
  threads := #[{ frames := .invoking theMethod args0 :: below }]
def below0 : List Frame := [.native { method := ⟨0, 0⟩, args := #[] }]
def about1 : State := aboutOver below0
def p0 : Program := .bare "" "" ""
def e0 : Env := launch0.env 0 0 0
theorem w_frames : about1.frames = Frame.invoking theMethod args0 :: below0 := rfl
set_option maxRecDepth 65536 in
theorem w_args : argsFit about1.vm theMethod args0 = true := by decide +kernel
set_option maxRecDepth 65536 in
theorem w_heap : heapFits about1 = true := by decide +kernel
set_option maxRecDepth 65536 in
theorem w_runnable : about1.curStatus? = some .runnable := by decide +kernel
set_option maxRecDepth 65536 in
theorem w_alone : about1.alone = true := by decide +kernel
set_option maxRecDepth 65536 in
theorem w_named : about1.methodNamed? x = some theMethod := by decide +kernel
set_option maxRecDepth 65536 in
theorem w_hears : about1.hears theMethod below0 = true := by decide +kernel
set_option maxRecDepth 65536 in
theorem w_ripe : about1.ripe theMethod args0 below0 = true := by decide +kernel
theorem w_running : about1.status = .running := rfl
set_option maxRecDepth 65536 in
theorem w_room : about1.hasRoom e0.platform room_1 = true :=
  launch0.hasRoom_least _ room_1 (by decide +kernel) (by decide +kernel) (by decide +kernel) (by decide +kernel) (by decide +kernel) (by decide +kernel)
theorem allAtoms_all (ts : List Jvm.Cond) (a : Array Jvm.Value) (st : Jvm.State) : (allAtoms ts).before a st = ts.all (fun c => c.before a st) := by
  induction ts with
  | nil => rfl
  | cons c t ih =>
    show (Jvm.Cond.and c (allAtoms t)).before a st = _
    rw [Jvm.Cond.before_and, ih, List.all_cons]
def words1 : List Jvm.Cond := Jvm.Cond.code x code maxLocals ret :: tables_1
/-- a 'code' word, met by the world's own term for the bytes: nothing is compared byte by byte -/
theorem code_word {y : MethodName} {bytes : ByteArray} {mx : Nat} {rt : Option FieldType} {a : Array Value} {s : State} {m : MethodId} {meth : Method} {c : Code} (h1 : s.methodNamed? y = some m) (h2 : s.vm.method? m = some meth) (h3 : meth.code = some c) (h4 : c.code = bytes)
    (h5 : (c.maxLocals == mx && c.exceptionTable.isEmpty && decide (c.maxStack ≤ mostOperands) && decide (meth.sig.returnType = rt) && !meth.locks && decide (parseMethodDescriptor y.desc = some meth.sig)) = true) : (Jvm.Cond.code y bytes mx rt).before a s = true := by
  simp only [Bool.and_eq_true, beq_iff_eq, Bool.not_eq_true', decide_eq_true_eq] at h5
  obtain ⟨⟨⟨⟨⟨g1, g2⟩, g3⟩, g4⟩, g5⟩, g6⟩ := h5
  simp [Cond.before, Cond.holds, Cond.value, h1, h2, h3, h4, g1, g2, g3, g4, g5, g6]
def isCode : Jvm.Cond → Bool
  | .code _ _ _ _ => true
  | _ => false
theorem all_split {L : List Jvm.Cond} {P : Jvm.Cond → Bool} (h1 : L.all (fun c => isCode c || P c) = true) (h2 : ∀ c ∈ L.filter isCode, P c = true) : L.all P = true := by
  refine List.all_eq_true.mpr fun c hc => ?_
  have h := List.all_eq_true.mp h1 c hc
  rcases Bool.eq_false_or_eq_true (isCode c) with hi | hi
  · exact h2 c (List.mem_filter.mpr ⟨hc, hi⟩)
  · simpa [hi] using h
set_option maxRecDepth 65536 in
theorem w_c0 : (Jvm.Cond.code x code maxLocals ret).before args0 about1 = true := code_word (m := ⟨1, 4⟩) (meth := k1m4) (c := k1c4) (by decide +kernel) rfl rfl rfl (by decide +kernel)
set_option maxRecDepth 65536 in
theorem w_c1 : (Jvm.Cond.code ({ cls := "java/lang/Math", name := "min", desc := "(II)I" } : Jvm.MethodName) jdk_29_method_69_code (2 : Nat) (Option.some Jvm.ClassFile.FieldType.int)).before args0 about1 = true := code_word (m := ⟨2, 1⟩) (meth := k2m1) (c := k2c1) (by decide +kernel) rfl rfl rfl (by decide +kernel)
set_option maxRecDepth 65536 in
theorem w_c2 : (Jvm.Cond.code ({ cls := "com/example/pathloom/pathloom/web/ReaderSkipSpacePinLaw", name := "pick", desc := "(I)C" } : Jvm.MethodName) method_2_code (2 : Nat) (Option.some Jvm.ClassFile.FieldType.char)).before args0 about1 = true := code_word (m := ⟨1, 1⟩) (meth := k1m1) (c := k1c1) (by decide +kernel) rfl rfl rfl (by decide +kernel)
set_option maxRecDepth 65536 in
theorem w_c3 : (Jvm.Cond.code ({ cls := "com/example/pathloom/pathloom/web/ReaderSkipSpacePinLaw", name := "prefix", desc := "([CI)[C" } : Jvm.MethodName) method_4_code (2 : Nat) (Option.some (Jvm.ClassFile.FieldType.array Jvm.ClassFile.FieldType.char))).before args0 about1 = true := code_word (m := ⟨1, 3⟩) (meth := k1m3) (c := k1c3) (by decide +kernel) rfl rfl rfl (by decide +kernel)
set_option maxRecDepth 65536 in
theorem w_c4 : (Jvm.Cond.code ({ cls := "java/lang/String", name := "<init>", desc := "([C)V" } : Jvm.MethodName) jdk_42_method_3_code (2 : Nat) (Option.none : Option Jvm.ClassFile.FieldType)).before args0 about1 = true := code_word (m := ⟨8, 1⟩) (meth := k8m1) (c := k8c1) (by decide +kernel) rfl rfl rfl (by decide +kernel)
set_option maxRecDepth 65536 in
theorem w_c5 : (Jvm.Cond.code ({ cls := "java/lang/String", name := "<init>", desc := "([CIILjava/lang/Void;)V" } : Jvm.MethodName) jdk_42_method_149_code (6 : Nat) (Option.none : Option Jvm.ClassFile.FieldType)).before args0 about1 = true := code_word (m := ⟨8, 4⟩) (meth := k8m4) (c := k8c4) (by decide +kernel) rfl rfl rfl (by decide +kernel)
set_option maxRecDepth 65536 in
theorem w_c6 : (Jvm.Cond.code ({ cls := "java/lang/Object", name := "<init>", desc := "()V" } : Jvm.MethodName) object_method_1_code (1 : Nat) (Option.none : Option Jvm.ClassFile.FieldType)).before args0 about1 = true := code_word (m := ⟨0, 0⟩) (meth := k0m0) (c := k0c0) (by decide +kernel) rfl rfl rfl (by decide +kernel)
set_option maxRecDepth 65536 in
theorem w_c7 : (Jvm.Cond.code ({ cls := "com/example/pathloom/pathloom/web/MediaType$Reader", name := "<init>", desc := "(Ljava/lang/String;)V" } : Jvm.MethodName) prog_35_method_1_code (2 : Nat) (Option.none : Option Jvm.ClassFile.FieldType)).before args0 about1 = true := code_word (m := ⟨9, 0⟩) (meth := k9m0) (c := k9c0) (by decide +kernel) rfl rfl rfl (by decide +kernel)
set_option maxRecDepth 65536 in
theorem w_c8 : (Jvm.Cond.code ({ cls := "com/example/pathloom/pathloom/web/MediaType$Reader", name := "skipSpace", desc := "()Z" } : Jvm.MethodName) prog_35_method_3_code (1 : Nat) (Option.some Jvm.ClassFile.FieldType.boolean)).before args0 about1 = true := code_word (m := ⟨9, 2⟩) (meth := k9m2) (c := k9c2) (by decide +kernel) rfl rfl rfl (by decide +kernel)
set_option maxRecDepth 65536 in
theorem w_c9 : (Jvm.Cond.code ({ cls := "com/example/pathloom/pathloom/web/MediaType$Reader", name := "atEnd", desc := "()Z" } : Jvm.MethodName) prog_35_method_2_code (1 : Nat) (Option.some Jvm.ClassFile.FieldType.boolean)).before args0 about1 = true := code_word (m := ⟨9, 1⟩) (meth := k9m1) (c := k9c1) (by decide +kernel) rfl rfl rfl (by decide +kernel)
set_option maxRecDepth 65536 in
theorem w_c10 : (Jvm.Cond.code ({ cls := "java/lang/String", name := "length", desc := "()I" } : Jvm.MethodName) jdk_42_method_54_code (1 : Nat) (Option.some Jvm.ClassFile.FieldType.int)).before args0 about1 = true := code_word (m := ⟨8, 2⟩) (meth := k8m2) (c := k8c2) (by decide +kernel) rfl rfl rfl (by decide +kernel)
set_option maxRecDepth 65536 in
theorem w_c11 : (Jvm.Cond.code ({ cls := "java/lang/String", name := "coder", desc := "()B" } : Jvm.MethodName) jdk_42_method_152_code (1 : Nat) (Option.some Jvm.ClassFile.FieldType.byte)).before args0 about1 = true := code_word (m := ⟨8, 5⟩) (meth := k8m5) (c := k8c5) (by decide +kernel) rfl rfl rfl (by decide +kernel)
set_option maxRecDepth 65536 in
theorem w_c12 : (Jvm.Cond.code ({ cls := "java/lang/StringUTF16", name := "compress", desc := "([CII)[B" } : Jvm.MethodName) jdk_52_method_16_code (6 : Nat) (Option.some (Jvm.ClassFile.FieldType.array Jvm.ClassFile.FieldType.byte))).before args0 about1 = true := code_word (m := ⟨10, 8⟩) (meth := k10m8) (c := k10c8) (by decide +kernel) rfl rfl rfl (by decide +kernel)
set_option maxRecDepth 65536 in
theorem w_c13 : (Jvm.Cond.code ({ cls := "java/lang/StringUTF16", name := "compress", desc := "([CI[BII)I" } : Jvm.MethodName) jdk_52_method_21_code (7 : Nat) (Option.some Jvm.ClassFile.FieldType.int)).before args0 about1 = true := code_word (m := ⟨10, 9⟩) (meth := k10m9) (c := k10c9) (by decide +kernel) rfl rfl rfl (by decide +kernel)
set_option maxRecDepth 65536 in
theorem w_c14 : (Jvm.Cond.code ({ cls := "java/lang/StringUTF16", name := "coderFromArrayLen", desc := "([BI)B" } : Jvm.MethodName) jdk_52_method_15_code (2 : Nat) (Option.some Jvm.ClassFile.FieldType.byte)).before args0 about1 = true := code_word (m := ⟨10, 7⟩) (meth := k10m7) (c := k10c7) (by decide +kernel) rfl rfl rfl (by decide +kernel)
set_option maxRecDepth 65536 in
theorem w_c15 : (Jvm.Cond.code ({ cls := "com/example/pathloom/pathloom/web/ReaderSkipSpacePinLaw", name := "blank", desc := "(C)Z" } : Jvm.MethodName) method_3_code (1 : Nat) (Option.some Jvm.ClassFile.FieldType.boolean)).before args0 about1 = true := code_word (m := ⟨1, 2⟩) (meth := k1m2) (c := k1c2) (by decide +kernel) rfl rfl rfl (by decide +kernel)
set_option maxRecDepth 65536 in
theorem w_c16 : (Jvm.Cond.code ({ cls := "java/lang/String", name := "charAt", desc := "(I)C" } : Jvm.MethodName) jdk_42_method_56_code (2 : Nat) (Option.some Jvm.ClassFile.FieldType.char)).before args0 about1 = true := code_word (m := ⟨8, 3⟩) (meth := k8m3) (c := k8c3) (by decide +kernel) rfl rfl rfl (by decide +kernel)
set_option maxRecDepth 65536 in
theorem w_c17 : (Jvm.Cond.code ({ cls := "java/lang/String", name := "isLatin1", desc := "()Z" } : Jvm.MethodName) jdk_42_method_154_code (1 : Nat) (Option.some Jvm.ClassFile.FieldType.boolean)).before args0 about1 = true := code_word (m := ⟨8, 6⟩) (meth := k8m6) (c := k8c6) (by decide +kernel) rfl rfl rfl (by decide +kernel)
set_option maxRecDepth 65536 in
theorem w_c18 : (Jvm.Cond.code ({ cls := "java/lang/StringLatin1", name := "charAt", desc := "([BI)C" } : Jvm.MethodName) jdk_43_method_2_code (2 : Nat) (Option.some Jvm.ClassFile.FieldType.char)).before args0 about1 = true := code_word (m := ⟨11, 1⟩) (meth := k11m1) (c := k11c1) (by decide +kernel) rfl rfl rfl (by decide +kernel)
set_option maxRecDepth 65536 in
theorem w_c19 : (Jvm.Cond.code ({ cls := "java/lang/String", name := "checkIndex", desc := "(II)V" } : Jvm.MethodName) jdk_42_method_155_code (2 : Nat) (Option.none : Option Jvm.ClassFile.FieldType)).before args0 about1 = true := code_word (m := ⟨8, 7⟩) (meth := k8m7) (c := k8c7) (by decide +kernel) rfl rfl rfl (by decide +kernel)
set_option maxRecDepth 65536 in
theorem w_c20 : (Jvm.Cond.code ({ cls := "jdk/internal/util/Preconditions", name := "checkIndex", desc := "(IILjava/util/function/BiFunction;)I" } : Jvm.MethodName) jdk_41_method_11_code (3 : Nat) (Option.some Jvm.ClassFile.FieldType.int)).before args0 about1 = true := code_word (m := ⟨12, 1⟩) (meth := k12m1) (c := k12c1) (by decide +kernel) rfl rfl rfl (by decide +kernel)
set_option maxRecDepth 65536 in
theorem w_c21 : (Jvm.Cond.code ({ cls := "com/example/pathloom/pathloom/web/MediaType$Reader", name := "take", desc := "(C)Z" } : Jvm.MethodName) prog_35_method_5_code (3 : Nat) (Option.some Jvm.ClassFile.FieldType.boolean)).before args0 about1 = true := code_word (m := ⟨9, 4⟩) (meth := k9m4) (c := k9c4) (by decide +kernel) rfl rfl rfl (by decide +kernel)
set_option maxRecDepth 65536 in
theorem w_c22 : (Jvm.Cond.code ({ cls := "com/example/pathloom/pathloom/web/MediaType$Reader", name := "at", desc := "(C)Z" } : Jvm.MethodName) prog_35_method_4_code (2 : Nat) (Option.some Jvm.ClassFile.FieldType.boolean)).before args0 about1 = true := code_word (m := ⟨9, 3⟩) (meth := k9m3) (c := k9c3) (by decide +kernel) rfl rfl rfl (by decide +kernel)
set_option maxRecDepth 65536 in
theorem w_c23 : (Jvm.Cond.code ({ cls := "java/lang/StringUTF16", name := "toBytes", desc := "([CII)[B" } : Jvm.MethodName) jdk_52_method_14_code (5 : Nat) (Option.some (Jvm.ClassFile.FieldType.array Jvm.ClassFile.FieldType.byte))).before args0 about1 = true := code_word (m := ⟨10, 6⟩) (meth := k10m6) (c := k10c6) (by decide +kernel) rfl rfl rfl (by decide +kernel)
set_option maxRecDepth 65536 in
theorem w_c24 : (Jvm.Cond.code ({ cls := "java/lang/StringUTF16", name := "newBytesFor", desc := "(I)[B" } : Jvm.MethodName) jdk_52_method_2_code (1 : Nat) (Option.some (Jvm.ClassFile.FieldType.array Jvm.ClassFile.FieldType.byte))).before args0 about1 = true := code_word (m := ⟨10, 1⟩) (meth := k10m1) (c := k10c1) (by decide +kernel) rfl rfl rfl (by decide +kernel)
set_option maxRecDepth 65536 in
theorem w_c25 : (Jvm.Cond.code ({ cls := "java/lang/StringUTF16", name := "newBytesLength", desc := "(I)I" } : Jvm.MethodName) jdk_52_method_3_code (1 : Nat) (Option.some Jvm.ClassFile.FieldType.int)).before args0 about1 = true := code_word (m := ⟨10, 2⟩) (meth := k10m2) (c := k10c2) (by decide +kernel) rfl rfl rfl (by decide +kernel)
set_option maxRecDepth 65536 in
theorem w_c26 : (Jvm.Cond.code ({ cls := "java/lang/StringUTF16", name := "putChar", desc := "([BII)V" } : Jvm.MethodName) jdk_52_method_4_code (3 : Nat) (Option.none : Option Jvm.ClassFile.FieldType)).before args0 about1 = true := code_word (m := ⟨10, 3⟩) (meth := k10m3) (c := k10c3) (by decide +kernel) rfl rfl rfl (by decide +kernel)
set_option maxRecDepth 65536 in
theorem w_c27 : (Jvm.Cond.code ({ cls := "java/lang/StringUTF16", name := "getChar", desc := "([BI)C" } : Jvm.MethodName) jdk_52_method_5_code (2 : Nat) (Option.some Jvm.ClassFile.FieldType.char)).before args0 about1 = true := code_word (m := ⟨10, 4⟩) (meth := k10m4) (c := k10c4) (by decide +kernel) rfl rfl rfl (by decide +kernel)
set_option maxRecDepth 65536 in
theorem w_c28 : (Jvm.Cond.code ({ cls := "java/lang/StringUTF16", name := "charAt", desc := "([BI)C" } : Jvm.MethodName) jdk_52_method_83_code (2 : Nat) (Option.some Jvm.ClassFile.FieldType.char)).before args0 about1 = true := code_word (m := ⟨10, 10⟩) (meth := k10m10) (c := k10c10) (by decide +kernel) rfl rfl rfl (by decide +kernel)
set_option maxRecDepth 65536 in
theorem w_c29 : (Jvm.Cond.code ({ cls := "java/lang/StringUTF16", name := "checkIndex", desc := "(I[B)V" } : Jvm.MethodName) jdk_52_method_91_code (2 : Nat) (Option.none : Option Jvm.ClassFile.FieldType)).before args0 about1 = true := code_word (m := ⟨10, 11⟩) (meth := k10m11) (c := k10c11) (by decide +kernel) rfl rfl rfl (by decide +kernel)
set_option maxRecDepth 65536 in
theorem w_c30 : (Jvm.Cond.code ({ cls := "java/lang/StringUTF16", name := "length", desc := "([B)I" } : Jvm.MethodName) jdk_52_method_6_code (1 : Nat) (Option.some Jvm.ClassFile.FieldType.int)).before args0 about1 = true := code_word (m := ⟨10, 5⟩) (meth := k10m5) (c := k10c5) (by decide +kernel) rfl rfl rfl (by decide +kernel)
def codes1 : List Jvm.Cond := [Jvm.Cond.code x code maxLocals ret, Jvm.Cond.code ({ cls := "java/lang/Math", name := "min", desc := "(II)I" } : Jvm.MethodName) jdk_29_method_69_code (2 : Nat) (Option.some Jvm.ClassFile.FieldType.int), Jvm.Cond.code ({ cls := "com/example/pathloom/pathloom/web/ReaderSkipSpacePinLaw", name := "pick", desc := "(I)C" } : Jvm.MethodName) method_2_code (2 : Nat) (Option.some Jvm.ClassFile.FieldType.char), Jvm.Cond.code ({ cls := "com/example/pathloom/pathloom/web/ReaderSkipSpacePinLaw", name := "prefix", desc := "([CI)[C" } : Jvm.MethodName) method_4_code (2 : Nat) (Option.some (Jvm.ClassFile.FieldType.array Jvm.ClassFile.FieldType.char)), Jvm.Cond.code ({ cls := "java/lang/String", name := "<init>", desc := "([C)V" } : Jvm.MethodName) jdk_42_method_3_code (2 : Nat) (Option.none : Option Jvm.ClassFile.FieldType), Jvm.Cond.code ({ cls := "java/lang/String", name := "<init>", desc := "([CIILjava/lang/Void;)V" } : Jvm.MethodName) jdk_42_method_149_code (6 : Nat) (Option.none : Option Jvm.ClassFile.FieldType), Jvm.Cond.code ({ cls := "java/lang/Object", name := "<init>", desc := "()V" } : Jvm.MethodName) object_method_1_code (1 : Nat) (Option.none : Option Jvm.ClassFile.FieldType), Jvm.Cond.code ({ cls := "com/example/pathloom/pathloom/web/MediaType$Reader", name := "<init>", desc := "(Ljava/lang/String;)V" } : Jvm.MethodName) prog_35_method_1_code (2 : Nat) (Option.none : Option Jvm.ClassFile.FieldType), Jvm.Cond.code ({ cls := "com/example/pathloom/pathloom/web/MediaType$Reader", name := "skipSpace", desc := "()Z" } : Jvm.MethodName) prog_35_method_3_code (1 : Nat) (Option.some Jvm.ClassFile.FieldType.boolean), Jvm.Cond.code ({ cls := "com/example/pathloom/pathloom/web/MediaType$Reader", name := "atEnd", desc := "()Z" } : Jvm.MethodName) prog_35_method_2_code (1 : Nat) (Option.some Jvm.ClassFile.FieldType.boolean), Jvm.Cond.code ({ cls := "java/lang/String", name := "length", desc := "()I" } : Jvm.MethodName) jdk_42_method_54_code (1 : Nat) (Option.some Jvm.ClassFile.FieldType.int), Jvm.Cond.code ({ cls := "java/lang/String", name := "coder", desc := "()B" } : Jvm.MethodName) jdk_42_method_152_code (1 : Nat) (Option.some Jvm.ClassFile.FieldType.byte), Jvm.Cond.code ({ cls := "java/lang/StringUTF16", name := "compress", desc := "([CII)[B" } : Jvm.MethodName) jdk_52_method_16_code (6 : Nat) (Option.some (Jvm.ClassFile.FieldType.array Jvm.ClassFile.FieldType.byte)), Jvm.Cond.code ({ cls := "java/lang/StringUTF16", name := "compress", desc := "([CI[BII)I" } : Jvm.MethodName) jdk_52_method_21_code (7 : Nat) (Option.some Jvm.ClassFile.FieldType.int), Jvm.Cond.code ({ cls := "java/lang/StringUTF16", name := "coderFromArrayLen", desc := "([BI)B" } : Jvm.MethodName) jdk_52_method_15_code (2 : Nat) (Option.some Jvm.ClassFile.FieldType.byte), Jvm.Cond.code ({ cls := "com/example/pathloom/pathloom/web/ReaderSkipSpacePinLaw", name := "blank", desc := "(C)Z" } : Jvm.MethodName) method_3_code (1 : Nat) (Option.some Jvm.ClassFile.FieldType.boolean), Jvm.Cond.code ({ cls := "java/lang/String", name := "charAt", desc := "(I)C" } : Jvm.MethodName) jdk_42_method_56_code (2 : Nat) (Option.some Jvm.ClassFile.FieldType.char), Jvm.Cond.code ({ cls := "java/lang/String", name := "isLatin1", desc := "()Z" } : Jvm.MethodName) jdk_42_method_154_code (1 : Nat) (Option.some Jvm.ClassFile.FieldType.boolean), Jvm.Cond.code ({ cls := "java/lang/StringLatin1", name := "charAt", desc := "([BI)C" } : Jvm.MethodName) jdk_43_method_2_code (2 : Nat) (Option.some Jvm.ClassFile.FieldType.char), Jvm.Cond.code ({ cls := "java/lang/String", name := "checkIndex", desc := "(II)V" } : Jvm.MethodName) jdk_42_method_155_code (2 : Nat) (Option.none : Option Jvm.ClassFile.FieldType), Jvm.Cond.code ({ cls := "jdk/internal/util/Preconditions", name := "checkIndex", desc := "(IILjava/util/function/BiFunction;)I" } : Jvm.MethodName) jdk_41_method_11_code (3 : Nat) (Option.some Jvm.ClassFile.FieldType.int), Jvm.Cond.code ({ cls := "com/example/pathloom/pathloom/web/MediaType$Reader", name := "take", desc := "(C)Z" } : Jvm.MethodName) prog_35_method_5_code (3 : Nat) (Option.some Jvm.ClassFile.FieldType.boolean), Jvm.Cond.code ({ cls := "com/example/pathloom/pathloom/web/MediaType$Reader", name := "at", desc := "(C)Z" } : Jvm.MethodName) prog_35_method_4_code (2 : Nat) (Option.some Jvm.ClassFile.FieldType.boolean), Jvm.Cond.code ({ cls := "java/lang/StringUTF16", name := "toBytes", desc := "([CII)[B" } : Jvm.MethodName) jdk_52_method_14_code (5 : Nat) (Option.some (Jvm.ClassFile.FieldType.array Jvm.ClassFile.FieldType.byte)), Jvm.Cond.code ({ cls := "java/lang/StringUTF16", name := "newBytesFor", desc := "(I)[B" } : Jvm.MethodName) jdk_52_method_2_code (1 : Nat) (Option.some (Jvm.ClassFile.FieldType.array Jvm.ClassFile.FieldType.byte)), Jvm.Cond.code ({ cls := "java/lang/StringUTF16", name := "newBytesLength", desc := "(I)I" } : Jvm.MethodName) jdk_52_method_3_code (1 : Nat) (Option.some Jvm.ClassFile.FieldType.int), Jvm.Cond.code ({ cls := "java/lang/StringUTF16", name := "putChar", desc := "([BII)V" } : Jvm.MethodName) jdk_52_method_4_code (3 : Nat) (Option.none : Option Jvm.ClassFile.FieldType), Jvm.Cond.code ({ cls := "java/lang/StringUTF16", name := "getChar", desc := "([BI)C" } : Jvm.MethodName) jdk_52_method_5_code (2 : Nat) (Option.some Jvm.ClassFile.FieldType.char), Jvm.Cond.code ({ cls := "java/lang/StringUTF16", name := "charAt", desc := "([BI)C" } : Jvm.MethodName) jdk_52_method_83_code (2 : Nat) (Option.some Jvm.ClassFile.FieldType.char), Jvm.Cond.code ({ cls := "java/lang/StringUTF16", name := "checkIndex", desc := "(I[B)V" } : Jvm.MethodName) jdk_52_method_91_code (2 : Nat) (Option.none : Option Jvm.ClassFile.FieldType), Jvm.Cond.code ({ cls := "java/lang/StringUTF16", name := "length", desc := "([B)I" } : Jvm.MethodName) jdk_52_method_6_code (1 : Nat) (Option.some Jvm.ClassFile.FieldType.int)]
set_option maxRecDepth 65536 in
theorem codes_eq : words1.filter isCode = codes1 := rfl
theorem w_codes : ∀ c ∈ words1.filter isCode, c.before args0 about1 = true := by
  rw [codes_eq]
  intro c hc
  simp only [codes1, List.mem_cons, List.not_mem_nil, or_false] at hc
  rcases hc with rfl | rfl | rfl | rfl | rfl | rfl | rfl | rfl | rfl | rfl | rfl | rfl | rfl | rfl | rfl | rfl | rfl | rfl | rfl | rfl | rfl | rfl | rfl | rfl | rfl | rfl | rfl | rfl | rfl | rfl | rfl
  · exact w_c0
  · exact w_c1
  · exact w_c2
  · exact w_c3
  · exact w_c4
  · exact w_c5
  · exact w_c6
  · exact w_c7
  · exact w_c8
  · exact w_c9
  · exact w_c10
  · exact w_c11
  · exact w_c12
  · exact w_c13
  · exact w_c14
  · exact w_c15
  · exact w_c16
  · exact w_c17
  · exact w_c18
  · exact w_c19
  · exact w_c20
  · exact w_c21
  · exact w_c22
  · exact w_c23
  · exact w_c24
  · exact w_c25
  · exact w_c26
  · exact w_c27
  · exact w_c28
  · exact w_c29
  · exact w_c30
set_option maxRecDepth 65536 in
theorem w_t1 : (words1.take 24).all (fun c => isCode c || c.before args0 about1) = true := by decide +kernel
set_option maxRecDepth 65536 in
theorem w_t2 : ((words1.drop 24).take 24).all (fun c => isCode c || c.before args0 about1) = true := by decide +kernel
set_option maxRecDepth 65536 in
theorem w_t3 : (((words1.drop 24).drop 24).take 24).all (fun c => isCode c || c.before args0 about1) = true := by decide +kernel
set_option maxRecDepth 65536 in
theorem w_t4 : ((((words1.drop 24).drop 24).drop 24).take 24).all (fun c => isCode c || c.before args0 about1) = true := by decide +kernel
set_option maxRecDepth 65536 in
theorem w_t5 : (((((words1.drop 24).drop 24).drop 24).drop 24).take 24).all (fun c => isCode c || c.before args0 about1) = true := by decide +kernel
set_option maxRecDepth 65536 in
theorem w_t6 : (((((words1.drop 24).drop 24).drop 24).drop 24).drop 24).all (fun c => isCode c || c.before args0 about1) = true := by decide +kernel
theorem w_tables : (allAtoms (Jvm.Cond.code x code maxLocals ret :: tables_1)).before args0 about1 = true := by
  rw [allAtoms_all]
  show words1.all (fun c => c.before args0 about1) = true
  refine all_split ?_ w_codes
  rw [← List.take_append_drop 24 words1, List.all_append, w_t1, ← List.take_append_drop 24 (words1.drop 24), List.all_append, w_t2, ← List.take_append_drop 24 ((words1.drop 24).drop 24), List.all_append, w_t3, ← List.take_append_drop 24 (((words1.drop 24).drop 24).drop 24), List.all_append, w_t4, ← List.take_append_drop 24 ((((words1.drop 24).drop 24).drop 24).drop 24), List.all_append, w_t5, w_t6]
  rfl
set_option maxRecDepth 65536 in
theorem w_rest : rest_1_c.before args0 about1 = true := by decide +kernel
set_option maxRecDepth 65536 in
theorem w_case : (Jvm.Cond.and given_1 narrow_1).before args0 about1 = true := by decide +kernel
set_option maxRecDepth 65536 in
theorem w_consts : constsHeld consts_1 about1 := Jvm.Lit.constsHeldB_iff.mp (by decide +kernel)
theorem w_applies : (headSpec (Jvm.Cond.code x code maxLocals ret :: tables_1) room_1).applies x e0.platform about1 = true :=
  (Spec.applies_iff w_frames).mpr ⟨w_running, w_runnable, w_alone, w_named, w_hears, w_ripe, w_room, w_tables⟩
theorem atStart : AtStart classFile x code maxLocals ret World_1 tables_1 room_1 Calls_1 rest_1 Pre_1 launch0 p0 e0 about1 theMethod args0 below0 :=
  ⟨lists_1, trivial, launch0.admits_env _ _ _, launch0.least_env, fairChoices_fair.cas, fairChoices_fair.clock, w_frames, w_args, w_heap, w_applies, ⟨w_consts, trivial⟩, w_rest, w_case⟩
end start1
theorem witness_1 : WitnessClaimed_1 := ⟨start1.p0, start1.e0, start1.about1, start1.theMethod, start1.args0, start1.below0, start1.atStart⟩
end Jvm.Pilot.@@N@@
