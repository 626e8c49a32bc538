import JvmDerived
import JvmDerived.Pilot.@@N@@Statement
import JvmDerived.Pilot.@@N@@Code
set_option linter.unusedVariables false
set_option linter.unusedSimpArgs false

namespace Jvm.Own
open Sem ClassFile Op Lib Jvm.Stand Jvm.Free Jvm.LawKit Jvm.RoadKit
def Go (p : Program) (e : Env) (below : List Frame) (G : State → Outcome → Prop) (σ : State) : Prop := ∃ s₂ o, Steps p.tables e below σ s₂ ∧ s₂.status = .running ∧ Ended s₂ below o ∧ G s₂ o
theorem Go.step {p : Program} {e : Env} {below : List Frame} {G : State → Outcome → Prop} {σ σ' : State} (h : ∀ t, Steps p.tables e below σ' t → Steps p.tables e below σ t) (k : Go p e below G σ') : Go p e below G σ := by
 obtain ⟨s₂, o, h1, h2⟩ := k
 exact ⟨s₂, o, h _ h1, h2⟩
def RetG (s : State) (Q : Option Value → Heap → List Loc → Prop) (cells slots : Nat) (s₂ : State) (o : Outcome) : Prop := ∃ v L, o = .returned v ∧ Q v s₂.heap L ∧ FrameEnd s o s₂ L cells slots
section
variable {p : Program} {l : Launch} {e : Env} {R : Room} {s : State} {m : MethodId} {args : Array Value} {below : List Frame} {meth : Method} {c : Code} {T : State} {locs : List Loc} {k n : Nat} {G : State → Outcome → Prop} {code : ByteArray} {pc : Nat} {Ls : Array Slot} {st : List Value} {Z : State} {a0 : Array Value} {h : Heap} {n0 : Nat}
theorem Go.leave (X : Stand p l e R s m args below meth c T locs k n) {v : Option Value} (hv : meth.sig.returnType = none → v = none) (hlocks : meth.locks = false) {Q : Option Value → Heap → List Loc → Prop} {cells slots : Nat} {σ : State} (eT : T.heap = h) (hq : Q v h locs) (hk : k ≤ cells) (hn : n ≤ slots)
  (st : ∀ fs, (∀ (f : JFrame) (acts : List Action), f.method = m → f.locked = none → f.entered = [] → (doReturn e (T.setTop f) acts v).1 = T.setFrames fs) → Steps p.tables e below σ (T.setFrames fs)) : Go p e below (RetG s Q cells slots) σ := by
 obtain ⟨fs, hr, hrun, hended, hW, hsame⟩ := X.leave (v := v) hv hlocks
 subst eT
 exact ⟨_, _, st fs hr, hrun, hended, _, _, rfl, hq, ⟨_, rfl⟩, hW, hsame.mono hk hn⟩
/-- null or some object -/
def Rf (v : Value) : Prop := v = .null ∨ ∃ a, v = .ref a
theorem Rf.is {v : Value} (r : Rf v) : v.isRef = true := by rcases r with rfl | ⟨a, rfl⟩ <;> rfl
theorem Rf.cat {v : Value} (r : Rf v) : v.category = 1 := by rcases r with rfl | ⟨a, rfl⟩ <;> rfl
theorem Rf.nar {v : Value} (r : Rf v) {c : String} : narrow (.object c) v = v := by rcases r with rfl | ⟨a, rfl⟩ <;> rfl
theorem Rf.fit {v : Value} (r : Rf v) {c : String} : fits (.object c) v = true := by rcases r with rfl | ⟨a, rfl⟩ <;> rfl
theorem Rf.store {v : Value} (r : Rf v) {ls ls' : Array Slot} {i : Nat} {o : Slot} (hold : ls[i]? = some o) (ho : One o) (hl : ls.setIfInBounds i (.val v) = ls') : storeLocals ls i v = some ls' := by rw [XS.store1 hold ho r.cat, hl]
theorem Rf.of {v : Value} (h : v.isRef = true) : Rf v := ref_cases h
theorem selOf {U : State} {as : Array Value} {y : MethodName} {n : Nat} (wi : (Cond.instantiable y.cls n).before as U = true) (wp : (Cond.privateMethod y).before #[] U = true) (wm : (Cond.instanceMethod y).before as U = true) (hy : y.cls ≠ "java/lang/invoke/MethodHandle" ∧ y.cls ≠ "java/lang/invoke/VarHandle") : (Cond.selects y.cls y y).before as U = true := by
 obtain ⟨c, k, h1, h2, -, h4, -⟩ := Cond.instantiable_spec wi
 exact selects_self_of_private h1 h2 (Bool.or_eq_false_iff.mp h4).1 (Cond.privateMethod_at wp) wm hy
theorem g_iload (X : Stand p l e R s m args below meth c T locs k n) (hx : p.tables.exec = Jvm.exec) (hby : c.code = code) {j : Nat} {v : Int32} (hd : decode code pc = .ok (.iload j, 2)) (hl : Ls[j]? = some (.val (.int v))) (K : Go p e below G (T.setTop (mkF m (pc + 2) Ls (.int v :: st)))) : Go p e below G (T.setTop (mkF m pc Ls st)) := Go.step (fun t q => XS.iload X.here hx rfl (hb hby hd) hl q) K
theorem g_iloadN (X : Stand p l e R s m args below meth c T locs k n) (hx : p.tables.exec = Jvm.exec) (hby : c.code = code) {j : Fin 4} {v : Int32} (hd : decode code pc = .ok (.iload_n j, 1)) (hl : Ls[j.val]? = some (.val (.int v))) (K : Go p e below G (T.setTop (mkF m (pc + 1) Ls (.int v :: st)))) : Go p e below G (T.setTop (mkF m pc Ls st)) := Go.step (fun t q => XS.iloadN X.here hx rfl (hb hby hd) hl q) K
theorem g_lload (X : Stand p l e R s m args below meth c T locs k n) (hx : p.tables.exec = Jvm.exec) (hby : c.code = code) {j : Nat} {v : Int64} (hd : decode code pc = .ok (.lload j, 2)) (hl : Ls[j]? = some (.val (.long v))) (K : Go p e below G (T.setTop (mkF m (pc + 2) Ls (.long v :: st)))) : Go p e below G (T.setTop (mkF m pc Ls st)) := Go.step (fun t q => XS.lload X.here hx rfl (hb hby hd) hl q) K
theorem g_lloadN (X : Stand p l e R s m args below meth c T locs k n) (hx : p.tables.exec = Jvm.exec) (hby : c.code = code) {j : Fin 4} {v : Int64} (hd : decode code pc = .ok (.lload_n j, 1)) (hl : Ls[j.val]? = some (.val (.long v))) (K : Go p e below G (T.setTop (mkF m (pc + 1) Ls (.long v :: st)))) : Go p e below G (T.setTop (mkF m pc Ls st)) := Go.step (fun t q => XS.lloadN X.here hx rfl (hb hby hd) hl q) K
theorem g_aload (X : Stand p l e R s m args below meth c T locs k n) (hx : p.tables.exec = Jvm.exec) (hby : c.code = code) {j : Nat} {v : Value} (hd : decode code pc = .ok (.aload j, 2)) (hl : Ls[j]? = some (.val v)) (hv : v.isRef = true) (K : Go p e below G (T.setTop (mkF m (pc + 2) Ls (v :: st)))) : Go p e below G (T.setTop (mkF m pc Ls st)) := Go.step (fun t q => XS.aload X.here hx rfl (hb hby hd) hl hv q) K
theorem g_aloadN (X : Stand p l e R s m args below meth c T locs k n) (hx : p.tables.exec = Jvm.exec) (hby : c.code = code) {j : Fin 4} {v : Value} (hd : decode code pc = .ok (.aload_n j, 1)) (hl : Ls[j.val]? = some (.val v)) (hv : v.isRef = true) (K : Go p e below G (T.setTop (mkF m (pc + 1) Ls (v :: st)))) : Go p e below G (T.setTop (mkF m pc Ls st)) := Go.step (fun t q => XS.aloadN X.here hx rfl (hb hby hd) hl hv q) K
theorem g_istore (X : Stand p l e R s m args below meth c T locs k n) (hx : p.tables.exec = Jvm.exec) (hby : c.code = code) {j : Nat} {x : Int32} {rest : List Value} {l' : Array Slot} (hd : decode code pc = .ok (.istore j, 2)) (hl : storeLocals Ls j (.int x) = some l') (K : Go p e below G (T.setTop (mkF m (pc + 2) l' rest))) : Go p e below G (T.setTop (mkF m pc Ls (.int x :: rest))) := Go.step (fun t q => XS.istore X.here hx rfl (hb hby hd) rfl hl q) K
theorem g_istoreN (X : Stand p l e R s m args below meth c T locs k n) (hx : p.tables.exec = Jvm.exec) (hby : c.code = code) {j : Fin 4} {x : Int32} {rest : List Value} {l' : Array Slot} (hd : decode code pc = .ok (.istore_n j, 1)) (hl : storeLocals Ls j.val (.int x) = some l') (K : Go p e below G (T.setTop (mkF m (pc + 1) l' rest))) : Go p e below G (T.setTop (mkF m pc Ls (.int x :: rest))) := Go.step (fun t q => XS.istoreN X.here hx rfl (hb hby hd) rfl hl q) K
theorem g_lstore (X : Stand p l e R s m args below meth c T locs k n) (hx : p.tables.exec = Jvm.exec) (hby : c.code = code) {j : Nat} {x : Int64} {rest : List Value} {l' : Array Slot} (hd : decode code pc = .ok (.lstore j, 2)) (hl : storeLocals Ls j (.long x) = some l') (K : Go p e below G (T.setTop (mkF m (pc + 2) l' rest))) : Go p e below G (T.setTop (mkF m pc Ls (.long x :: rest))) := Go.step (fun t q => XS.lstore X.here hx rfl (hb hby hd) rfl hl q) K
theorem g_lstoreN (X : Stand p l e R s m args below meth c T locs k n) (hx : p.tables.exec = Jvm.exec) (hby : c.code = code) {j : Fin 4} {x : Int64} {rest : List Value} {l' : Array Slot} (hd : decode code pc = .ok (.lstore_n j, 1)) (hl : storeLocals Ls j.val (.long x) = some l') (K : Go p e below G (T.setTop (mkF m (pc + 1) l' rest))) : Go p e below G (T.setTop (mkF m pc Ls (.long x :: rest))) := Go.step (fun t q => XS.lstoreN X.here hx rfl (hb hby hd) rfl hl q) K
theorem g_astore (X : Stand p l e R s m args below meth c T locs k n) (hx : p.tables.exec = Jvm.exec) (hby : c.code = code) {j : Nat} {x : Value} {rest : List Value} {l' : Array Slot} (hd : decode code pc = .ok (.astore j, 2)) (hv : x.isRef = true) (hl : storeLocals Ls j x = some l') (K : Go p e below G (T.setTop (mkF m (pc + 2) l' rest))) : Go p e below G (T.setTop (mkF m pc Ls (x :: rest))) := Go.step (fun t q => XS.astore X.here hx rfl (hb hby hd) rfl hv hl q) K
theorem g_astoreN (X : Stand p l e R s m args below meth c T locs k n) (hx : p.tables.exec = Jvm.exec) (hby : c.code = code) {j : Fin 4} {x : Value} {rest : List Value} {l' : Array Slot} (hd : decode code pc = .ok (.astore_n j, 1)) (hv : x.isRef = true) (hl : storeLocals Ls j.val x = some l') (K : Go p e below G (T.setTop (mkF m (pc + 1) l' rest))) : Go p e below G (T.setTop (mkF m pc Ls (x :: rest))) := Go.step (fun t q => XS.astoreN X.here hx rfl (hb hby hd) rfl hv hl q) K
theorem g_iconst (X : Stand p l e R s m args below meth c T locs k n) (hx : p.tables.exec = Jvm.exec) (hby : c.code = code) {i : Int} (v : Int32) (hd : decode code pc = .ok (.iconst i, 1)) (hv : Int32.ofInt i = v) (K : Go p e below G (T.setTop (mkF m (pc + 1) Ls (.int v :: st)))) : Go p e below G (T.setTop (mkF m pc Ls st)) := Go.step (fun t q => XS.iconst X.here hx rfl (hb hby hd) (by rw [hv]; exact q)) K
theorem g_bipush (X : Stand p l e R s m args below meth c T locs k n) (hx : p.tables.exec = Jvm.exec) (hby : c.code = code) {i : Int} (v : Int32) (hd : decode code pc = .ok (.bipush i, 2)) (hv : (Int8.ofInt i).toInt32 = v) (K : Go p e below G (T.setTop (mkF m (pc + 2) Ls (.int v :: st)))) : Go p e below G (T.setTop (mkF m pc Ls st)) := Go.step (fun t q => XS.bipush X.here hx rfl (hb hby hd) (by rw [hv]; exact q)) K
theorem g_lconst (X : Stand p l e R s m args below meth c T locs k n) (hx : p.tables.exec = Jvm.exec) (hby : c.code = code) {j : Fin 2} (v : Int64) (hd : decode code pc = .ok (.lconst j, 1)) (hv : Int64.ofNat j = v) (K : Go p e below G (T.setTop (mkF m (pc + 1) Ls (.long v :: st)))) : Go p e below G (T.setTop (mkF m pc Ls st)) := Go.step (fun t q => XS.lconst X.here hx rfl (hb hby hd) (by rw [hv]; exact q)) K
theorem g_topI {x : Int32} (y : Int32) (q : x = y) {rest : List Value} (K : Go p e below G (T.setTop (mkF m pc Ls (.int y :: rest)))) : Go p e below G (T.setTop (mkF m pc Ls (.int x :: rest))) := q ▸ K
theorem g_at {ls ls' : Array Slot} {st' : List Value} (pc' : Nat) (h1 : pc = pc') (h2 : ls = ls') (h3 : st = st') (K : Go p e below G (T.setTop (mkF m pc' ls' st'))) : Go p e below G (T.setTop (mkF m pc ls st)) := h1 ▸ h2 ▸ h3 ▸ K
theorem g_aconst_null (X : Stand p l e R s m args below meth c T locs k n) (hx : p.tables.exec = Jvm.exec) (hby : c.code = code)  (hd : decode code pc = .ok (.aconst_null, 1)) (K : Go p e below G (T.setTop (mkF m (pc + 1) Ls (.null :: st)))) : Go p e below G (T.setTop (mkF m pc Ls st)) := Go.step (fun t q => XS.aconstNull X.here hx rfl (hb hby hd)  q) K
theorem g_iadd (X : Stand p l e R s m args below meth c T locs k n) (hx : p.tables.exec = Jvm.exec) (hby : c.code = code) {x y : Int32} {rest : List Value} (hd : decode code pc = .ok (.iadd, 1)) (K : Go p e below G (T.setTop (mkF m (pc + 1) Ls (.int (x + y) :: rest)))) : Go p e below G (T.setTop (mkF m pc Ls (.int y :: .int x :: rest))) := Go.step (fun t q => XS.iadd X.here hx rfl (hb hby hd) rfl q) K
theorem g_ladd (X : Stand p l e R s m args below meth c T locs k n) (hx : p.tables.exec = Jvm.exec) (hby : c.code = code) {x y : Int64} {rest : List Value} (hd : decode code pc = .ok (.ladd, 1)) (K : Go p e below G (T.setTop (mkF m (pc + 1) Ls (.long (x + y) :: rest)))) : Go p e below G (T.setTop (mkF m pc Ls (.long y :: .long x :: rest))) := Go.step (fun t q => XS.ladd X.here hx rfl (hb hby hd) rfl q) K
theorem g_isub (X : Stand p l e R s m args below meth c T locs k n) (hx : p.tables.exec = Jvm.exec) (hby : c.code = code) {x y : Int32} {rest : List Value} (hd : decode code pc = .ok (.isub, 1)) (K : Go p e below G (T.setTop (mkF m (pc + 1) Ls (.int (x - y) :: rest)))) : Go p e below G (T.setTop (mkF m pc Ls (.int y :: .int x :: rest))) := Go.step (fun t q => XS.isub X.here hx rfl (hb hby hd) rfl q) K
theorem g_lsub (X : Stand p l e R s m args below meth c T locs k n) (hx : p.tables.exec = Jvm.exec) (hby : c.code = code) {x y : Int64} {rest : List Value} (hd : decode code pc = .ok (.lsub, 1)) (K : Go p e below G (T.setTop (mkF m (pc + 1) Ls (.long (x - y) :: rest)))) : Go p e below G (T.setTop (mkF m pc Ls (.long y :: .long x :: rest))) := Go.step (fun t q => XS.lsub X.here hx rfl (hb hby hd) rfl q) K
theorem g_imul (X : Stand p l e R s m args below meth c T locs k n) (hx : p.tables.exec = Jvm.exec) (hby : c.code = code) {x y : Int32} {rest : List Value} (hd : decode code pc = .ok (.imul, 1)) (K : Go p e below G (T.setTop (mkF m (pc + 1) Ls (.int (x * y) :: rest)))) : Go p e below G (T.setTop (mkF m pc Ls (.int y :: .int x :: rest))) := Go.step (fun t q => XS.imul X.here hx rfl (hb hby hd) rfl q) K
theorem g_iand (X : Stand p l e R s m args below meth c T locs k n) (hx : p.tables.exec = Jvm.exec) (hby : c.code = code) {x y : Int32} {rest : List Value} (hd : decode code pc = .ok (.iand, 1)) (K : Go p e below G (T.setTop (mkF m (pc + 1) Ls (.int (x &&& y) :: rest)))) : Go p e below G (T.setTop (mkF m pc Ls (.int y :: .int x :: rest))) := Go.step (fun t q => XS.iand X.here hx rfl (hb hby hd) rfl q) K
theorem g_land (X : Stand p l e R s m args below meth c T locs k n) (hx : p.tables.exec = Jvm.exec) (hby : c.code = code) {x y : Int64} {rest : List Value} (hd : decode code pc = .ok (.land, 1)) (K : Go p e below G (T.setTop (mkF m (pc + 1) Ls (.long (x &&& y) :: rest)))) : Go p e below G (T.setTop (mkF m pc Ls (.long y :: .long x :: rest))) := Go.step (fun t q => XS.land X.here hx rfl (hb hby hd) rfl q) K
theorem g_iushr (X : Stand p l e R s m args below meth c T locs k n) (hx : p.tables.exec = Jvm.exec) (hby : c.code = code) {x y : Int32} {rest : List Value} (hd : decode code pc = .ok (.iushr, 1)) (K : Go p e below G (T.setTop (mkF m (pc + 1) Ls (.int ((x.toUInt32 >>> (y &&& 31).toUInt32).toInt32) :: rest)))) : Go p e below G (T.setTop (mkF m pc Ls (.int y :: .int x :: rest))) := Go.step (fun t q => XS.iushr X.here hx rfl (hb hby hd) rfl q) K
theorem g_ineg (X : Stand p l e R s m args below meth c T locs k n) (hx : p.tables.exec = Jvm.exec) (hby : c.code = code) {x : Int32} {rest : List Value} (hd : decode code pc = .ok (.ineg, 1)) (K : Go p e below G (T.setTop (mkF m (pc + 1) Ls (.int (-x) :: rest)))) : Go p e below G (T.setTop (mkF m pc Ls (.int x :: rest))) := Go.step (fun t q => XS.ineg X.here hx rfl (hb hby hd) rfl q) K
theorem g_lneg (X : Stand p l e R s m args below meth c T locs k n) (hx : p.tables.exec = Jvm.exec) (hby : c.code = code) {x : Int64} {rest : List Value} (hd : decode code pc = .ok (.lneg, 1)) (K : Go p e below G (T.setTop (mkF m (pc + 1) Ls (.long (-x) :: rest)))) : Go p e below G (T.setTop (mkF m pc Ls (.long x :: rest))) := Go.step (fun t q => XS.lneg X.here hx rfl (hb hby hd) rfl q) K
theorem g_lcmp (X : Stand p l e R s m args below meth c T locs k n) (hx : p.tables.exec = Jvm.exec) (hby : c.code = code) {x y : Int64} {rest : List Value} (hd : decode code pc = .ok (.lcmp, 1)) (K : Go p e below G (T.setTop (mkF m (pc + 1) Ls (.int (lcmpW x y) :: rest)))) : Go p e below G (T.setTop (mkF m pc Ls (.long y :: .long x :: rest))) := Go.step (fun t q => XS.lcmp X.here hx rfl (hb hby hd) rfl q) K
theorem g_dup (X : Stand p l e R s m args below meth c T locs k n) (hx : p.tables.exec = Jvm.exec) (hby : c.code = code) {x : Value} {rest : List Value} (hd : decode code pc = .ok (.dup, 1)) (hc : x.category = 1) (K : Go p e below G (T.setTop (mkF m (pc + 1) Ls (x :: x :: rest)))) : Go p e below G (T.setTop (mkF m pc Ls (x :: rest))) := Go.step (fun t q => XS.dup X.here hx rfl (hb hby hd) rfl hc q) K
theorem g_goto (X : Stand p l e R s m args below meth c T locs k n) (hx : p.tables.exec = Jvm.exec) (hby : c.code = code) {d : Int} (pc' : Nat) (hd : decode code pc = .ok (.goto d, 3)) (ho : 0 ≤ (pc : Int) + d) (hp : ((pc : Int) + d).toNat = pc') (K : Go p e below G (T.setTop (mkF m pc' Ls st))) : Go p e below G (T.setTop (mkF m pc Ls st)) := Go.step (fun t q => XS.goto X.here hx rfl (pc0 := pc) (pc' := pc') rfl (hb hby hd) ho hp q) K
theorem g_ifY (X : Stand p l e R s m args below meth c T locs k n) (hx : p.tables.exec = Jvm.exec) (hby : c.code = code) {cd : ClassFile.Cond} {x : Int32} {rest : List Value} {d : Int} (pc' : Nat) (hd : decode code pc = .ok (.ifCond cd d, 3)) (hc : if_icmp.holds cd x 0 = true) (ho : 0 ≤ (pc : Int) + d) (hp : ((pc : Int) + d).toNat = pc') (K : Go p e below G (T.setTop (mkF m pc' Ls rest))) : Go p e below G (T.setTop (mkF m pc Ls (.int x :: rest))) := Go.step (fun t q => XS.ifYes X.here hx rfl (pc0 := pc) (pc' := pc') rfl (hb hby hd) rfl ((if0 _ _).trans hc) ho hp q) K
theorem g_ifN (X : Stand p l e R s m args below meth c T locs k n) (hx : p.tables.exec = Jvm.exec) (hby : c.code = code) {cd : ClassFile.Cond} {x : Int32} {rest : List Value} {d : Int} (hd : decode code pc = .ok (.ifCond cd d, 3)) (hc : if_icmp.holds cd x 0 = false) (K : Go p e below G (T.setTop (mkF m (pc + 3) Ls rest))) : Go p e below G (T.setTop (mkF m pc Ls (.int x :: rest))) := Go.step (fun t q => XS.ifNo X.here hx rfl (hb hby hd) rfl ((if0 _ _).trans hc) q) K
theorem g_icY (X : Stand p l e R s m args below meth c T locs k n) (hx : p.tables.exec = Jvm.exec) (hby : c.code = code) {cd : ClassFile.Cond} {x y : Int32} {rest : List Value} {d : Int} (pc' : Nat) (hd : decode code pc = .ok (.if_icmp cd d, 3)) (hc : if_icmp.holds cd x y = true) (ho : 0 ≤ (pc : Int) + d) (hp : ((pc : Int) + d).toNat = pc') (K : Go p e below G (T.setTop (mkF m pc' Ls rest))) : Go p e below G (T.setTop (mkF m pc Ls (.int y :: .int x :: rest))) := Go.step (fun t q => XS.icmpYes X.here hx rfl (pc0 := pc) (pc' := pc') rfl (hb hby hd) rfl hc ho hp q) K
theorem g_icN (X : Stand p l e R s m args below meth c T locs k n) (hx : p.tables.exec = Jvm.exec) (hby : c.code = code) {cd : ClassFile.Cond} {x y : Int32} {rest : List Value} {d : Int} (hd : decode code pc = .ok (.if_icmp cd d, 3)) (hc : if_icmp.holds cd x y = false) (K : Go p e below G (T.setTop (mkF m (pc + 3) Ls rest))) : Go p e below G (T.setTop (mkF m pc Ls (.int y :: .int x :: rest))) := Go.step (fun t q => XS.icmpNo X.here hx rfl (hb hby hd) rfl hc q) K
theorem g_acmp (X : Stand p l e R s m args below meth c T locs k n) (hx : p.tables.exec = Jvm.exec) (hby : c.code = code) {cd : ACond} {x y : Value} (h1 : x.isRef = true) (h2 : y.isRef = true) {rest : List Value} {d : Int} (pc' : Nat) (same : Bool) (hd : decode code pc = .ok (.if_acmp cd d, 3)) (hq : decide (x = y) = same) (ho : 0 ≤ (pc : Int) + d) (hp : pc' = if acV cd same = true then ((pc : Int) + d).toNat else pc + 3) (K : Go p e below G (T.setTop (mkF m pc' Ls rest))) : Go p e below G (T.setTop (mkF m pc Ls (y :: x :: rest))) := Go.step (fun t q => Jvm.RoadKit.acmp (g := mkF m pc Ls (y :: x :: rest)) X hx rfl h1 h2 (pc0 := pc) (pc' := pc') (same := same) rfl (hb hby hd) rfl hq ho hp q) K
theorem g_ifnullY (X : Stand p l e R s m args below meth c T locs k n) (hx : p.tables.exec = Jvm.exec) (hby : c.code = code) {rest : List Value} {d : Int} (pc' : Nat) (hd : decode code pc = .ok (.ifnull d, 3)) (ho : 0 ≤ (pc : Int) + d) (hp : ((pc : Int) + d).toNat = pc') (K : Go p e below G (T.setTop (mkF m pc' Ls rest))) : Go p e below G (T.setTop (mkF m pc Ls (.null :: rest))) := Go.step (fun t q => XS.ifnullYes X.here hx rfl (pc0 := pc) (pc' := pc') rfl (hb hby hd) rfl ho hp q) K
theorem g_ifnullN (X : Stand p l e R s m args below meth c T locs k n) (hx : p.tables.exec = Jvm.exec) (hby : c.code = code) {b : Addr} {rest : List Value} {d : Int} (hd : decode code pc = .ok (.ifnull d, 3)) (K : Go p e below G (T.setTop (mkF m (pc + 3) Ls rest))) : Go p e below G (T.setTop (mkF m pc Ls (.ref b :: rest))) := Go.step (fun t q => XS.ifnullNo X.here hx rfl (hb hby hd) rfl q) K
theorem g_ifnonnullY (X : Stand p l e R s m args below meth c T locs k n) (hx : p.tables.exec = Jvm.exec) (hby : c.code = code) {b : Addr} {rest : List Value} {d : Int} (pc' : Nat) (hd : decode code pc = .ok (.ifnonnull d, 3)) (ho : 0 ≤ (pc : Int) + d) (hp : ((pc : Int) + d).toNat = pc') (K : Go p e below G (T.setTop (mkF m pc' Ls rest))) : Go p e below G (T.setTop (mkF m pc Ls (.ref b :: rest))) := Go.step (fun t q => XS.ifnonnullYes X.here hx rfl (pc0 := pc) (pc' := pc') rfl (hb hby hd) rfl ho hp q) K
theorem g_ifnonnullN (X : Stand p l e R s m args below meth c T locs k n) (hx : p.tables.exec = Jvm.exec) (hby : c.code = code) {rest : List Value} {d : Int} (hd : decode code pc = .ok (.ifnonnull d, 3)) (K : Go p e below G (T.setTop (mkF m (pc + 3) Ls rest))) : Go p e below G (T.setTop (mkF m pc Ls (.null :: rest))) := Go.step (fun t q => XS.ifnonnullNo X.here hx rfl (hb hby hd) rfl q) K
theorem g_ldc2J (X : Stand p l e R s m args below meth c T locs k n) (hx : p.tables.exec = Jvm.exec) (hby : c.code = code) (hZ : Z.Warmed39 s.vm) {own : String} (hown : s.vm.findClass own = some m.cls) {index : Nat} {v : Int64} (w : (Cond.constantLong own index v).before a0 Z = true) (hd : decode code pc = .ok (.ldc2_w index, 3)) (K : Go p e below G (T.setTop (mkF m (pc + 3) Ls (.long v :: st)))) : Go p e below G (T.setTop (mkF m pc Ls st)) := Go.step (fun t q => X.ldc2Long hx hown (mvT hZ w) (g := mkF m pc Ls st) rfl (hb hby hd) t q) K
theorem g_getF (X : Stand p l e R s m args below meth c T locs k n) (hx : p.tables.exec = Jvm.exec) (hby : c.code = code) (hZ : Z.Warmed39 s.vm) {own : String} (hown : s.vm.findClass own = some m.cls) {R0 O f d host : String} {index : Nat} (w : (Cond.fieldLink own index R0 f d).before a0 Z = true ∨ (Cond.fieldLinkNest own index R0 f d host).before a0 Z = true) (via : Via Z R0 O f d) (eT : T.heap = h) {a : Addr} {v : Value} (F : Fld Z h a O f d v) {rest : List Value} (hd : decode code pc = .ok (.getfield index, 3)) (K : ∀ T', Stand p l e R s m args below meth c T' locs k n → T'.heap = h → Go p e below G (T'.setTop (mkF m (pc + 3) Ls (v :: rest)))) : Go p e below G (T.setTop (mkF m pc Ls (.ref a :: rest))) := by
 obtain ⟨T', X', e', q⟩ := getF X hx hZ hown w via eT F (g := mkF m pc Ls (.ref a :: rest)) rfl rfl (hb hby hd)
 exact Go.step q (K T' X' e')
theorem own_ready (X : Stand p l e R s m args below meth c T locs k n) (hx : p.tables.exec = Jvm.exec) (hby : c.code = code) (hZ : Z.Warmed39 s.vm) {own : String} (hown : s.vm.findClass own = some m.cls) {O f d : String} {index : Nat} (w : (Cond.fieldRef own index O f d).before a0 Z = true) {cf i : Nat} {kf : Class} {fd : Field} (h2 : Z.fieldFound? O f d = some (cf, kf, i, fd)) : T.vm.fieldReady m.cls index cf fd := by
 have hT : Z.Warmed39 T.vm := wtrans hZ X.warmed
 have w' := Cond.fieldRef_warmed39 hT w
 have hc : (Z.setVm T.vm).vm.findClass own = some m.cls := by
  show T.vm.findClass own = some m.cls
  rw [X.warmed.alike.findClass]; exact hown
 obtain ⟨c', k', i', f', q1, q2⟩ := Cond.fieldRef_spec hc w'
 obtain ⟨k2, q3, -⟩ := State.fieldFound?_setVm (s := Z) (vm' := T.vm) hT.alike h2
 rw [q3] at q1
 cases q1
 exact q2
theorem g_getFR (X : Stand p l e R s m args below meth c T locs k n) (hx : p.tables.exec = Jvm.exec) (hby : c.code = code) (hZ : Z.Warmed39 s.vm) {own : String} (hown : s.vm.findClass own = some m.cls) {O f d : String} {index : Nat} (w : (Cond.fieldRef own index O f d).before a0 Z = true) (eT : T.heap = h) {a : Addr} {v : Value} (F : Fld Z h a O f d v) {rest : List Value} (hd : decode code pc = .ok (.getfield index, 3)) (K : ∀ T', Stand p l e R s m args below meth c T' locs k n → T'.heap = h → Go p e below G (T'.setTop (mkF m (pc + 3) Ls (v :: rest)))) : Go p e below G (T.setTop (mkF m pc Ls (.ref a :: rest))) := by
 obtain ⟨cell, cf, k, i, fd, h1, h2, h3, h4, -, -, h7⟩ := F
 exact Go.step (fun t r => (X.getfieldR hx (g := mkF m pc Ls (.ref a :: rest)) rfl (own_ready X hx hby hZ hown w h2) h3 rfl (by rw [eT]; exact h1) h4 h7 (hb hby hd) (Steps.refl _)).trans r) (K T X eT)
theorem g_putFR (X : Stand p l e R s m args below meth c T locs k n) (hx : p.tables.exec = Jvm.exec) (hby : c.code = code) (hZ : Z.Warmed39 s.vm) {own : String} (hown : s.vm.findClass own = some m.cls) {O f d : String} {index : Nat} (w : (Cond.fieldRef own index O f d).before a0 Z = true) (eT : T.heap = h) {C : String} {kk : Nat} {a : Addr} {v old : Value} (F : Fld Z h a O f d old) (E : Exa Z h a C) (L : (Cond.lays C O f d).before a0 Z = true) (wi : (Cond.instantiable C kk).before a0 Z = true) (ty : FieldType) (hty : parseFieldDescriptor d = some ty) (hn : narrow ty v = v) (hf : fits ty v = true) (N : Fr n0 locs) (ga : n0 ≤ a) {rest : List Value} (hd : decode code pc = .ok (.putfield index, 3)) (K : ∀ T' h', Stand p l e R s m args below meth c T' (locs ++ [⟨a, Jvm.RoadKit.slotOf Z O f d⟩]) k n → T'.heap = h' → Wr h h' a (Jvm.RoadKit.slotOf Z O f d) v → Fld Z h' a O f d v → Fr n0 (locs ++ [⟨a, Jvm.RoadKit.slotOf Z O f d⟩]) → Go p e below G (T'.setTop (mkF m (pc + 3) Ls rest))) : Go p e below G (T.setTop (mkF m pc Ls (v :: .ref a :: rest))) := by
 have F0 := F
 obtain ⟨cell, cf, k, i, fd, h1, h2, h3, h4, h5, -, h7⟩ := F
 obtain ⟨cell', kc, e1, e2, e3, -⟩ := E
 cases h1.symm.trans e1
 obtain ⟨c1, k1, cf1, kf1, i1, f1, a1, a2, a3, -, -, a6, -⟩ := Laid.spec (Or.inl L)
 cases h2.symm.trans a3
 cases e2.symm.trans a1
 obtain ⟨c2, k2, i1, i2, i3, -⟩ := Cond.instantiable_spec wi
 cases e2.symm.trans i1
 cases a2.symm.trans i2
 have ht := (State.fieldFound?_type h2 hty).2
 have hfit : Z.fitsSlot cell.cls cell.vm fd.slot v = true := by
  have q : Z.slotType? cell.cls cell.vm fd.slot = some ty := by
   simp only [State.slotType?, a2, Option.bind_eq_bind, Option.bind_some, i3]
   cases hq : cell.vm <;> first | (rw [hq] at h5; exact Bool.noConfusion h5) | (rw [a6, ht])
  simp [State.fitsSlot, q, hf]
 have hT : Z.Warmed39 T.vm := wtrans hZ X.warmed
 have hfit' : T.fitsSlot cell.cls cell.vm fd.slot v = true := by rw [← State.fitsSlot_setVm hT.alike] at hfit; exact hfit
 obtain ⟨_, _, _, _, _, _, -, -, b3, -, b5, -⟩ := Cond.lays_spec L
 cases h2.symm.trans b3
 have hlt := (Array.getElem?_eq_some_iff.mp h7).1
 have es : Jvm.RoadKit.slotOf Z O f d = fd.slot := by simp [Jvm.RoadKit.slotOf, h2]
 obtain ⟨X', st⟩ := X.putfieldReady hx (own_ready X hx hby hZ hown w h2) h3 (Or.inl b5) (by rw [eT]; exact h1) h4 hlt (by rw [ht]; exact hn) hfit' (g := mkF m pc Ls (v :: .ref a :: rest)) rfl rfl (hb hby hd)
 rw [← es] at X' st hlt
 have W : Wr h (T.setCell a (cell.setSlot (Jvm.RoadKit.slotOf Z O f d) v)).heap a (Jvm.RoadKit.slotOf Z O f d) v := ⟨cell, h1, h5, hlt, by rw [← eT]; rfl⟩
 exact Go.step st (K _ _ X' rfl W (F0.same W) (Fr.snoc X' N ga))
theorem g_getS (X : Stand p l e R s m args below meth c T locs k n) (hx : p.tables.exec = Jvm.exec) (hby : c.code = code) (hZ : Z.Warmed39 s.vm) {own : String} (hown : s.vm.findClass own = some m.cls) {R0 O f d host : String} {index : Nat} (w : (Cond.fieldLink own index R0 f d).before a0 Z = true ∨ (Cond.fieldLinkNest own index R0 f d host).before a0 Z = true) (via : Via Z R0 O f d) (eT : T.heap = h) {v : Value} (F : Sta Z h O f d v) (hd : decode code pc = .ok (.getstatic index, 3)) (K : ∀ T', Stand p l e R s m args below meth c T' locs k n → T'.heap = h → Go p e below G (T'.setTop (mkF m (pc + 3) Ls (v :: st)))) : Go p e below G (T.setTop (mkF m pc Ls st)) := by
 obtain ⟨T', X', e', q⟩ := getS2 X hx hZ hown w via eT F (g := mkF m pc Ls st) rfl (hb hby hd)
 exact Go.step q (K T' X' e')
theorem g_putF (X : Stand p l e R s m args below meth c T locs k n) (hx : p.tables.exec = Jvm.exec) (hby : c.code = code) (hZ : Z.Warmed39 s.vm) {own : String} (hown : s.vm.findClass own = some m.cls) {R0 O f d host : String} {index : Nat} (w : (Cond.fieldLink own index R0 f d).before a0 Z = true ∨ (Cond.fieldLinkNest own index R0 f d host).before a0 Z = true) (via : Via Z R0 O f d) (eT : T.heap = h) {C : String} {kk : Nat} {a : Addr} {v old : Value} (F : Fld Z h a O f d old) (E : Exa Z h a C) (L : (Cond.lays C O f d).before a0 Z = true ∨ ((Cond.laysFinal C O f d).before a0 Z = true ∧ own = O ∧ meth.name = "<init>")) (wi : (Cond.instantiable C kk).before a0 Z = true) (ty : FieldType) (hty : parseFieldDescriptor d = some ty) (hn : narrow ty v = v) (hf : fits ty v = true) (N : Fr n0 locs) (ga : n0 ≤ a) {rest : List Value} (hd : decode code pc = .ok (.putfield index, 3)) (K : ∀ T' h', Stand p l e R s m args below meth c T' (locs ++ [⟨a, Jvm.RoadKit.slotOf Z O f d⟩]) k n → T'.heap = h' → Wr h h' a (Jvm.RoadKit.slotOf Z O f d) v → Fld Z h' a O f d v → Fr n0 (locs ++ [⟨a, Jvm.RoadKit.slotOf Z O f d⟩]) → Go p e below G (T'.setTop (mkF m (pc + 3) Ls rest))) : Go p e below G (T.setTop (mkF m pc Ls (v :: .ref a :: rest))) := by
 obtain ⟨T', h', X', e', W, q⟩ := putF X hx hZ hown w via eT F E L wi hty hn hf (g := mkF m pc Ls (v :: .ref a :: rest)) rfl rfl (hb hby hd)
 exact Go.step q (K T' h' X' e' W (F.same W) (Fr.snoc X' N ga))
theorem g_new (X : Stand p l e R s m args below meth c T locs k n) (hx : p.tables.exec = Jvm.exec) (hby : c.code = code) (hZ : Z.Warmed39 s.vm) {own : String} (hown : s.vm.findClass own = some m.cls) {C : String} {index j : Nat} (w : (Cond.classLink own index C).before a0 Z = true) (wi : (Cond.instantiable C j).before a0 Z = true) (wz : (Cond.initialized C).before a0 Z = true) (eT : T.heap = h) (hc : k + 1 ≤ R.cells) (hl : n + j ≤ R.slots) (hd : decode code pc = .ok (.new index, 3)) (K : ∀ T' h' x, h.size = x → Stand p l e R s m args below meth c T' locs (k + 1) (n + j) → T'.heap = h' → Ext h h' → Exa Z h' x C → (∀ {O nm d : String} {ty : FieldType}, Laid Z a0 C O nm d → parseFieldDescriptor d = some ty → Fld Z h' x O nm d (defaultValue ty)) → Go p e below G (T'.setTop (mkF m (pc + 3) Ls (.ref x :: st)))) : Go p e below G (T.setTop (mkF m pc Ls st)) := by
 obtain ⟨T', h', X', e', E, A, D, -, q⟩ := newO X hx hZ hown w wi wz eT (g := mkF m pc Ls st) rfl (hb hby hd) hc hl
 exact Go.step q (K T' h' _ rfl X' e' E A D)
theorem g_newarray (X : Stand p l e R s m args below meth c T locs k n) (hx : p.tables.exec = Jvm.exec) (hby : c.code = code) (hZ : Z.Warmed39 s.vm) (aty : ArrayType) (ty : FieldType) (dv : Value) (vs : List Value) (hty : newarray.typeOf aty = ty) (hdv : defaultValue ty = dv) (w : (Cond.arrayClass ty).before a0 Z = true) (eT : T.heap = h) {z : Int32} {rest : List Value} (hn : ¬ z < 0) (cap : Nat) (hvs : List.replicate cap dv = vs) (hcap : z.toNatClampNeg ≤ cap) (hbig : cap * 8 ≤ 536870912) (hc : k + 1 ≤ R.cells) (hl : n + cap ≤ R.slots) (hd : decode code pc = .ok (.newarray aty, 2)) (K : ∀ T' h' kc x, h.size = x → Stand p l e R s m args below meth c T' locs (k + 1) (n + cap) → T'.heap = h' → Ext h h' → Arv Z h' x kc ty z vs dv → Go p e below G (T'.setTop (mkF m (pc + 2) Ls (.ref x :: rest)))) : Go p e below G (T.setTop (mkF m pc Ls (.int z :: rest))) := by
 subst hty hdv hvs
 obtain ⟨T', h', kc, X', e', E, A, q⟩ := newP X hx hZ w eT (g := mkF m pc Ls (.int z :: rest)) rfl (hb hby hd) rfl hn (cap := cap) hcap hbig hc hl
 exact Go.step q (K T' h' kc _ rfl X' e' E ((Arv.new A hn).pad (pad_rep [] _ cap)))
theorem g_anewarray (X : Stand p l e R s m args below meth c T locs k n) (hx : p.tables.exec = Jvm.exec) (hby : c.code = code) (hZ : Z.Warmed39 s.vm) {own : String} (hown : s.vm.findClass own = some m.cls) {C ad : String} {index : Nat} (w1 : (Cond.classLink own index C).before a0 Z = true) (w2 : (Cond.arrayOver (.object C)).before a0 Z = true) (had : "[" ++ (FieldType.object C).toString = ad) (vs : List Value) (eT : T.heap = h) {z : Int32} {rest : List Value} (hn : ¬ z < 0) (cap : Nat) (hvs : List.replicate cap Value.null = vs) (hcap : z.toNatClampNeg ≤ cap) (hbig : cap * 8 ≤ 536870912) (hc : k + 1 ≤ R.cells) (hl : n + cap ≤ R.slots) (hd : decode code pc = .ok (.anewarray index, 3)) (K : ∀ T' h' kc x, h.size = x → Stand p l e R s m args below meth c T' locs (k + 1) (n + cap) → T'.heap = h' → Ext h h' → Arv Z h' x kc (.object C) z vs .null → Exa Z h' x ad → Ovr Z kc C → Go p e below G (T'.setTop (mkF m (pc + 3) Ls (.ref x :: rest)))) : Go p e below G (T.setTop (mkF m pc Ls (.int z :: rest))) := by
 subst hvs
 obtain ⟨T', h', kc, X', e', E, A, Ex, O, q⟩ := newRE X hx hZ hown w1 w2 eT (g := mkF m pc Ls (.int z :: rest)) rfl (hb hby hd) rfl hn (cap := cap) hcap hbig hc hl had
 exact Go.step q (K T' h' kc _ rfl X' e' E ((Arv.new A hn).pad (pad_rep [] _ cap)) Ex O)
theorem g_aastore (X : Stand p l e R s m args below meth c T locs k n) (hx : p.tables.exec = Jvm.exec) (hby : c.code = code) (hZ : Z.Warmed39 s.vm) (eT : T.heap = h) {a : Addr} {kc : ClassId} {C : String} {z : Int32} {vs : List Value} {dv : Value} (V : Arv Z h a kc (.object C) z vs dv) (O : Ovr Z kc C) {j : Int32} {x : Value} (hst : x = .null ∨ ∃ y, x = .ref y ∧ Ins Z h y C true) (i : Nat) (vs' : List Value) (hvs : vs.set i x = vs') (hj : ¬ j < 0 ∧ j < z) (hi : j.toNatClampNeg = i) (hlen : i < vs.length) (N : Fr n0 locs) (ga : n0 ≤ a) {rest : List Value} (hd : decode code pc = .ok (.aastore, 1)) (K : ∀ T' h', Stand p l e R s m args below meth c T' (locs ++ [⟨a, j.toNatClampNeg⟩]) k n → T'.heap = h' → Wr h h' a j.toNatClampNeg x → Arv Z h' a kc (.object C) z vs' dv → Fr n0 (locs ++ [⟨a, j.toNatClampNeg⟩]) → Go p e below G (T'.setTop (mkF m (pc + 1) Ls rest))) : Go p e below G (T.setTop (mkF m pc Ls (x :: .int j :: .ref a :: rest))) := by
 subst hvs
 obtain ⟨cl, Ar, q1, S, M, H, F⟩ := V
 have So : Sto Z h a x := by
  rcases hst with rfl | ⟨y, rfl, I⟩
  ·exact Or.inl rfl
  ·exact Sto.ofV Ar q1 O I
 have fi : fits (.object C) x = true := by rcases hst with rfl | ⟨y, rfl, I⟩ <;> rfl
 obtain ⟨T', h', X', e', W, q⟩ := stR X hx hZ eT Ar (j := j) (inb_of S hj) rfl So (g := mkF m pc Ls (x :: .int j :: .ref a :: rest)) rfl rfl (hb hby hd)
 exact Go.step q (K T' h' X' e' W (Arv.set Ar q1 S M H F fi W i hi hlen) (Fr.snoc X' N ga))
theorem g_arraycopyE (X : Stand p l e R s m args below meth c T locs k n) (hx : p.tables.exec = Jvm.exec) (hby : c.code = code) (hZ : Z.Warmed39 s.vm) {own : String} (hown : s.vm.findClass own = some m.cls) {index : Nat} (w1 : (Cond.methodLink own index Jvm.Stand.acN).before a0 Z = true) (w2 : (Cond.native Jvm.Stand.acN).before a0 Z = true) (w3 : (Cond.static Jvm.Stand.acN).before a0 Z = true) (w4 : (Cond.initialized "java/lang/System").before a0 Z = true) (eT : T.heap = h) {a b : Addr} {ka kb : ClassId} {ty ty' : FieldType} {z z' sp dp nn : Int32} {vs vd us : List Value} {dv dd : Value} (A : Arv Z h a ka ty z vs dv) (B : Arv Z h b kb ty' z' vd dd) (hty : (ty = ty' ∧ refKind ty = false) ∨ (refKind ty = true ∧ refKind ty' = true ∧ StoL Z h b us)) (h1 : ¬ sp < 0) (h2 : ¬ dp < 0) (h3 : ¬ nn < 0) (h4 : sp.toNatClampNeg + nn.toNatClampNeg ≤ z.toNatClampNeg) (h5 : dp.toNatClampNeg + nn.toNatClampNeg ≤ z'.toNatClampNeg) (hus : us = (List.range nn.toNatClampNeg).map fun i => vs.getD (sp.toNatClampNeg + i) dv) (hl : dp.toNatClampNeg + nn.toNatClampNeg ≤ vd.length) (N : Fr n0 locs) (ge : n0 ≤ b) (hsize : Ls.size = c.maxLocals) {rest : List Value} (hd : decode code pc = .ok (.invokestatic index, 3)) (hf : 1 ≤ R.frames) (hlo : (rest.map fun v => v.category).sum + 18 ≤ R.locals) (K : ∀ T' h' L vs', vs' = vd.take dp.toNatClampNeg ++ us ++ vd.drop (dp.toNatClampNeg + nn.toNatClampNeg) → Stand p l e R s m args below meth c T' L k n → T'.heap = h' → Fr n0 L → Keep h h' [b] → Arv Z h' b kb ty' z' vs' dd → Go p e below G (T'.setTop (mkF m (pc + 3) Ls rest))) : Go p e below G (T.setTop (mkF m pc Ls (.int nn :: .int dp :: .ref b :: .int sp :: .ref a :: rest))) := by
 obtain ⟨T', h', L, X', e', N', K', V', q⟩ := cpA X hx hZ hown w1 w2 w3 w4 eT A B hty h1 h2 h3 h4 h5 hus hl N ge (g := mkF m pc Ls (.int nn :: .int dp :: .ref b :: .int sp :: .ref a :: rest)) rfl hsize rfl (hb hby hd) hf (W := (rest.map fun v => v.category).sum) (by show 2 * 0 + _ ≤ _; omega) (by show _ + (7 + 11) ≤ _; omega)
 exact Go.step q (K T' h' L _ rfl X' e' N' K' V')
theorem g_lastore (X : Stand p l e R s m args below meth c T locs k n) (hx : p.tables.exec = Jvm.exec) (hby : c.code = code) (hZ : Z.Warmed39 s.vm) (eT : T.heap = h) {a : Addr} {kc : ClassId} {z : Int32} {vs : List Value} {dv : Value} (V : Arv Z h a kc .long z vs dv) {j : Int32} {x : Int64} (i : Nat) (vs' : List Value) (hvs : vs.set i (.long x) = vs') (hj : ¬ j < 0 ∧ j < z) (hi : j.toNatClampNeg = i) (hlen : i < vs.length) (N : Fr n0 locs) (ga : n0 ≤ a) {rest : List Value} (hd : decode code pc = .ok (.lastore, 1)) (K : ∀ T' h', Stand p l e R s m args below meth c T' (locs ++ [⟨a, j.toNatClampNeg⟩]) k n → T'.heap = h' → Wr h h' a j.toNatClampNeg (.long x) → Arv Z h' a kc .long z vs' dv → Fr n0 (locs ++ [⟨a, j.toNatClampNeg⟩]) → Go p e below G (T'.setTop (mkF m (pc + 1) Ls rest))) : Go p e below G (T.setTop (mkF m pc Ls (.long x :: .int j :: .ref a :: rest))) := by
 subst hvs
 obtain ⟨cl, Ar, q1, S, M, H, F⟩ := V
 obtain ⟨T', h', X', e', W, q⟩ := stJ X hx hZ eT Ar (j := j) (inb_of S hj) (g := mkF m pc Ls (.long x :: .int j :: .ref a :: rest)) rfl rfl (hb hby hd)
 exact Go.step q (K T' h' X' e' W (Arv.set Ar q1 S M H F rfl W i hi hlen) (Fr.snoc X' N ga))
theorem g_laload (X : Stand p l e R s m args below meth c T locs k n) (hx : p.tables.exec = Jvm.exec) (hby : c.code = code) (hZ : Z.Warmed39 s.vm) (eT : T.heap = h) {a : Addr} {kc : ClassId} {z : Int32} {vs : List Value} {dv : Value} (V : Arv Z h a kc .long z vs dv) {j : Int32} (v : Value) (hj : ¬ j < 0 ∧ j < z) (hv : vs.getD j.toNatClampNeg dv = v) {rest : List Value} (hd : decode code pc = .ok (.laload, 1)) (K : Go p e below G (T.setTop (mkF m (pc + 1) Ls (v :: rest)))) : Go p e below G (T.setTop (mkF m pc Ls (.int j :: .ref a :: rest))) := by
 obtain ⟨cl, Ar, q1, S, M, H, F⟩ := V
 have hin := inb_of S hj
 exact Go.step (fun t q => X.laload hx (j := j) (v := v) (by rw [eT]; exact Ar.1) (State.isArrayOf_alike hZ.alike Ar.2.1) Ar.2.2 hin (H.at hin hv) (g := mkF m pc Ls (.int j :: .ref a :: rest)) rfl rfl (hb hby hd) t q) K
theorem g_aaload (X : Stand p l e R s m args below meth c T locs k n) (hx : p.tables.exec = Jvm.exec) (hby : c.code = code) (hZ : Z.Warmed39 s.vm) (eT : T.heap = h) {a : Addr} {kc : ClassId} {ty : FieldType} {z : Int32} {vs : List Value} {dv : Value} (V : Arv Z h a kc ty z vs dv) (hty : ty.isReference = true) {j : Int32} (v : Value) (hj : ¬ j < 0 ∧ j < z) (hv : vs.getD j.toNatClampNeg dv = v) {rest : List Value} (hd : decode code pc = .ok (.aaload, 1)) (K : Go p e below G (T.setTop (mkF m (pc + 1) Ls (v :: rest)))) : Go p e below G (T.setTop (mkF m pc Ls (.int j :: .ref a :: rest))) := by
 obtain ⟨cl, Ar, q1, S, M, H, F⟩ := V
 have hin := inb_of S hj
 exact Go.step (fun t q => X.aaload hx (j := j) (v := v) (by rw [eT]; exact Ar.1) (State.isArrayOf_alike hZ.alike Ar.2.1) hty Ar.2.2 hin (H.at hin hv) (g := mkF m pc Ls (.int j :: .ref a :: rest)) rfl rfl (hb hby hd) t q) K
theorem g_arraylength (X : Stand p l e R s m args below meth c T locs k n) (hx : p.tables.exec = Jvm.exec) (hby : c.code = code) (hZ : Z.Warmed39 s.vm) (eT : T.heap = h) {a : Addr} {kc : ClassId} {ty : FieldType} {z : Int32} {vs : List Value} {dv : Value} (V : Arv Z h a kc ty z vs dv) {rest : List Value} (hd : decode code pc = .ok (.arraylength, 1)) (K : Go p e below G (T.setTop (mkF m (pc + 1) Ls (.int z :: rest)))) : Go p e below G (T.setTop (mkF m pc Ls (.ref a :: rest))) := by
 obtain ⟨cl, Ar, q1, S, M, H, F⟩ := V
 refine Go.step (fun t q => X.arraylength hx (by rw [eT]; exact Ar.1) (State.isArrayOf_alike hZ.alike Ar.2.1) (g := mkF m pc Ls (.ref a :: rest)) rfl rfl (hb hby hd) t q) ?_
 rw [len_of S M]
 exact K
theorem g_initO (X : Stand p l e R s m args below meth c T locs k n) (hx : p.tables.exec = Jvm.exec) (hby : c.code = code) (hZ : Z.Warmed39 s.vm) {own : String} (hown : s.vm.findClass own = some m.cls) {idx : Nat} (w1 : (Cond.methodLink own idx Lib.objectInit).before a0 Z = true) (w2 : (Cond.instanceMethod Lib.objectInit).before a0 Z = true) (w3 : (Cond.code Lib.objectInit ⟨#[0xb1]⟩ 1 none).before a0 Z = true) (eT : T.heap = h) (hsize : Ls.size = c.maxLocals) {a : Addr} {rest : List Value} (hf : 1 ≤ R.frames) (hl : (rest.map fun v => v.category).sum + 12 ≤ R.locals) (hd : decode code pc = .ok (.invokespecial idx, 3)) (K : ∀ T', Stand p l e R s m args below meth c T' locs k n → T'.heap = h → Go p e below G (T'.setTop (mkF m (pc + 3) Ls rest))) : Go p e below G (T.setTop (mkF m pc Ls (.ref a :: rest))) := by
 obtain ⟨T', X', e', q⟩ := initO X hx hZ hown w1 w2 w3 eT (g := mkF m pc Ls (.ref a :: rest)) rfl hsize rfl (hb hby hd) hf (W := (rest.map fun v => v.category).sum) (by show 2 * 0 + _ ≤ _; omega) hl
 exact Go.step q (K T' X' e')
theorem g_static (X : Stand p l e R s m args below meth c T locs k n) (hx : p.tables.exec = Jvm.exec) (hby : c.code = code) (hZ : Z.Warmed39 s.vm) {own : String} (hown : s.vm.findClass own = some m.cls) {index : Nat} {y : MethodName} {bytes : ByteArray} {maxL : Nat} {ret : Option FieldType} {rm : Room} {as' : Array Value} {Q : Option Value → Heap → List Loc → Prop} (hM : MetFree l y (head1 [Cond.code y bytes maxL ret] rm) (fun a U => a = as' ∧ Z.Warmed39 U.vm ∧ U.heap = h) (fun _ _ _ _ _ => True) (fun _ U o U' => RetG U Q rm.cells rm.slots U' o)) (wl : (Cond.methodLink own index y).before a0 Z = true) (ws : (Cond.static y).before a0 Z = true) (wz : (Cond.initialized y.cls).before a0 Z = true) (wc : (Cond.code y bytes maxL ret).before a0 Z = true) (hy : y.cls ≠ "java/lang/invoke/MethodHandle" ∧ y.cls ≠ "java/lang/invoke/VarHandle") (eT : T.heap = h) (hsize : Ls.size = c.maxLocals) (argsL : List Value) {rest : List Value} (hlen : ∀ sig, parseMethodDescriptor y.desc = some sig → argsL.length = sig.parameters.length) (has : argsL.toArray = as') (hst : st = argsL.reverse ++ rest) (hf : rm.frames + 1 ≤ R.frames) (hl : (rest.map fun v => v.category).sum + (maxL + 11) + rm.locals ≤ R.locals) (hc : k + rm.cells ≤ R.cells) (hs : n + rm.slots ≤ R.slots) (hd : decode code pc = .ok (.invokestatic index, 3)) (K : ∀ v T' L, Stand p l e R s m args below meth c T' (locs ++ L) (k + rm.cells) (n + rm.slots) → Q v T'.heap L → Go p e below G (T'.setTop (mkF m (pc + 3) Ls (v.toList ++ rest)))) : Go p e below G (T.setTop (mkF m pc Ls st)) := by
 obtain ⟨v, _, ⟨T', L', k', n'⟩, -, X', ⟨L, hq, l1, l2, l3⟩, q⟩ := Jvm.LawKit.callS X hx (y := y) hown (mvT hZ wl) (mvT hZ ws) (mvT hZ wz) (mvT hZ wc) hy (backOf (W := (rest.map fun v => v.category).sum) hM hZ wc wz hf hl) (g := mkF m pc Ls st) rfl hsize (argsL := argsL) (rest := rest) hlen hst (by show 2 * 0 + _ ≤ _; omega) (hb hby hd) (fun _ _ => ⟨has, eT, hc, hs⟩)
 dsimp only [Pt.U, Pt.locs, Pt.cells, Pt.slots] at X' l1 l2 l3 q hq
 subst l1 l2 l3
 exact Go.step q (K v T' L X' hq)
theorem g_special (X : Stand p l e R s m args below meth c T locs k n) (hx : p.tables.exec = Jvm.exec) (hby : c.code = code) (hZ : Z.Warmed39 s.vm) {own : String} (hown : s.vm.findClass own = some m.cls) {index : Nat} {y : MethodName} {bytes : ByteArray} {maxL : Nat} {ret : Option FieldType} {rm : Room} {as' : Array Value} {Q : Option Value → Heap → List Loc → Prop} (hM : MetFree l y (head1 [Cond.code y bytes maxL ret] rm) (fun a U => a = as' ∧ Z.Warmed39 U.vm ∧ U.heap = h) (fun _ _ _ _ _ => True) (fun _ U o U' => RetG U Q rm.cells rm.slots U' o)) (hy1 : y.name = "<init>") (hret : ret = none) (wl : (Cond.methodLink own index y).before a0 Z = true) (ws : (Cond.instanceMethod y).before a0 Z = true) (wz : (Cond.initialized y.cls).before a0 Z = true) (wc : (Cond.code y bytes maxL ret).before a0 Z = true) (hy : y.cls ≠ "java/lang/invoke/MethodHandle" ∧ y.cls ≠ "java/lang/invoke/VarHandle") (eT : T.heap = h) (hsize : Ls.size = c.maxLocals) {a : Addr} (argsL : List Value) {rest : List Value} (hlen : ∀ sig, parseMethodDescriptor y.desc = some sig → argsL.length = sig.parameters.length) (has : (.ref a :: argsL).toArray = as') (hst : st = argsL.reverse ++ .ref a :: rest) (hf : rm.frames + 1 ≤ R.frames) (hl : (rest.map fun v => v.category).sum + (maxL + 11) + rm.locals ≤ R.locals) (hc : k + rm.cells ≤ R.cells) (hs : n + rm.slots ≤ R.slots) (hd : decode code pc = .ok (.invokespecial index, 3)) (K : ∀ v T' L, Stand p l e R s m args below meth c T' (locs ++ L) (k + rm.cells) (n + rm.slots) → Q v T'.heap L → Go p e below G (T'.setTop (mkF m (pc + 3) Ls (v.toList ++ rest)))) : Go p e below G (T.setTop (mkF m pc Ls st)) := by
 subst hret
 obtain ⟨v, _, ⟨T', L', k', n'⟩, -, X', ⟨L, hq, l1, l2, l3⟩, q⟩ := X.specialBack hx (y := y) hy1 hown (mvT hZ wl) (mvT hZ ws) (mvT hZ wc) hy (backOf (W := (rest.map fun v => v.category).sum) hM hZ wc wz hf hl) (g := mkF m pc Ls st) rfl hsize (Steps.refl _) (a := a) (argsL := argsL) (rest := rest) hlen hst (by show 2 * 0 + _ ≤ _; omega) (hb hby hd) (fun _ _ => ⟨has, eT, hc, hs⟩)
 dsimp only [Pt.U, Pt.locs, Pt.cells, Pt.slots] at X' l1 l2 l3 q hq
 subst l1 l2 l3
 exact Go.step (fun t r => q.trans r) (K v T' L X' hq)
theorem g_virtual (X : Stand p l e R s m args below meth c T locs k n) (hx : p.tables.exec = Jvm.exec) (hby : c.code = code) (hZ : Z.Warmed39 s.vm) {own : String} (hown : s.vm.findClass own = some m.cls) {C : String} {index : Nat} {z : MethodName} {y : MethodName} {bytes : ByteArray} {maxL : Nat} {ret : Option FieldType} {rm : Room} {as' : Array Value} {Q : Option Value → Heap → List Loc → Prop} (hM : MetFree l y (head1 [Cond.code y bytes maxL ret] rm) (fun a U => a = as' ∧ Z.Warmed39 U.vm ∧ U.heap = h) (fun _ _ _ _ _ => True) (fun _ U o U' => RetG U Q rm.cells rm.slots U' o)) (wl : (Cond.methodLink own index z).before a0 Z = true) (wd : (Cond.declares z).before a0 Z = true) (hnf : NotFace s z) (wsel : (Cond.selects C z y).before a0 Z = true) (ws : (Cond.instanceMethod y).before a0 Z = true) (wz : (Cond.initialized y.cls).before a0 Z = true) (wc : (Cond.code y bytes maxL ret).before a0 Z = true) (hy : z.cls ≠ "java/lang/invoke/MethodHandle" ∧ z.cls ≠ "java/lang/invoke/VarHandle") (eT : T.heap = h) {a : Addr} (E : Exa Z h a C) (hsize : Ls.size = c.maxLocals) (argsL : List Value) {rest : List Value} (hlen : ∀ sig, parseMethodDescriptor z.desc = some sig → argsL.length = sig.parameters.length) (has : (.ref a :: argsL).toArray = as') (hst : st = argsL.reverse ++ .ref a :: rest) (hf : rm.frames + 1 ≤ R.frames) (hl : (rest.map fun v => v.category).sum + (maxL + 11) + rm.locals ≤ R.locals) (hc : k + rm.cells ≤ R.cells) (hs : n + rm.slots ≤ R.slots) (hd : decode code pc = .ok (.invokevirtual index, 3)) (K : ∀ v T' L, Stand p l e R s m args below meth c T' (locs ++ L) (k + rm.cells) (n + rm.slots) → Q v T'.heap L → Go p e below G (T'.setTop (mkF m (pc + 3) Ls (v.toList ++ rest)))) : Go p e below G (T.setTop (mkF m pc Ls st)) := by
 obtain ⟨cq, kq, qa, qb, qc⟩ := isOf hZ eT E
 obtain ⟨v, _, ⟨T', L', k', n'⟩, -, X', ⟨L, hq, l1, l2, l3⟩, q⟩ := X.virtualBack hx (y := z) (z := y) hown (mvT hZ wl) (mvT hZ wd) hnf (mvT hZ wsel) (mvT hZ ws) hy (backOf (W := (rest.map fun v => v.category).sum) hM hZ wc wz hf hl) qa qc (g := mkF m pc Ls st) rfl hsize (Steps.refl _) (argsL := argsL) (rest := rest) hlen hst (by show 2 * 0 + _ ≤ _; omega) (hb hby hd) (fun _ _ => ⟨has, eT, hc, hs⟩)
 dsimp only [Pt.U, Pt.locs, Pt.cells, Pt.slots] at X' l1 l2 l3 q hq
 subst l1 l2 l3
 exact Go.step (fun t r => q.trans r) (K v T' L X' hq)
theorem g_private (X : Stand p l e R s m args below meth c T locs k n) (hx : p.tables.exec = Jvm.exec) (hby : c.code = code) (hZ : Z.Warmed39 s.vm) {own : String} (hown : s.vm.findClass own = some m.cls) {index j : Nat} {y : MethodName} {bytes : ByteArray} {maxL : Nat} {ret : Option FieldType} {rm : Room} {as' : Array Value} {Q : Option Value → Heap → List Loc → Prop} (hM : MetFree l y (head1 [Cond.code y bytes maxL ret] rm) (fun a U => a = as' ∧ Z.Warmed39 U.vm ∧ U.heap = h) (fun _ _ _ _ _ => True) (fun _ U o U' => RetG U Q rm.cells rm.slots U' o)) (wl : (Cond.methodLink own index y).before a0 Z = true) (ws : (Cond.instanceMethod y).before a0 Z = true) (wi : (Cond.instantiable y.cls j).before a0 Z = true) (wp : (Cond.privateMethod y).before a0 Z = true) (wz : (Cond.initialized y.cls).before a0 Z = true) (wc : (Cond.code y bytes maxL ret).before a0 Z = true) (hy : y.cls ≠ "java/lang/invoke/MethodHandle" ∧ y.cls ≠ "java/lang/invoke/VarHandle") (eT : T.heap = h) {a : Addr} {C : String} (E : Exa Z h a C) (hsize : Ls.size = c.maxLocals) (argsL : List Value) {rest : List Value} (hlen : ∀ sig, parseMethodDescriptor y.desc = some sig → argsL.length = sig.parameters.length) (has : (.ref a :: argsL).toArray = as') (hst : st = argsL.reverse ++ .ref a :: rest) (hf : rm.frames + 1 ≤ R.frames) (hl : (rest.map fun v => v.category).sum + (maxL + 11) + rm.locals ≤ R.locals) (hc : k + rm.cells ≤ R.cells) (hs : n + rm.slots ≤ R.slots) (hd : decode code pc = .ok (.invokevirtual index, 3)) (K : ∀ v T' L, Stand p l e R s m args below meth c T' (locs ++ L) (k + rm.cells) (n + rm.slots) → Q v T'.heap L → Go p e below G (T'.setTop (mkF m (pc + 3) Ls (v.toList ++ rest)))) : Go p e below G (T.setTop (mkF m pc Ls st)) := by
 obtain ⟨cq, q1, q2⟩ := E.cell
 obtain ⟨v, _, ⟨T', L', k', n'⟩, -, X', ⟨L, hq, l1, l2, l3⟩, q⟩ := X.privateBack hx (y := y) hown (mvT hZ wl) (mvT hZ ws) (selOf (mvT hZ wi) (mvP hZ wp) (mvT hZ ws) hy) (Cond.privateMethod_at (mvP hZ wp (args := #[]))) (mvT hZ wc) hy (backOf (W := (rest.map fun v => v.category).sum) hM hZ wc wz hf hl) (g := mkF m pc Ls st) rfl hsize (Steps.refl _) (a := a) (by rw [eT]; exact q1) q2 (argsL := argsL) (rest := rest) hlen hst (by show 2 * 0 + _ ≤ _; omega) (hb hby hd) (fun _ _ => ⟨has, eT, hc, hs⟩)
 dsimp only [Pt.U, Pt.locs, Pt.cells, Pt.slots] at X' l1 l2 l3 q hq
 subst l1 l2 l3
 exact Go.step (fun t r => q.trans r) (K v T' L X' hq)
theorem g_ret (X : Stand p l e R s m args below meth c T locs k n) (hx : p.tables.exec = Jvm.exec) (hby : c.code = code) (hret : meth.sig.returnType = none) (hlocks : meth.locks = false) {Q : Option Value → Heap → List Loc → Prop} {cells slots : Nat} (hd : decode code pc = .ok (.return_, 1)) (eT : T.heap = h) (hk : k ≤ cells) (hn : n ≤ slots) (hq : Q none h locs) : Go p e below (RetG s Q cells slots) (T.setTop (mkF m pc Ls [])) := Go.leave X (v := none) (fun _ => rfl) hlocks eT hq hk hn (fun fs hr => X.returnOut hx hret (hb hby hd) hr)
theorem g_iret (X : Stand p l e R s m args below meth c T locs k n) (hx : p.tables.exec = Jvm.exec) (hby : c.code = code) {z : Int32} {rest : List Value} (hret : meth.sig.returnType = some .int) (hlocks : meth.locks = false) {Q : Option Value → Heap → List Loc → Prop} {cells slots : Nat} (hd : decode code pc = .ok (.ireturn, 1)) (eT : T.heap = h) (hk : k ≤ cells) (hn : n ≤ slots) (hq : Q (some (.int z)) h locs) : Go p e below (RetG s Q cells slots) (T.setTop (mkF m pc Ls (.int z :: rest))) := Go.leave X (v := some (.int z)) (fun q => by rw [hret] at q; cases q) hlocks eT hq hk hn (fun fs hr => retOut X hx (t := .int) hret rfl (Or.inl ⟨rfl, Or.inl rfl, z, rfl⟩) (hb hby hd) hr)
theorem g_nret (X : Stand p l e R s m args below meth c T locs k n) (hx : p.tables.exec = Jvm.exec) (hby : c.code = code) {z : Int32} {rest : List Value} {t : FieldType} (ht : t = .boolean ∨ t = .byte ∨ t = .char ∨ t = .short) (hret : meth.sig.returnType = some t) (hlocks : meth.locks = false) {Q : Option Value → Heap → List Loc → Prop} {cells slots : Nat} (hd : decode code pc = .ok (.ireturn, 1)) (eT : T.heap = h) (hk : k ≤ cells) (hn : n ≤ slots) (hq : Q (some (.int (nar t z))) h locs) : Go p e below (RetG s Q cells slots) (T.setTop (mkF m pc Ls (.int z :: rest))) := Go.leave X (v := some (.int (nar t z))) (fun q => by rw [hret] at q; cases q) hlocks eT hq hk hn (fun fs hr => retN X hx (t := t) hret ht (hb hby hd) hr)
theorem g_lret (X : Stand p l e R s m args below meth c T locs k n) (hx : p.tables.exec = Jvm.exec) (hby : c.code = code) {z : Int64} {rest : List Value} (hret : meth.sig.returnType = some .long) (hlocks : meth.locks = false) {Q : Option Value → Heap → List Loc → Prop} {cells slots : Nat} (hd : decode code pc = .ok (.lreturn, 1)) (eT : T.heap = h) (hk : k ≤ cells) (hn : n ≤ slots) (hq : Q (some (.long z)) h locs) : Go p e below (RetG s Q cells slots) (T.setTop (mkF m pc Ls (.long z :: rest))) := Go.leave X (v := some (.long z)) (fun q => by rw [hret] at q; cases q) hlocks eT hq hk hn (fun fs hr => retOut X hx (t := .long) hret rfl (Or.inr (Or.inl ⟨rfl, rfl, z, rfl⟩)) (hb hby hd) hr)
theorem g_aret (X : Stand p l e R s m args below meth c T locs k n) (hx : p.tables.exec = Jvm.exec) (hby : c.code = code) {z : Value} {rest : List Value} {t : FieldType} (ht : t.isReference = true) (hz : z.isRef = true) (hnar : narrow t z = z) (hret : meth.sig.returnType = some t) (hlocks : meth.locks = false) {Q : Option Value → Heap → List Loc → Prop} {cells slots : Nat} (hd : decode code pc = .ok (.areturn, 1)) (eT : T.heap = h) (hk : k ≤ cells) (hn : n ≤ slots) (hq : Q (some z) h locs) : Go p e below (RetG s Q cells slots) (T.setTop (mkF m pc Ls (z :: rest))) := Go.leave X (v := some z) (fun q => by rw [hret] at q; cases q) hlocks eT hq hk hn (fun fs hr => retOut X hx (t := t) hret hnar (Or.inr (Or.inr (Or.inr (Or.inr ⟨rfl, ht, hz⟩)))) (hb hby hd) hr)
end
end Jvm.Own

namespace Jvm.Own
open Sem ClassFile Op Lib Jvm.Stand Jvm.Free Jvm.LawKit Jvm.RoadKit
def RetW (s : State) (Q : Option Value → Heap → List Loc → Prop) (cells slots : Nat) (s₂ : State) (o : Outcome) : Prop := ∃ v L, o = .returned v ∧ Q v s₂.heap L ∧ ReturnedEndW s o s₂ L cells slots
section
variable {p : Program} {l : Launch} {e : Env} {R : Room} {s : State} {vm0 : Vm} {m : MethodId} {args : Array Value} {below : List Frame} {meth : Method} {c : Code} {T : State} {locs : List Loc} {k n k0 : Nat} {G : State → Outcome → Prop} {code : ByteArray} {pc : Nat} {Ls : Array Slot} {st : List Value} {Z : State} {a0 : Array Value} {h : Heap} {n0 : Nat}
theorem Go.leaveW (X : Stand p l e R (s.setVm vm0) m args below meth c T locs k n) {v : Option Value} (hv : meth.sig.returnType = none → v = none) (hlocks : meth.locks = false) {Q : Option Value → Heap → List Loc → Prop} {cells slots : Nat} {σ : State} (hS : s.Since vm0 k0) (eT : T.heap = h) (hkk : k0 ≤ h.size) (hq : Q v h locs) (hk : k ≤ cells) (hn : n ≤ slots)
  (st : ∀ fs, (∀ (f : JFrame) (acts : List Action), f.method = m → f.locked = none → f.entered = [] → (doReturn e (T.setTop f) acts v).1 = T.setFrames fs) → Steps p.tables e below σ (T.setFrames fs)) : Go p e below (RetW s Q cells slots) σ := by
 subst eT
 obtain ⟨fs, hr, hrun, hended, h1, h2, h3, h4⟩ := X.leaveW hS hkk (v := v) hv hlocks
 exact ⟨_, _, st fs hr, hrun, hended, _, _, rfl, hq, h1, h2, h3, h4.mono hk hn⟩
theorem backW {y : MethodName} {bytes : ByteArray} {maxL : Nat} {ret : Option FieldType} {rm : Room} {len W : Nat} {as' : Array Value} {Q : Option Value → Heap → List Loc → Prop} {PV : Vm → Prop}
  (hM : MetFree l y (head1 [Cond.code y bytes maxL ret] rm) (fun a U => a = as' ∧ PV U.vm ∧ U.heap = h) (fun _ _ _ _ _ => True) (fun _ U o U' => RetW U Q rm.cells rm.slots U' o))
  (hZ : Z.Warmed39 s.vm) (hPV : ∀ vm, s.WarmedH vm → PV vm) (wc : (Cond.code y bytes maxL ret).before a0 Z = true) (wz : (Cond.initialized y.cls).before a0 Z = true) (hf : rm.frames + 1 ≤ R.frames) (hl : W + (maxL + 11) + rm.locals ≤ R.locals) :
  BackS l R p e below s args y len W (fun A a => a = as' ∧ A.U.heap = h ∧ A.cells + rm.cells ≤ R.cells ∧ A.slots + rm.slots ≤ R.slots)
   (fun A _ v B => ∃ L, Q v B.U.heap L ∧ B.locs = A.locs ++ L ∧ B.cells = A.cells + rm.cells ∧ B.slots = A.slots + rm.slots) :=
 BackS.of_freeW (bytes := bytes) (maxL := maxL) (ret := ret) (E := fun _ _ o t L k n => k = rm.cells ∧ n = rm.slots ∧ ∃ v, o = .returned v ∧ Q v t.heap L) hM hf hl
  (fun m meth c A a Y hp => have hU : Z.Warmed39 A.U.vm := wtrans hZ Y.warmed
   ⟨by show (Cond.and _ .tt).before a A.U = true; rw [Cond.before_and, mv hU wc]; rfl, mv hU wc, mv hU wz, hp.2.2.1, hp.2.2.2⟩)
  (fun m meth c A a g mk Y hp => ⟨hp.1, hPV _ Y.warmed, hp.2.1⟩) (fun _ _ _ _ _ _ _ _ _ => trivial)
  (fun _ _ _ _ ⟨v, L, h1, h2, h3⟩ => ⟨L, _, _, h3, rfl, rfl, v, h1, h2⟩)
  (fun m meth c A a g mk v t L k n Y hp _ _ ⟨e1, e2, v', e3, e4⟩ => by cases e3; subst e1 e2; exact ⟨L, e4, rfl, rfl, rfl⟩)
end
end Jvm.Own

namespace Jvm.Pilot.@@N@@
open Jvm Jvm.ClassFile Sem Op Lib Jvm.Free Jvm.Stand Jvm.LawKit Jvm.RoadKit Bundle Jvm.Own Jvm.Pilot.@@N@@.Jvm.D


def own_b (k : Int32) (t r : Int64) : Int32 := if r < t then -(k + 2) else if t < r then -(k + 1) else k
def own_ix0 (t : Int64) : Int32 := -1
def own_ix1 (t r0 : Int64) : Int32 := if t < r0 then -1 else own_b 0 t r0
def own_ix2 (t r0 r1 : Int64) : Int32 := if t < r1 then (if t < r0 then -1 else own_b 0 t r0) else own_b 1 t r1
def own_ix3 (t r0 r1 r2 : Int64) : Int32 := if t < r2 then (if t < r1 then own_b 0 t r0 else own_b 1 t r1) else own_b 2 t r2
theorem own_cpl {vd us : List Value} {d : Value} {dp j : Nat} (hl : dp ≤ vd.length) (hj : j < dp) {ds : List Value} : (vd.take dp ++ us ++ ds).getD j d = vd.getD j d := by
 have h1 : (vd.take dp).length = dp := by rw [List.length_take]; omega
 rw [List.getD_eq_getElem?_getD, List.getD_eq_getElem?_getD, List.append_assoc, List.getElem?_append_left (by omega), List.getElem?_take_of_lt hj]
theorem own_cpm {vd : List Value} {d : Value} {dp nn j : Nat} {f : Nat → Value} (hl : dp ≤ vd.length) (hj : dp ≤ j) (hj2 : j < dp + nn) {ds : List Value} : (vd.take dp ++ (List.range nn).map f ++ ds).getD j d = f (j - dp) := by
 have h1 : (vd.take dp).length = dp := by rw [List.length_take]; omega
 rw [List.getD_eq_getElem?_getD, List.append_assoc, List.getElem?_append_right (by omega), h1, List.getElem?_append_left (by rw [List.length_map, List.length_range]; omega), List.getElem?_map, List.getElem?_range (by omega)]
 rfl
theorem own_setD {l : List Value} {i : Nat} {x d : Value} (h : i < l.length) : (l.set i x).getD i d = x := by
 simp [List.getD_eq_getElem?_getD, List.getElem?_set_self h]
theorem own_setN {l : List Value} {i j : Nat} {x d : Value} (h : i ≠ j) : (l.set i x).getD j d = l.getD j d := by
 simp [List.getD_eq_getElem?_getD, List.getElem?_set_ne h]
theorem own_cplen {vd : List Value} {dp nn : Nat} {f : Nat → Value} (h : dp + nn ≤ vd.length) : (vd.take dp ++ (List.range nn).map f ++ vd.drop (dp + nn)).length = vd.length := by
 simp only [List.length_append, List.length_take, List.length_drop, List.length_map, List.length_range]; omega
theorem own_sto {Z : State} {h : Heap} {a : Addr} {k : ClassId} {C : String} {z : Int32} {ws : List Value} {dv : Value} (V : Arv Z h a k (.object C) z ws dv) (O : Ovr Z k C) : ∀ (us : List Value), (∀ u ∈ us, u = .null ∨ ∃ y, u = .ref y ∧ Ins Z h y C true) → StoL Z h a us := by
 intro us
 induction us with
 | nil => intro _; trivial
 | cons u us ih =>
  intro H
  refine ⟨?_, ih fun w hw => H w (List.mem_cons_of_mem _ hw)⟩
  obtain ⟨c, A, q1, -⟩ := V
  rcases H u (List.mem_cons_self ..) with rfl | ⟨y, rfl, I⟩
  ·exact Or.inl rfl
  ·exact Sto.ofV A q1 O I
theorem own_stoR {Z : State} {h : Heap} {a : Addr} {k : ClassId} {C : String} {z : Int32} {ws : List Value} {dv : Value} {nn : Nat} {f : Nat → Value} (V : Arv Z h a k (.object C) z ws dv) (O : Ovr Z k C) (H : ∀ i, i < nn → f i = .null ∨ ∃ y, f i = .ref y ∧ Ins Z h y C true) : StoL Z h a ((List.range nn).map f) :=
 own_sto V O _ fun u hu => by
  obtain ⟨i, hi, rfl⟩ := List.mem_map.mp hu
  exact H i (List.mem_range.mp hi)
def own_beats (bu : Int32) (x y : Int64) : Int32 := if x = (-9223372036854775808 : Int64) then (if y = (-9223372036854775808 : Int64) then 0 else 1) else if y = (-9223372036854775808 : Int64) then 0 else if bu = 0 then (if x < y then 1 else 0) else (if y < x then 1 else 0)
def own_maxL (a b : Int64) : Int64 := if a < b then b else a
def own_BB (Z : State) (h : Heap) (a rk la up sd : Addr) (cn : Int32) (qy : Int64) : Prop := Exa Z h a "com/example/tidegate/tidegate/engine/BookSide" ∧ Fld Z h a "com/example/tidegate/tidegate/engine/BookSide" "ranks" "[J" (.ref rk) ∧ Fld Z h a "com/example/tidegate/tidegate/engine/BookSide" "levels" "[Lcom/example/tidegate/tidegate/engine/BookSide$Level;" (.ref la) ∧ Fld Z h a "com/example/tidegate/tidegate/engine/BookSide" "unpriced" "Lcom/example/tidegate/tidegate/engine/BookSide$Level;" (.ref up) ∧ Fld Z h a "com/example/tidegate/tidegate/engine/BookSide" "side" "Lcom/example/tidegate/tidegate/engine/Side;" (.ref sd) ∧ Fld Z h a "com/example/tidegate/tidegate/engine/BookSide" "levelCount" "I" (.int cn) ∧ Fld Z h a "com/example/tidegate/tidegate/engine/BookSide" "quantity" "J" (.long qy)
def own_LL (Z : State) (h : Heap) (A : Addr) (fi la : Value) : Prop := Exa Z h A "com/example/tidegate/tidegate/engine/BookSide$Level" ∧ Fld Z h A "com/example/tidegate/tidegate/engine/BookSide$Level" "first" "Lcom/example/tidegate/tidegate/engine/Order;" fi ∧ Fld Z h A "com/example/tidegate/tidegate/engine/BookSide$Level" "last" "Lcom/example/tidegate/tidegate/engine/Order;" la
def own_OO (Z : State) (h : Heap) (o : Addr) (q : Int64) (pv nx ro : Value) : Prop := Exa Z h o "com/example/tidegate/tidegate/engine/Order" ∧ Fld Z h o "com/example/tidegate/tidegate/engine/Order" "price" "J" (.long q) ∧ Fld Z h o "com/example/tidegate/tidegate/engine/Order" "peak" "J" (.long (0 : Int64)) ∧ Fld Z h o "com/example/tidegate/tidegate/engine/Order" "remaining" "J" (.long (1 : Int64)) ∧ Fld Z h o "com/example/tidegate/tidegate/engine/Order" "slice" "J" (.long (0 : Int64)) ∧ Fld Z h o "com/example/tidegate/tidegate/engine/Order" "previous" "Lcom/example/tidegate/tidegate/engine/Order;" pv ∧ Fld Z h o "com/example/tidegate/tidegate/engine/Order" "next" "Lcom/example/tidegate/tidegate/engine/Order;" nx ∧ Fld Z h o "com/example/tidegate/tidegate/engine/Order" "restingOn" "Lcom/example/tidegate/tidegate/engine/BookSide;" ro
theorem own_OO.keep {Z : State} {h h' : Heap} {o : Addr} {q : Int64} {pv nx ro : Value} {ws : List Addr} (F : own_OO Z h o q pv nx ro) (K : Keep h h' ws) (n : o ∉ ws) : own_OO Z h' o q pv nx ro := by
 obtain ⟨a, b, c, d, e, f, g, i⟩ := F
 exact ⟨a.keep K, b.keep K n, c.keep K n, d.keep K n, e.keep K n, f.keep K n, g.keep K n, i.keep K n⟩
theorem own_LL.keep {Z : State} {h h' : Heap} {A : Addr} {fi la : Value} {ws : List Addr} (F : own_LL Z h A fi la) (K : Keep h h' ws) (n : A ∉ ws) : own_LL Z h' A fi la := ⟨F.1.keep K, F.2.1.keep K n, F.2.2.keep K n⟩
abbrev own_Or : Type := Addr × Int64
def own_hd (xs : List own_Or) (e : Value) : Value := match xs with
 | [] => e
 | x :: _ => .ref x.1
def own_ls (e : Value) : List own_Or → Value
 | [] => e
 | x :: r => own_ls (.ref x.1) r
def own_CH (Z : State) (h : Heap) (a : Addr) : Value → List own_Or → Value → Prop
 | _, [], _ => True
 | pv, x :: r, e => own_OO Z h x.1 x.2 pv (own_hd r e) (.ref a) ∧ own_CH Z h a (.ref x.1) r e
theorem own_hd_app (xs ys : List own_Or) (e : Value) : own_hd (xs ++ ys) e = own_hd xs (own_hd ys e) := by cases xs <;> rfl
theorem own_ls_app (e : Value) (xs ys : List own_Or) : own_ls e (xs ++ ys) = own_ls (own_ls e xs) ys := by
 induction xs generalizing e with
 | nil => rfl
 | cons x r ih => exact ih _
theorem own_CH_app {Z : State} {h : Heap} {a : Addr} {pv e : Value} {xs ys : List own_Or} : own_CH Z h a pv (xs ++ ys) e ↔ own_CH Z h a pv xs (own_hd ys e) ∧ own_CH Z h a (own_ls pv xs) ys e := by
 induction xs generalizing pv with
 | nil => exact ⟨fun q => ⟨trivial, q⟩, fun q => q.2⟩
 | cons x r ih =>
  show own_OO Z h x.1 x.2 pv (own_hd (r ++ ys) e) (.ref a) ∧ own_CH Z h a (.ref x.1) (r ++ ys) e ↔ _
  rw [own_hd_app, ih]
  exact ⟨fun ⟨p, q, t⟩ => ⟨⟨p, q⟩, t⟩, fun ⟨⟨p, q⟩, t⟩ => ⟨p, q, t⟩⟩
theorem own_CH.keep {Z : State} {h h' : Heap} {a : Addr} {ws : List Addr} (K : Keep h h' ws) : ∀ {xs : List own_Or} {pv e : Value}, own_CH Z h a pv xs e → (∀ x ∈ xs, x.1 ∉ ws) → own_CH Z h' a pv xs e
 | [], _, _, _, _ => trivial
 | x :: r, _, _, H, N => ⟨H.1.keep K (N x (List.mem_cons_self ..)), own_CH.keep K H.2 fun y hy => N y (List.mem_cons_of_mem _ hy)⟩
def own_LV (Z : State) (h : Heap) (a A : Addr) (xs : List own_Or) : Prop := own_LL Z h A (own_hd xs .null) (own_ls .null xs) ∧ own_CH Z h a .null xs .null
def own_AR (Z : State) (h : Heap) (rk la : Addr) (kr kl : ClassId) (rs : List Int64) (As : List Addr) : Prop := (∃ vs : List Value, Arv Z h rk kr .long (16 : Int32) vs (.long (0 : Int64)) ∧ 16 ≤ vs.length ∧ ∀ k, k < rs.length → vs.getD k (.long (0 : Int64)) = .long (rs.getD k 0)) ∧ (∃ wl : List Value, Arv Z h la kl (.object "com/example/tidegate/tidegate/engine/BookSide$Level") (16 : Int32) wl .null ∧ 16 ≤ wl.length ∧ ∀ k, k < As.length → wl.getD k .null = .ref (As.getD k 0)) ∧ rs.length = As.length ∧ rs.length ≤ 3
theorem own_AR.keep {Z : State} {h h' : Heap} {rk la : Addr} {kr kl : ClassId} {rs : List Int64} {As : List Addr} {ws : List Addr} (F : own_AR Z h rk la kr kl rs As) (K : Keep h h' ws) (n1 : rk ∉ ws) (n2 : la ∉ ws) : own_AR Z h' rk la kr kl rs As := by
 obtain ⟨⟨vs, V, r⟩, ⟨wl, W, r'⟩, q⟩ := F
 exact ⟨⟨vs, V.keep K n1, r⟩, ⟨wl, W.keep K n2, r'⟩, q⟩
theorem own_insD {α : Type} {f : α → Value} {z t : α} {vs vs' : List Value} {rs : List α} {d : Value} {i : Nat} (hi : i ≤ rs.length) (hl : 16 ≤ vs.length) (h3 : rs.length ≤ 3) (gr : ∀ k, k < rs.length → vs.getD k d = f (rs.getD k z)) (evs : vs' = vs.take (i + 1) ++ (List.range (rs.length - i)).map (fun k => vs.getD (i + k) d) ++ vs.drop ((i + 1) + (rs.length - i))) : 16 ≤ (vs'.set i (f t)).length ∧ ∀ k, k < (rs.insertIdx i t).length → (vs'.set i (f t)).getD k d = f ((rs.insertIdx i t).getD k z) := by
 have hl' : vs'.length = vs.length := by rw [evs]; exact own_cplen (by omega)
 refine ⟨by rw [List.length_set]; omega, fun k hk => ?_⟩
 rw [List.length_insertIdx_of_le_length hi] at hk
 rw [List.getD_eq_getElem?_getD (l := rs.insertIdx i t), List.getElem?_insertIdx]
 by_cases h1 : k < i
 ·rw [own_setN (by omega), if_pos h1, evs, own_cpl (by omega) (by omega), gr k (by omega), List.getD_eq_getElem?_getD]
 ·by_cases h2 : k = i
  ·subst h2
   rw [own_setD (by omega), if_neg h1, if_pos rfl, if_pos hi]
   rfl
  ·rw [own_setN (fun q => h2 q.symm), if_neg h1, if_neg h2, evs, own_cpm (by omega) (by omega) (by omega), show i + (k - (i + 1)) = k - 1 by omega, gr (k - 1) (by omega), List.getD_eq_getElem?_getD]
theorem own_delD {α : Type} {f : α → Value} {z : α} {vs vs' : List Value} {rs : List α} {d : Value} {i : Nat} (hi : i < rs.length) (hl : 16 ≤ vs.length) (h3 : rs.length ≤ 3) (gr : ∀ k, k < rs.length → vs.getD k d = f (rs.getD k z)) (evs : vs' = vs.take i ++ (List.range (rs.length - 1 - i)).map (fun k => vs.getD ((i + 1) + k) d) ++ vs.drop (i + (rs.length - 1 - i))) : 16 ≤ vs'.length ∧ ∀ k, k < (rs.eraseIdx i).length → vs'.getD k d = f ((rs.eraseIdx i).getD k z) := by
 refine ⟨by rw [evs, own_cplen (by omega)]; exact hl, fun k hk => ?_⟩
 rw [List.length_eraseIdx_of_lt hi] at hk
 rw [List.getD_eq_getElem?_getD (l := rs.eraseIdx i), List.getElem?_eraseIdx]
 by_cases h1 : k < i
 ·rw [if_pos h1, evs, own_cpl (by omega) (by omega), gr k (by omega), List.getD_eq_getElem?_getD]
 ·rw [if_neg h1, evs, own_cpm (by omega) (by omega) (by omega), show (i + 1) + (k - i) = k + 1 by omega, gr (k + 1) (by omega), List.getD_eq_getElem?_getD]

theorem own_hn {N : Nat} (h : N ≤ 16) : (Int32.ofNat N).toInt = N := Int32.toInt_ofNat_of_lt (by omega)
theorem own_tn2 {i : Nat} (h : i ≤ 16) : (Int32.ofNat i).toNatClampNeg = i := by simp only [Int32.toNatClampNeg, own_hn h]; omega
theorem own_in2 {i : Nat} (h : i < 16) : ¬ Int32.ofNat i < 0 ∧ Int32.ofNat i < 16 := by
 have e0 : (0 : Int32).toInt = 0 := rfl
 have e1 : (16 : Int32).toInt = 16 := rfl
 rw [Int32.lt_iff_toInt_lt, Int32.lt_iff_toInt_lt, own_hn (by omega)]; omega
theorem own_nneg {i : Nat} (h : i ≤ 16) : ¬ Int32.ofNat i < 0 := by
 have e0 : (0 : Int32).toInt = 0 := rfl
 rw [Int32.lt_iff_toInt_lt, own_hn h]; omega
theorem own_up (j : Nat) : Int32.ofNat j + (1 : Int32) = Int32.ofNat (j + 1) := by rw [Int32.ofNat_add]; rfl
theorem own_subN {c i : Nat} (h : i ≤ c) (hc : c ≤ 16) : Int32.ofNat c - Int32.ofNat i = Int32.ofNat (c - i) := by
 have h1 := c_isub (Int32.ofNat c) (Int32.ofNat i)
 have h2 := rng32 (Int32.ofNat c - Int32.ofNat i)
 rw [own_hn hc, own_hn (by omega)] at h1
 exact Int32.toInt_inj.mp (by rw [own_hn (by omega)]; omega)
theorem own_sub1 {c : Nat} (h : 1 ≤ c) (hc : c ≤ 16) : Int32.ofNat c - (1 : Int32) = Int32.ofNat (c - 1) := own_subN (i := 1) h hc
theorem own_negi {i : Nat} (h : i ≤ 15) : -Int32.ofNat (i + 1) < 0 := by
 have h1 := c_ineg (Int32.ofNat (i + 1))
 have h2 := rng32 (-Int32.ofNat (i + 1))
 have e0 : (0 : Int32).toInt = 0 := rfl
 rw [own_hn (by omega)] at h1
 rw [Int32.lt_iff_toInt_lt]; omega
theorem own_ni {i : Nat} : -(-Int32.ofNat (i + 1)) - (1 : Int32) = Int32.ofNat i := by rw [Int32.neg_neg, ← own_up, Int32.add_sub_cancel]
theorem own_ne16 {c : Nat} (h : c ≤ 3) : ¬ Int32.ofNat c = 16 := fun q => by
 have e := own_hn (N := c) (by omega)
 rw [q] at e
 have e1 : (16 : Int32).toInt = 16 := rfl
 omega
theorem own_mem {As : List Addr} {k : Nat} (h : k < As.length) : As.getD k 0 ∈ As := by
 rw [List.getD_eq_getElem?_getD, List.getElem?_eq_getElem h]; exact List.getElem_mem h
def own_gix (rs : List Int64) (t : Int64) : Int32 := match rs with
 | [] => own_ix0 t
 | [r0] => own_ix1 t r0
 | [r0, r1] => own_ix2 t r0 r1
 | r0 :: r1 :: r2 :: _ => own_ix3 t r0 r1 r2
def own_rk (sd ba : Addr) (q : Int64) : Int64 := if sd = ba then q else -q
def own_us (xs : List own_Or) : List own_Or := xs.filter fun x => decide (x.2 = (-9223372036854775808 : Int64))
def own_at (sd ba : Addr) (xs : List own_Or) (r : Int64) : List own_Or := xs.filter fun x => decide (¬ x.2 = (-9223372036854775808 : Int64) ∧ own_rk sd ba x.2 = r)
section
variable {sd ba up : Addr} {xs ys pp ss : List own_Or} {x y : own_Or} {r t : Int64} {n0 b : Nat} {gs : List own_Or}
theorem own_us_app : own_us (xs ++ ys) = own_us xs ++ own_us ys := List.filter_append ..
theorem own_at_app : own_at sd ba (xs ++ ys) r = own_at sd ba xs r ++ own_at sd ba ys r := List.filter_append ..
theorem own_us_cons : own_us (x :: ys) = own_us [x] ++ own_us ys := own_us_app (xs := [x])
theorem own_at_cons : own_at sd ba (x :: ys) r = own_at sd ba [x] r ++ own_at sd ba ys r := own_at_app (xs := [x])
theorem own_us_y (h : x.2 = (-9223372036854775808 : Int64)) : own_us [x] = [x] := by simp [own_us, h]
theorem own_us_n (h : ¬ x.2 = (-9223372036854775808 : Int64)) : own_us [x] = [] := by simp [own_us, h]
theorem own_at_y (h : ¬ x.2 = (-9223372036854775808 : Int64)) (e : own_rk sd ba x.2 = r) : own_at sd ba [x] r = [x] := by simp [own_at, h, e]
theorem own_at_n (h : x.2 = (-9223372036854775808 : Int64) ∨ ¬ own_rk sd ba x.2 = r) : own_at sd ba [x] r = [] := by
 rcases h with h | h <;> simp [own_at, h]
theorem own_us_mem (h : x ∈ own_us xs) : x ∈ xs ∧ x.2 = (-9223372036854775808 : Int64) := ⟨(List.mem_filter.mp h).1, of_decide_eq_true (List.mem_filter.mp h).2⟩
theorem own_at_mem (h : x ∈ own_at sd ba xs r) : x ∈ xs ∧ ¬ x.2 = (-9223372036854775808 : Int64) ∧ own_rk sd ba x.2 = r := ⟨(List.mem_filter.mp h).1, of_decide_eq_true (List.mem_filter.mp h).2⟩
theorem own_one (N : (xs.map Prod.fst).Nodup) (hx : x ∈ xs) (hy : y ∈ xs) (e : x.1 = y.1) : x = y := by
 induction xs with
 | nil => cases hx
 | cons z zs ih =>
  rw [List.map_cons, List.nodup_cons] at N
  rcases List.mem_cons.mp hx with e1 | hx <;> rcases List.mem_cons.mp hy with e2 | hy
  ·rw [e1, e2]
  ·exact absurd (List.mem_map_of_mem (f := Prod.fst) hy) (by rw [← e, e1]; exact N.1)
  ·exact absurd (List.mem_map_of_mem (f := Prod.fst) hx) (by rw [e, e2]; exact N.1)
  ·exact ih N.2 hx hy
theorem own_sub (N : (xs.map Prod.fst).Nodup) : ((own_us xs).map Prod.fst).Nodup ∧ ((own_at sd ba xs r).map Prod.fst).Nodup := ⟨(List.filter_sublist.map _).nodup N, (List.filter_sublist.map _).nodup N⟩
theorem own_snoc (N : ((xs ++ [y]).map Prod.fst).Nodup) (h : x ∈ xs) : x.1 ≠ y.1 := by
 rw [List.map_append, List.nodup_append] at N
 exact N.2.2 _ (List.mem_map_of_mem (f := Prod.fst) h) _ (by simp)
theorem own_mid (N : ((pp ++ y :: ss).map Prod.fst).Nodup) : (∀ x ∈ pp, x.1 ≠ y.1) ∧ (∀ x ∈ ss, x.1 ≠ y.1) ∧ (∀ x ∈ pp, ∀ z ∈ ss, x.1 ≠ z.1) := by
 rw [List.map_append, List.nodup_append, List.map_cons, List.nodup_cons] at N
 refine ⟨fun x hx => N.2.2 _ (List.mem_map_of_mem (f := Prod.fst) hx) _ (by simp), fun x hx e => N.2.1.1 (e ▸ List.mem_map_of_mem (f := Prod.fst) hx), fun x hx z hz => N.2.2 _ (List.mem_map_of_mem (f := Prod.fst) hx) _ (List.mem_cons_of_mem _ (List.mem_map_of_mem (f := Prod.fst) hz))⟩
/-- what the book's lists say -/
def own_P (sd ba : Addr) (n0 : Nat) (up : Addr) (gs : List own_Or) (b : Nat) (xs : List own_Or) : Prop := (∀ g ∈ gs, n0 ≤ g.1) ∧ up ∉ gs.map Prod.fst ∧ (gs.map Prod.fst).Nodup ∧ (gs.map Prod.snd).Pairwise (· < ·) ∧ (∀ r, r ∈ gs.map Prod.snd ↔ own_at sd ba xs r ≠ []) ∧ (∀ x ∈ xs, n0 ≤ x.1) ∧ (xs.map Prod.fst).Nodup ∧ gs.length ≤ b
theorem own_nd1 (N : (xs.map Prod.fst).Nodup) (n : x.1 ∉ xs.map Prod.fst) : ((xs ++ [x]).map Prod.fst).Nodup := by
 rw [List.map_append, List.nodup_append]
 exact ⟨N, by simp, fun p hp q hq e => n (by simp at hq; rw [← hq, ← e]; exact hp)⟩
theorem own_lo1 (N : ∀ z ∈ xs, n0 ≤ z.1) (n : n0 ≤ x.1) : ∀ z ∈ xs ++ [x], n0 ≤ z.1 := fun z hz => (List.mem_append.mp hz).elim (N z) fun q => by rw [List.mem_singleton.mp q]; exact n
theorem own_at_snoc (h : x.2 = (-9223372036854775808 : Int64) ∨ ¬ own_rk sd ba x.2 = r) : own_at sd ba (xs ++ [x]) r = own_at sd ba xs r := by rw [own_at_app, own_at_n h, List.append_nil]
theorem own_at_mid (h : x.2 = (-9223372036854775808 : Int64) ∨ ¬ own_rk sd ba x.2 = r) : own_at sd ba (pp ++ x :: ss) r = own_at sd ba (pp ++ ss) r := by rw [own_at_app, own_at_cons, own_at_n h, own_at_app]; rfl
theorem own_P_U (H : own_P sd ba n0 up gs b xs) (m : x.2 = (-9223372036854775808 : Int64)) (lo : n0 ≤ x.1) (n : x.1 ∉ xs.map Prod.fst) : own_P sd ba n0 up gs (b + 1) (xs ++ [x]) := by
 obtain ⟨h1, h2, h3, h4, h5, h6, h7, h8⟩ := H
 exact ⟨h1, h2, h3, h4, fun r => by rw [own_at_snoc (Or.inl m)]; exact h5 r, own_lo1 h6 lo, own_nd1 h7 n, by omega⟩
theorem own_P_F (H : own_P sd ba n0 up gs b xs) (e : own_rk sd ba x.2 = t) (ht : own_at sd ba xs t ≠ []) (lo : n0 ≤ x.1) (n : x.1 ∉ xs.map Prod.fst) : own_P sd ba n0 up gs (b + 1) (xs ++ [x]) := by
 obtain ⟨h1, h2, h3, h4, h5, h6, h7, h8⟩ := H
 refine ⟨h1, h2, h3, h4, fun r => ?_, own_lo1 h6 lo, own_nd1 h7 n, by omega⟩
 by_cases q : own_rk sd ba x.2 = r
 ·rw [h5 r, own_at_app, ← q, e]
  exact ⟨fun _ z => ht (List.append_eq_nil_iff.mp z).1, fun _ => ht⟩
 ·rw [own_at_snoc (Or.inr q)]; exact h5 r
theorem own_P_N {g1 g2 : List own_Or} {B : Addr} (H : own_P sd ba n0 up (g1 ++ g2) b xs) (m : ¬ x.2 = (-9223372036854775808 : Int64)) (e : own_rk sd ba x.2 = t) (k1 : ∀ g ∈ g1, g.2 < t) (k2 : ∀ g ∈ g2, t < g.2) (lo : n0 ≤ x.1) (n : x.1 ∉ xs.map Prod.fst) (lB : n0 ≤ B) (nB : B ∉ (g1 ++ g2).map Prod.fst) (nu : up ≠ B) : own_P sd ba n0 up (g1 ++ (B, t) :: g2) (b + 1) (xs ++ [x]) := by
 unfold own_P at *
 obtain ⟨h1, h2, h3, h4, h5, h6, h7, h8⟩ := H
 simp only [List.map_append, List.mem_append, List.nodup_append, List.pairwise_append, List.map_cons, List.mem_cons, not_or, List.nodup_cons, List.pairwise_cons, List.length_append, List.length_cons] at *
 refine ⟨fun g hg => ?_, ⟨h2.1, nu, h2.2⟩, ⟨h3.1, ⟨nB.2, h3.2.1⟩, fun p hp q hq => ?_⟩, ⟨h4.1, ⟨fun q hq => ?_, h4.2.1⟩, fun p hp q hq => ?_⟩, fun r => ?_, ?_, ?_, by omega⟩
 ·rcases hg with hg | rfl | hg
  ·exact h1 _ (Or.inl hg)
  ·exact lB
  ·exact h1 _ (Or.inr hg)
 ·rcases hq with rfl | hq
  ·exact fun q => nB.1 (q ▸ hp)
  ·exact h3.2.2 p hp q hq
 ·obtain ⟨g, hg, rfl⟩ := List.mem_map.mp hq
  exact k2 g hg
 ·obtain ⟨g, hg, rfl⟩ := List.mem_map.mp hp
  rcases hq with rfl | hq
  ·exact k1 g hg
  ·exact h4.2.2 _ hp q hq
 ·by_cases q : r = t
  ·subst q
   rw [own_at_app, own_at_y m e]
   exact ⟨fun _ z => by simp at z, fun _ => Or.inr (Or.inl rfl)⟩
  ·rw [own_at_snoc (Or.inr fun z => q (z.symm.trans e)), ← h5 r]
   exact ⟨fun z => z.elim Or.inl fun z => z.elim (fun z => absurd z q) Or.inr, fun z => z.elim Or.inl fun z => Or.inr (Or.inr z)⟩
 ·intro z hz
  rcases hz with hz | hz
  ·exact h6 z hz
  ·rcases hz with rfl | hz
   ·exact lo
   ·cases hz
 ·exact ⟨h7, ⟨by simp, by simp⟩, fun p hp q hq => by
   rcases hq with rfl | hq
   ·exact fun q => n (q ▸ hp)
   ·cases hq⟩
theorem own_P_r (H : own_P sd ba n0 up gs b (pp ++ x :: ss)) (k : ∀ r, own_at sd ba (pp ++ x :: ss) r ≠ [] ↔ own_at sd ba (pp ++ ss) r ≠ []) : own_P sd ba n0 up gs b (pp ++ ss) := by
 obtain ⟨h1, h2, h3, h4, h5, h6, h7, h8⟩ := H
 refine ⟨h1, h2, h3, h4, fun r => (h5 r).trans (k r), fun z hz => h6 z ?_, ?_, h8⟩
 ·rcases List.mem_append.mp hz with q | q
  ·exact List.mem_append_left _ q
  ·exact List.mem_append_right _ (List.mem_cons_of_mem _ q)
 ·exact ((List.Sublist.append (List.Sublist.refl pp) (List.sublist_cons_self x ss)).map Prod.fst).nodup h7
theorem own_P_S {g1 g2 : List own_Or} {A : Addr} (H : own_P sd ba n0 up (g1 ++ (A, t) :: g2) b (pp ++ x :: ss)) (e : own_rk sd ba x.2 = t) (ht : own_at sd ba (pp ++ ss) t = []) : own_P sd ba n0 up (g1 ++ g2) b (pp ++ ss) := by
 obtain ⟨h1, h2, h3, h4, h5, h6, h7, h8⟩ := H
 have S1 : List.Sublist (g1 ++ g2) (g1 ++ (A, t) :: g2) := List.Sublist.append (List.Sublist.refl g1) (List.sublist_cons_self _ g2)
 have S2 : List.Sublist (pp ++ ss) (pp ++ x :: ss) := List.Sublist.append (List.Sublist.refl pp) (List.sublist_cons_self _ ss)
 refine ⟨fun g hg => h1 g (S1.subset hg), fun q => h2 ((S1.map _).subset q), (S1.map _).nodup h3, List.Pairwise.sublist (S1.map _) h4, fun r => ?_, fun z hz => h6 z (S2.subset hz), (S2.map _).nodup h7, Nat.le_trans S1.length_le h8⟩
 by_cases q : r = t
 ·subst q
  refine ⟨fun z => ?_, fun z => absurd ht z⟩
  rw [List.map_append, List.pairwise_append, List.map_cons, List.pairwise_cons] at h4
  rw [List.map_append, List.mem_append] at z
  rcases z with z | z
  ·exact (Int64.lt_irrefl (h4.2.2 _ z _ (List.mem_cons_self ..))).elim
  ·exact (Int64.lt_irrefl (h4.2.1.1 _ z)).elim
 ·rw [← own_at_mid (x := x) (Or.inr fun z => q (z.symm.trans e)), ← h5 r]
  simp [q]
theorem own_ins0 {α : Type} (l1 l2 : List α) (z : α) : (l1 ++ l2).insertIdx l1.length z = l1 ++ z :: l2 := by
 induction l1 with
 | nil => rfl
 | cons u r ih => show (u :: (r ++ l2)).insertIdx (r.length + 1) z = _; rw [List.insertIdx_succ_cons, ih]; rfl
theorem own_era0 {α : Type} (l1 l2 : List α) (z : α) : (l1 ++ z :: l2).eraseIdx l1.length = l1 ++ l2 := by
 induction l1 with
 | nil => rfl
 | cons u r ih => show (u :: (r ++ z :: l2)).eraseIdx (r.length + 1) = _; rw [List.eraseIdx_cons_succ, ih]; rfl
theorem own_getA {α : Type} (l1 l2 : List α) (z d : α) : (l1 ++ z :: l2).getD l1.length d = z := by
 induction l1 with
 | nil => rfl
 | cons u r ih => exact ih
theorem own_ltI (p q : Int64) : p < q ↔ p.toInt < q.toInt := Int64.lt_iff_toInt_lt
theorem own_gixF {r1 r2 : List Int64} (h3 : (r1 ++ t :: r2).length ≤ 3) (W : (r1 ++ t :: r2).Pairwise (· < ·)) : own_gix (r1 ++ t :: r2) t = Int32.ofNat r1.length := by
 have i : ¬ t < t := fun q => Int64.lt_irrefl q
 have as : ∀ {u v : Int64}, u < v → ¬ v < u := fun h => by rw [own_ltI] at *; omega
 match r1, r2, h3, W with
 | [], [], _, _ => simp [own_gix, own_ix1, own_b, i]
 | [], [u], _, W => simp at W; simp [own_gix, own_ix2, own_b, i, W]
 | [], [u, v], _, W => simp at W; simp [own_gix, own_ix3, own_b, i, W]
 | [u], [], _, W => simp at W; simp [own_gix, own_ix2, own_b, i, W]
 | [u], [v], _, W => simp at W; simp [own_gix, own_ix3, own_b, i, W]
 | [u, v], [], _, W => simp at W; simp [own_gix, own_ix3, own_b, i, W]
 | _ :: _ :: _ :: _, _, h3, _ => simp at h3
 | _ :: _ :: [], _ :: _, h3, _ => simp at h3
 | _ :: [], _ :: _ :: _, h3, _ => simp at h3
 | [], _ :: _ :: _ :: _, h3, _ => simp at h3
theorem own_gixN {r1 r2 : List Int64} (h2 : (r1 ++ r2).length ≤ 2) (k1 : ∀ u ∈ r1, u < t) (k2 : ∀ u ∈ r2, t < u) (W : (r1 ++ r2).Pairwise (· < ·)) : own_gix (r1 ++ r2) t = -(Int32.ofNat (r1.length + 1)) := by
 have as : ∀ {u v : Int64}, u < v → ¬ v < u := fun h => by rw [own_ltI] at *; omega
 match r1, r2, h2, k1, k2, W with
 | [], [], _, _, _, _ => rfl
 | [], [u], _, _, k2, _ => simp at k2; simp [own_gix, own_ix1, k2]
 | [], [u, v], _, _, k2, _ => simp at k2; simp [own_gix, own_ix2, k2]
 | [u], [], _, k1, _, _ => simp at k1; simp [own_gix, own_ix1, own_b, k1, as k1]; try rfl
 | [u], [v], _, k1, k2, _ => simp at k1 k2; simp [own_gix, own_ix2, own_b, k1, k2, as k1]; try rfl
 | [u, v], [], _, k1, _, W => simp at k1 W; simp [own_gix, own_ix2, own_b, k1, as k1.2]; try rfl
 | _ :: _ :: _ :: _, _, h3, _, _, _ => simp at h3
 | _ :: _ :: [], _ :: _, h3, _, _, _ => simp at h3
 | _ :: [], _ :: _ :: _, h3, _, _, _ => simp at h3
 | [], _ :: _ :: _ :: _, h3, _, _, _ => simp at h3
theorem own_cut (W : (gs.map Prod.snd).Pairwise (· < ·)) (n : t ∉ gs.map Prod.snd) : ∃ g1 g2, gs = g1 ++ g2 ∧ (∀ g ∈ g1, g.2 < t) ∧ ∀ g ∈ g2, t < g.2 := by
 induction gs with
 | nil => exact ⟨[], [], rfl, nofun, nofun⟩
 | cons g r ih =>
  rw [List.map_cons, List.pairwise_cons] at W
  rw [List.map_cons, List.mem_cons, not_or] at n
  by_cases q : g.2 < t
  ·obtain ⟨g1, g2, e, k1, k2⟩ := ih W.2 n.2
   exact ⟨g :: g1, g2, by rw [e]; rfl, fun z hz => (List.mem_cons.mp hz).elim (fun z => z ▸ q) (k1 z), k2⟩
  ·have q2 : t < g.2 := by
    rw [own_ltI] at *
    have : t.toInt ≠ g.2.toInt := fun z => n.1 (Int64.toInt_inj.mp z)
    omega
   refine ⟨[], g :: r, rfl, nofun, fun z hz => (List.mem_cons.mp hz).elim (fun z => z ▸ q2) fun hz => ?_⟩
   have := W.1 _ (List.mem_map_of_mem (f := Prod.snd) hz)
   rw [own_ltI] at *
   omega
theorem own_found (H : own_P sd ba n0 up gs b xs) (h3 : (gs.map Prod.snd).length ≤ 3) (ht : own_at sd ba xs t ≠ []) : ∃ g1 A g2, gs = g1 ++ (A, t) :: g2 ∧ (gs.map Prod.fst).getD g1.length 0 = A ∧ g1.length < (gs.map Prod.snd).length ∧ own_gix (gs.map Prod.snd) t = Int32.ofNat g1.length := by
 obtain ⟨g, hg, rfl⟩ := List.mem_map.mp ((H.2.2.2.2.1 t).mpr ht)
 obtain ⟨g1, g2, rfl⟩ := List.append_of_mem hg
 refine ⟨g1, g.1, g2, rfl, ?_, ?_, ?_⟩
 ·have := own_getA (g1.map Prod.fst) (g2.map Prod.fst) g.1 0
  rw [List.length_map] at this
  rw [List.map_append, List.map_cons]; exact this
 ·simp
 ·have := own_gixF (r1 := g1.map Prod.snd) (r2 := g2.map Prod.snd) (t := g.2) (by simpa using h3) (by simpa using H.2.2.2.1)
  rw [List.length_map] at this
  rw [List.map_append, List.map_cons]; exact this
theorem own_place (H : own_P sd ba n0 up gs b xs) (h2 : gs.length ≤ 2) (ht : own_at sd ba xs t = []) : ∃ g1 g2, gs = g1 ++ g2 ∧ (∀ g ∈ g1, g.2 < t) ∧ (∀ g ∈ g2, t < g.2) ∧ g1.length ≤ (gs.map Prod.snd).length ∧ own_gix (gs.map Prod.snd) t = -(Int32.ofNat (g1.length + 1)) ∧ ∀ B : Addr, (gs.map Prod.snd).insertIdx g1.length t = (g1 ++ (B, t) :: g2).map Prod.snd ∧ (gs.map Prod.fst).insertIdx g1.length B = (g1 ++ (B, t) :: g2).map Prod.fst := by
 obtain ⟨g1, g2, rfl, k1, k2⟩ := own_cut H.2.2.2.1 (fun q => (H.2.2.2.2.1 t).mp q ht)
 refine ⟨g1, g2, rfl, k1, k2, by simp, ?_, fun B => ⟨?_, ?_⟩⟩
 ·have := own_gixN (r1 := g1.map Prod.snd) (r2 := g2.map Prod.snd) (t := t) (by simpa using h2) (fun u hu => by obtain ⟨g, hg, rfl⟩ := List.mem_map.mp hu; exact k1 g hg) (fun u hu => by obtain ⟨g, hg, rfl⟩ := List.mem_map.mp hu; exact k2 g hg) (by rw [← List.map_append]; exact H.2.2.2.1)
  rw [List.length_map] at this
  rw [List.map_append]; exact this
 ·have := own_ins0 (g1.map Prod.snd) (g2.map Prod.snd) t
  rw [List.length_map] at this
  rw [List.map_append, List.map_append, List.map_cons]; exact this
 ·have := own_ins0 (g1.map Prod.fst) (g2.map Prod.fst) B
  rw [List.length_map] at this
  rw [List.map_append, List.map_append, List.map_cons]; exact this
end
/-- the best, as the law finds it -/
def own_fold (bu : Int32) : own_Or → List own_Or → own_Or
 | u, [] => u
 | u, y :: r => own_fold bu (if own_beats bu y.2 u.2 = 0 then u else y) r
def own_exp (bu : Int32) : List own_Or → Value
 | [] => .null
 | u :: r => .ref (own_fold bu u r).1
theorem own_fold_best (bu : Int32) : ∀ (r : List own_Or) (u x : own_Or) (p s : List own_Or), u :: r = p ++ x :: s → (∀ y ∈ p, ¬ own_beats bu x.2 y.2 = 0) → (∀ y ∈ s, own_beats bu y.2 x.2 = 0) → own_fold bu u r = x := by
 intro r
 induction r with
 | nil =>
  intro u x p s e _ _
  cases p with
  | nil => exact (List.cons.inj e).1
  | cons z p => exact absurd (List.cons.inj e).2 (by simp)
 | cons y r ih =>
  intro u x p s e k1 k2
  rw [own_fold]
  cases p with
  | nil =>
   obtain ⟨rfl, rfl⟩ := List.cons.inj e
   rw [if_pos (k2 y (by simp))]
   exact ih u u [] r rfl nofun fun z hz => k2 z (List.mem_cons_of_mem _ hz)
  | cons z p =>
   obtain ⟨ez, e'⟩ := List.cons.inj e
   subst ez
   clear e
   cases p with
   | nil =>
    obtain ⟨rfl, rfl⟩ := List.cons.inj e'
    rw [if_neg (k1 u (by simp))]
    exact ih y y [] r rfl nofun k2
   | cons z p =>
    obtain ⟨rfl, rfl⟩ := List.cons.inj e'
    by_cases q : own_beats bu y.2 u.2 = 0
    ·rw [if_pos q]
     exact ih u x (u :: p) s rfl (fun z hz => k1 z (by rcases List.mem_cons.mp hz with rfl | hz <;> simp [*])) k2
    ·rw [if_neg q]
     exact ih y x (y :: p) s rfl (fun z hz => k1 z (by rcases List.mem_cons.mp hz with rfl | hz <;> simp [*])) k2
theorem own_filt {α : Type} (f : α → Bool) : ∀ {l : List α} {x : α} {r : List α}, l.filter f = x :: r → ∃ p s, l = p ++ x :: s ∧ ∀ y ∈ p, ¬ f y = true
 | [], _, _, e => nomatch e
 | z :: l, x, r, e => by
  by_cases q : f z = true
  ·rw [List.filter_cons_of_pos q] at e
   obtain ⟨rfl, -⟩ := List.cons.inj e
   exact ⟨[], l, rfl, nofun⟩
  ·rw [List.filter_cons_of_neg q] at e
   obtain ⟨p, s, rfl, k⟩ := own_filt f e
   exact ⟨z :: p, s, rfl, fun y hy => (List.mem_cons.mp hy).elim (fun e => e ▸ q) (k y)⟩
theorem own_exp_of (bu : Int32) {xs p s : List own_Or} {x : own_Or} (e : xs = p ++ x :: s) (k1 : ∀ y ∈ p, ¬ own_beats bu x.2 y.2 = 0) (k2 : ∀ y ∈ s, own_beats bu y.2 x.2 = 0) : own_exp bu xs = .ref x.1 := by
 cases xs with
 | nil => exact absurd e (by simp)
 | cons u r => show Value.ref (own_fold bu u r).1 = _; rw [own_fold_best bu r u x p s e k1 k2]
def own_sdb (bu : Int32) (sd ba : Addr) : Prop := (bu = 0 ∧ ¬ sd = ba) ∨ (¬ bu = 0 ∧ sd = ba)
theorem own_neg64 {u : Int64} (h : 1 ≤ u.toInt) : (-u).toInt = -u.toInt := by
 have h1 := u.toInt_lt
 have h2 := u.le_toInt
 rw [Int64.toInt_neg]
 exact Int.bmod_eq_of_le (by omega) (by omega)
theorem own_beats_rk {bu : Int32} {sd ba : Addr} (H : own_sdb bu sd ba) {u v : Int64} (hu : 1 ≤ u) (hv : 1 ≤ v) : own_beats bu u v = 0 ↔ ¬ own_rk sd ba v < own_rk sd ba u := by
 rw [Int64.le_iff_toInt_le] at hu hv
 have e1 : (1 : Int64).toInt = 1 := rfl
 have e2 : ((-9223372036854775808 : Int64)).toInt = -9223372036854775808 := rfl
 have nu : ¬ u = (-9223372036854775808 : Int64) := fun q => by rw [q] at hu; omega
 have nv : ¬ v = (-9223372036854775808 : Int64) := fun q => by rw [q] at hv; omega
 rw [own_beats, if_neg nu, if_neg nv]
 rcases H with ⟨hb, hs⟩ | ⟨hb, hs⟩
 ·rw [if_pos hb, own_rk, own_rk, if_neg hs, if_neg hs, own_ltI (-v) (-u), own_neg64 (by omega), own_neg64 (by omega)]
  ·by_cases q : u < v
   ·rw [if_pos q]; rw [own_ltI] at q
    exact ⟨fun z => absurd z (by decide), fun z => absurd (by omega) z⟩
   ·rw [if_neg q]; rw [own_ltI] at q
    exact ⟨fun _ => by omega, fun _ => rfl⟩
 ·rw [if_neg hb, own_rk, own_rk, if_pos hs, if_pos hs]
  by_cases q : v < u
  ·rw [if_pos q]; exact ⟨fun z => absurd z (by decide), fun z => absurd q z⟩
  ·rw [if_neg q]; exact ⟨fun _ => q, fun _ => rfl⟩
theorem own_exp_U {bu : Int32} {xs r : List own_Or} {x : own_Or} (e : own_us xs = x :: r) : own_exp bu xs = .ref x.1 := by
 obtain ⟨p, s, q, k⟩ := own_filt _ e
 have hx : x.2 = (-9223372036854775808 : Int64) := (own_us_mem (e ▸ List.mem_cons_self ..)).2
 refine own_exp_of bu q (fun y hy => ?_) fun y hy => ?_
 ·have hy2 : ¬ y.2 = (-9223372036854775808 : Int64) := fun z => k y hy (decide_eq_true z)
  rw [own_beats, if_pos hx, if_neg hy2]; decide
 ·rw [own_beats]; by_cases z : y.2 = (-9223372036854775808 : Int64)
  ·rw [if_pos z, if_pos hx]
  ·rw [if_neg z, if_pos hx]
theorem own_exp_0 {bu : Int32} {sd ba : Addr} {xs : List own_Or} (e : own_us xs = []) (k : ∀ r, own_at sd ba xs r = []) : own_exp bu xs = .null := by
 cases xs with
 | nil => rfl
 | cons x r =>
  exfalso
  by_cases z : x.2 = (-9223372036854775808 : Int64)
  ·rw [own_us_cons, own_us_y z] at e; cases e
  ·have := k (own_rk sd ba x.2)
   rw [own_at_cons, own_at_y z rfl] at this; cases this
theorem own_exp_P {bu : Int32} {sd ba : Addr} (H : own_sdb bu sd ba) {xs r : List own_Or} {x : own_Or} {t : Int64} (hq : ∀ y ∈ xs, y.2 = (-9223372036854775808 : Int64) ∨ 1 ≤ y.2) (e : own_us xs = []) (k : ∀ r, own_at sd ba xs r ≠ [] → ¬ t < r) (e2 : own_at sd ba xs t = x :: r) : own_exp bu xs = .ref x.1 := by
 have pr : ∀ y ∈ xs, ¬ y.2 = (-9223372036854775808 : Int64) := fun y hy z => by
  have : y ∈ own_us xs := List.mem_filter.mpr ⟨hy, decide_eq_true z⟩
  rw [e] at this; cases this
 have ge : ∀ y ∈ xs, 1 ≤ y.2 := fun y hy => (hq y hy).resolve_left (pr y hy)
 have le : ∀ y ∈ xs, ¬ t < own_rk sd ba y.2 := fun y hy => k _ fun z => by
  have : y ∈ own_at sd ba xs (own_rk sd ba y.2) := List.mem_filter.mpr ⟨hy, decide_eq_true ⟨pr y hy, rfl⟩⟩
  rw [z] at this; cases this
 obtain ⟨p, s, q, k3⟩ := own_filt _ e2
 obtain ⟨hx, -, hxt⟩ := own_at_mem (e2 ▸ List.mem_cons_self ..)
 refine own_exp_of bu q (fun y hy => ?_) fun y hy => ?_
 ·have hy2 : y ∈ xs := q ▸ List.mem_append_left _ hy
  rw [own_beats_rk H (ge x hx) (ge y hy2), hxt]
  have h1 := le y hy2
  have h2 : ¬ own_rk sd ba y.2 = t := fun z => k3 y hy (decide_eq_true ⟨pr y hy2, z⟩)
  have h3 : (own_rk sd ba y.2).toInt ≠ t.toInt := fun z => h2 (Int64.toInt_inj.mp z)
  rw [own_ltI] at *
  omega
 ·have hy2 : y ∈ xs := q ▸ List.mem_append_right _ (List.mem_cons_of_mem _ hy)
  rw [own_beats_rk H (ge y hy2) (ge x hx), hxt]
  exact le y hy2
def own_Wd (Z : State) (h : Heap) (n0 : Nat) (Rs Ts Ds : List Addr) (w : Addr) : Prop := n0 ≤ w ∧ (Exa Z h w "com/example/tidegate/tidegate/engine/BookSide" ∨ (w ∈ Rs ∧ ∃ k ty z vs d, Arv Z h w k ty z vs d) ∨ (Exa Z h w "com/example/tidegate/tidegate/engine/BookSide$Level" ∧ w ∈ Ts) ∨ (Exa Z h w "com/example/tidegate/tidegate/engine/Order" ∧ w ∈ Ds))
def own_Po (Z : State) (n0 : Nat) (h h' : Heap) (Ds : List Addr) : Prop := Old Z n0 h' ∧ (h.size ≤ h'.size ∧ True) ∧ ∀ (o' : Addr) (q' : Int64), own_OO Z h o' q' .null .null .null → o' ∉ Ds → own_OO Z h' o' q' .null .null .null
def own_Bk (Z : State) (h : Heap) (n0 : Nat) (a sd ba : Addr) (b : Nat) (xs : List own_Or) : Prop := ∃ (rk la up : Addr) (kr kl : ClassId) (qy : Int64) (gs : List own_Or), own_BB Z h a rk la up sd (Int32.ofNat (gs.map Prod.snd).length) qy ∧ own_AR Z h rk la kr kl (gs.map Prod.snd) (gs.map Prod.fst) ∧ own_LV Z h a up (own_us xs) ∧ (∀ g ∈ gs, own_LV Z h a g.1 (own_at sd ba xs g.2)) ∧ (n0 ≤ a ∧ n0 ≤ rk ∧ n0 ≤ la ∧ n0 ≤ up) ∧ rk ≠ la ∧ Ovr Z kl "com/example/tidegate/tidegate/engine/BookSide$Level" ∧ own_P sd ba n0 up gs b xs
section
variable {Z : State} {h h' : Heap} {a A o sd ba up : Addr} {q : Int64} {a0 : Array Value} {n0 nB nL nO : Nat} {Rs Ts Ds ws : List Addr} {xs pp ss p s gs : List own_Or} {x y u g : own_Or} {r t : Int64}
theorem own_last {α : Type} (l : List α) : l = [] ∨ ∃ l' y, l = l' ++ [y] := by
 rcases List.eq_nil_or_concat l with e | ⟨l', y, e⟩
 ·exact Or.inl e
 ·exact Or.inr ⟨l', y, by rw [e, List.concat_eq_append]⟩
theorem own_ninO (wO : (Cond.instantiable "com/example/tidegate/tidegate/engine/Order" nO).before a0 Z = true) (H : ∀ w ∈ ws, own_Wd Z h n0 Rs Ts Ds w) (E : Exa Z h o "com/example/tidegate/tidegate/engine/Order") (n : o ∉ Ds) : o ∉ ws := fun q => by
 rcases (H o q).2 with r | ⟨-, k, ty, z, vs, d, V⟩ | ⟨r, -⟩ | ⟨-, r⟩
 ·exact Exa.ne E r (by decide) rfl
 ·exact Exa.neArv E V wO rfl
 ·exact Exa.ne E r (by decide) rfl
 ·exact n r
theorem own_ninL (wL : (Cond.instantiable "com/example/tidegate/tidegate/engine/BookSide$Level" nL).before a0 Z = true) (H : ∀ w ∈ ws, own_Wd Z h n0 Rs Ts Ds w) (E : Exa Z h A "com/example/tidegate/tidegate/engine/BookSide$Level") (n : A ∉ Ts) : A ∉ ws := fun q => by
 rcases (H A q).2 with r | ⟨-, k, ty, z, vs, d, V⟩ | ⟨-, r⟩ | ⟨r, -⟩
 ·exact Exa.ne E r (by decide) rfl
 ·exact Exa.neArv E V wL rfl
 ·exact n r
 ·exact Exa.ne E r (by decide) rfl
theorem own_ninR (wB : (Cond.instantiable "com/example/tidegate/tidegate/engine/BookSide" nB).before a0 Z = true) (wL : (Cond.instantiable "com/example/tidegate/tidegate/engine/BookSide$Level" nL).before a0 Z = true) (wO : (Cond.instantiable "com/example/tidegate/tidegate/engine/Order" nO).before a0 Z = true) (H : ∀ w ∈ ws, own_Wd Z h n0 Rs Ts Ds w) {rk : Addr} {k : ClassId} {ty : FieldType} {z : Int32} {vs : List Value} {d : Value} (V : Arv Z h rk k ty z vs d) (n : rk ∉ Rs) : rk ∉ ws := fun q => by
 rcases (H rk q).2 with r | ⟨r, -⟩ | ⟨r, -⟩ | ⟨r, -⟩
 ·exact Exa.neArv r V wB rfl
 ·exact n r
 ·exact Exa.neArv r V wL rfl
 ·exact Exa.neArv r V wO rfl
theorem own_AR.kept {rk la : Addr} {kr kl : ClassId} {rs : List Int64} {As : List Addr} (F : own_AR Z h rk la kr kl rs As) (wB : (Cond.instantiable "com/example/tidegate/tidegate/engine/BookSide" nB).before a0 Z = true) (wL : (Cond.instantiable "com/example/tidegate/tidegate/engine/BookSide$Level" nL).before a0 Z = true) (wO : (Cond.instantiable "com/example/tidegate/tidegate/engine/Order" nO).before a0 Z = true) (H : ∀ w ∈ ws, own_Wd Z h n0 [] Ts Ds w) (K : Keep h h' ws) : own_AR Z h' rk la kr kl rs As := by
 have F2 := F
 obtain ⟨⟨vs, V, -⟩, ⟨wl, W, -⟩, -⟩ := F2
 exact F.keep K (own_ninR wB wL wO H V nin0) (own_ninR wB wL wO H W nin0)
theorem own_CH_exa : ∀ {xs : List own_Or} {pv e : Value}, own_CH Z h a pv xs e → ∀ x ∈ xs, Exa Z h x.1 "com/example/tidegate/tidegate/engine/Order"
 | [], _, _, _, _, hx => nomatch hx
 | x :: r, _, _, H, y, hy => (List.mem_cons.mp hy).elim (fun e => e ▸ H.1.1) (own_CH_exa H.2 y)
theorem own_LV.kept (F : own_LV Z h a A xs) (wL : (Cond.instantiable "com/example/tidegate/tidegate/engine/BookSide$Level" nL).before a0 Z = true) (wO : (Cond.instantiable "com/example/tidegate/tidegate/engine/Order" nO).before a0 Z = true) (H : ∀ w ∈ ws, own_Wd Z h n0 Rs Ts Ds w) (K : Keep h h' ws) (n : A ∉ Ts) (m : ∀ x ∈ xs, x.1 ∉ Ds) : own_LV Z h' a A xs := ⟨F.1.keep K (own_ninL wL H F.1.1 n), F.2.keep K fun x hx => own_ninO wO H (own_CH_exa F.2 x hx) (m x hx)⟩
theorem own_Po.of {Ds' : List Addr} (wO : (Cond.instantiable "com/example/tidegate/tidegate/engine/Order" nO).before a0 Z = true) (H : ∀ w ∈ ws, own_Wd Z h n0 Rs Ts Ds w) (K : Keep h h' ws) (O : Old Z n0 h) (hD : ∀ d ∈ Ds, d ∈ Ds') : own_Po Z n0 h h' Ds' := ⟨O.keep K fun w hw => (H w hw).1, ⟨K.1, trivial⟩, fun o' q' F n => F.keep K (own_ninO wO H F.1 fun z => n (hD _ z))⟩
theorem own_nu (n : up ∉ gs.map Prod.fst) (hg : g ∈ gs) : g.1 ∉ [up] := fun z => n (by rw [← List.mem_singleton.mp z]; exact List.mem_map_of_mem (f := Prod.fst) hg)
theorem own_un (n : up ∉ gs.map Prod.fst) (hg : g ∈ gs) : up ∉ [g.1] := fun z => n (by rw [List.mem_singleton.mp z]; exact List.mem_map_of_mem (f := Prod.fst) hg)
theorem own_nx (n : o ∉ xs.map Prod.fst) (hx : x ∈ xs) : x.1 ≠ o := fun z => n (by rw [← z]; exact List.mem_map_of_mem (f := Prod.fst) hx)
theorem own_othU (N : (xs.map Prod.fst).Nodup) (hu : u ∈ own_at sd ba xs r) : u.1 ∉ (own_us xs).map Prod.fst := fun z => by
 obtain ⟨w, hw, e⟩ := List.mem_map.mp z
 have := own_one N (own_us_mem hw).1 (own_at_mem hu).1 e
 exact (own_at_mem hu).2.1 (this ▸ (own_us_mem hw).2)
theorem own_othV (N : (xs.map Prod.fst).Nodup) (hu : u ∈ own_us xs) : u.1 ∉ (own_at sd ba xs r).map Prod.fst := fun z => by
 obtain ⟨w, hw, e⟩ := List.mem_map.mp z
 have := own_one N (own_at_mem hw).1 (own_us_mem hu).1 e
 exact (own_at_mem hw).2.1 (this ▸ (own_us_mem hu).2)
theorem own_othA (N : (xs.map Prod.fst).Nodup) (hu : u ∈ own_at sd ba xs r) (n : ¬ r = t) : u.1 ∉ (own_at sd ba xs t).map Prod.fst := fun z => by
 obtain ⟨w, hw, e⟩ := List.mem_map.mp z
 have := own_one N (own_at_mem hw).1 (own_at_mem hu).1 e
 exact n (((own_at_mem hu).2.2).symm.trans ((congrArg (fun k : own_Or => own_rk sd ba k.2) this.symm).trans (own_at_mem hw).2.2))
theorem own_two (W : (gs.map Prod.snd).Pairwise (· < ·)) (hx : x ∈ gs) (hy : y ∈ gs) (e : x.2 = y.2) : x = y := by
 induction gs with
 | nil => cases hx
 | cons z zs ih =>
  rw [List.map_cons, List.pairwise_cons] at W
  rcases List.mem_cons.mp hx with e1 | hx <;> rcases List.mem_cons.mp hy with e2 | hy
  ·rw [e1, e2]
  ·exact (Int64.lt_irrefl (by have := W.1 _ (List.mem_map_of_mem (f := Prod.snd) hy); rw [← e, e1] at this; exact this)).elim
  ·exact (Int64.lt_irrefl (by have := W.1 _ (List.mem_map_of_mem (f := Prod.snd) hx); rw [e, e2] at this; exact this)).elim
  ·exact ih W.2 hx hy
theorem own_ndL (N : (((p ++ [y]) ++ x :: s).map Prod.fst).Nodup) : (∀ u ∈ p, u.1 ≠ x.1 ∧ u.1 ≠ y.1) ∧ x.1 ≠ y.1 ∧ (∀ u ∈ s, y.1 ≠ u.1) ∧ ∀ u ∈ p, ∀ w ∈ s, u.1 ≠ w.1 := by
 have N2 := own_mid N
 have N3 : ((p ++ [y]).map Prod.fst).Nodup := ((List.sublist_append_left (p ++ [y]) (x :: s)).map Prod.fst).nodup N
 exact ⟨fun u hu => ⟨N2.1 u (List.mem_append_left _ hu), own_snoc N3 hu⟩, (N2.1 y (by simp)).symm, fun u hu => N2.2.2 y (by simp) u hu, fun u hu w hw => N2.2.2 u (List.mem_append_left _ hu) w hw⟩
theorem own_ndR (N : ((p ++ x :: y :: s).map Prod.fst).Nodup) : (∀ u ∈ s, u.1 ≠ x.1 ∧ u.1 ≠ y.1) ∧ x.1 ≠ y.1 := by
 have N2 := own_mid N
 have N3 : ((y :: s).map Prod.fst).Nodup := (((List.sublist_cons_self x (y :: s)).trans (List.sublist_append_right p (x :: y :: s))).map Prod.fst).nodup N
 have N4 := own_mid (pp := []) N3
 exact ⟨fun u hu => ⟨N2.2.1 u (List.mem_cons_of_mem _ hu), N4.2.1 u hu⟩, (N2.2.1 y (by simp)).symm⟩
theorem own_eraM {g1 g2 : List own_Or} (e : gs = g1 ++ g :: g2) : (gs.map Prod.snd).eraseIdx g1.length = (g1 ++ g2).map Prod.snd ∧ (gs.map Prod.fst).eraseIdx g1.length = (g1 ++ g2).map Prod.fst := by
 have h1 := own_era0 (g1.map Prod.snd) (g2.map Prod.snd) g.2
 have h2 := own_era0 (g1.map Prod.fst) (g2.map Prod.fst) g.1
 rw [List.length_map] at h1 h2
 rw [e, List.map_append, List.map_append, List.map_append, List.map_append, List.map_cons, List.map_cons]
 exact ⟨h1, h2⟩
theorem own_ofpos {n : Nat} (h1 : 1 ≤ n) (h2 : n ≤ 16) : ¬ Int32.ofNat n = 0 := fun q => by
 have e := own_hn (N := n) h2
 rw [q] at e
 have e1 : (0 : Int32).toInt = 0 := rfl
 omega
theorem own_P_0 : own_P sd ba n0 up [] 0 [] := ⟨nofun, nofun, List.nodup_nil, List.Pairwise.nil, fun _ => ⟨nofun, fun z => absurd rfl z⟩, nofun, List.nodup_nil, Nat.le_refl _⟩
theorem own_Bk.exa {b : Nat} (H : own_Bk Z h n0 a sd ba b xs) : Exa Z h a "com/example/tidegate/tidegate/engine/BookSide" := by
 obtain ⟨_, _, _, _, _, _, _, BB, -⟩ := H
 exact BB.1
theorem own_all0 {P : own_Or → Prop} : ∀ x ∈ ([] : List own_Or), P x := fun _ q => nomatch q
theorem own_allS {P : own_Or → Prop} {L : List own_Or} (q : P y) (r : ∀ x ∈ L, P x) : ∀ x ∈ y :: L, P x := fun x z => (List.mem_cons.mp z).elim (fun u => u ▸ q) (r x)
theorem own_max1 (z : Int64) : 1 ≤ own_maxL 1 z := by
 rw [own_maxL]
 split
 ·rename_i h
  rw [Int64.lt_iff_toInt_lt] at h
  rw [Int64.le_iff_toInt_le]; omega
 ·exact Int64.le_refl _
theorem own_hd_ref (p : List own_Or) (x : own_Or) (s : List own_Or) (e : Value) : ∃ f, own_hd (p ++ x :: s) e = .ref f := by cases p <;> exact ⟨_, rfl⟩
theorem own_ls_ref0 : ∀ (s : List own_Or) (e : Addr), ∃ f, own_ls (.ref e) s = .ref f
 | [], e => ⟨e, rfl⟩
 | x :: s, _ => own_ls_ref0 s x.1
theorem own_ls_ref (p : List own_Or) (x : own_Or) (s : List own_Or) (e : Value) : ∃ f, own_ls e (p ++ x :: s) = .ref f := by rw [own_ls_app]; exact own_ls_ref0 s x.1
theorem own_ls_skip (e : Value) (p : List own_Or) (o x : own_Or) (s : List own_Or) : own_ls e (p ++ o :: x :: s) = own_ls e (p ++ x :: s) := by rw [own_ls_app e p (o :: x :: s), own_ls_app e p (x :: s)] <;> rfl
theorem own_hd_same (p : List own_Or) (y : own_Or) (s s' : List own_Or) (e e' : Value) : own_hd ((p ++ [y]) ++ s) e = own_hd ((p ++ [y]) ++ s') e' := by cases p <;> rfl
theorem own_ls_snoc (e : Value) (p : List own_Or) (y : own_Or) : own_ls e (p ++ [y]) = .ref y.1 := by rw [own_ls_app]; rfl
theorem own_LV_add1 (F : own_LV Z h a A (p ++ [y])) (K : Keep h h' ws) (m : ∀ x ∈ p, x.1 ∉ ws) (LL : own_LL Z h' A (own_hd (p ++ [y]) .null) (.ref o)) (OO : own_OO Z h' o q (.ref y.1) .null (.ref a)) (YO : own_OO Z h' y.1 y.2 (own_ls .null p) (.ref o) (.ref a)) : own_LV Z h' a A (p ++ [y] ++ [(o, q)]) := by
 refine ⟨?_, own_CH_app.mpr ⟨own_CH_app.mpr ⟨(own_CH_app.mp F.2).1.keep K m, YO, trivial⟩, ?_⟩⟩
 ·rw [own_ls_snoc]
  cases p <;> exact LL
 ·rw [own_ls_snoc]; exact ⟨OO, trivial⟩
end

theorem d4_0 : decode prog_3_method_1_code 0 = .ok (.aload_n 0, 1) := by decide +kernel
theorem d4_1 : decode prog_3_method_1_code 1 = .ok (.invokespecial 1, 3) := by decide +kernel
theorem d4_4 : decode prog_3_method_1_code 4 = .ok (.aload_n 0, 1) := by decide +kernel
theorem d4_5 : decode prog_3_method_1_code 5 = .ok (.lload_n 1, 1) := by decide +kernel
theorem d4_6 : decode prog_3_method_1_code 6 = .ok (.putfield 7, 3) := by decide +kernel
theorem d4_9 : decode prog_3_method_1_code 9 = .ok (.return_, 1) := by decide +kernel
theorem own_pn0 : plainName "com/example/tidegate/tidegate/engine/BookSide$Level" = true := by first | (simp [plainName, overriddenIn]; done) | decide +kernel
def Q_lvini (Z : State) (a : Addr) (q : Int64) (h0 : Heap) (n0 : Nat) (v : Option Value) (h : Heap) (L : List Loc) : Prop := v = none ∧ Fr n0 L ∧ Keep h0 h [a] ∧ Exa Z h a "com/example/tidegate/tidegate/engine/BookSide$Level" ∧ Fld Z h a "com/example/tidegate/tidegate/engine/BookSide$Level" "first" "Lcom/example/tidegate/tidegate/engine/Order;" .null ∧ Fld Z h a "com/example/tidegate/tidegate/engine/BookSide$Level" "last" "Lcom/example/tidegate/tidegate/engine/Order;" .null
set_option maxRecDepth 65536 in
set_option maxHeartbeats 40000000 in
theorem rm_lvini (l : Launch) (Z : State) (a0 : Array Value) (hw : ∀ d ∈ tables_1, d.before a0 Z = true) (ws : List Jvm.Cond) (a : Addr) (q : Int64) (h0 : Heap) (n0 : Nat) (Z0 : n0 ≤ h0.size) (E : Exa Z h0 a "com/example/tidegate/tidegate/engine/BookSide$Level") (Fp : Fld Z h0 a "com/example/tidegate/tidegate/engine/BookSide$Level" "price" "J" (.long (0 : Int64))) (Ff : Fld Z h0 a "com/example/tidegate/tidegate/engine/BookSide$Level" "first" "Lcom/example/tidegate/tidegate/engine/Order;" .null) (Fl : Fld Z h0 a "com/example/tidegate/tidegate/engine/BookSide$Level" "last" "Lcom/example/tidegate/tidegate/engine/Order;" .null) (ga : n0 ≤ a) :
  MetFree l (⟨"com/example/tidegate/tidegate/engine/BookSide$Level", "<init>", "(J)V"⟩ : MethodName) (head1 (Jvm.Cond.code (⟨"com/example/tidegate/tidegate/engine/BookSide$Level", "<init>", "(J)V"⟩ : MethodName) prog_3_method_1_code 3 none :: ws) ({ frames := 1, cells := 0, slots := 0, locals := 12 } : Room)) (fun aa_ U => aa_ = #[(.ref a), (.long q)] ∧ Z.Warmed39 U.vm ∧ U.heap = h0) (fun _ _ _ _ _ => True) (fun _ U o_ U' => RetG U (Q_lvini Z a q h0 n0) 0 0 U' o_) := by
 refine MetFree.of_bodySF (plainFor_of_name own_pn0) hisR ?_
 intro p e s m args below meth c_ s₁ Bd hml0 hP hK
 obtain ⟨rfl, hZ, hh⟩ := hP
 have hx := Bd.exec
 have hby := Bd.bytes
 have hml : c_.maxLocals = 3 := hml0
 have hown : s.vm.findClass "com/example/tidegate/tidegate/engine/BookSide$Level" = some m.cls := findClass_of_methodNamed Bd.named
 have hnm := (name_of_methodNamed Bd.named Bd.method).1
 have X0 : Stand p l e ({ frames := 1, cells := 0, slots := 0, locals := 12 } : Room) s m #[(.ref a), (.long q)] below meth c_ s₁ [] 0 0 := Stand.of_body Bd
 have e0 : s₁.heap = h0 := by rw [← hh, Bd.state]; rfl
 have N0 := Fr.nil n0
 have w15_ := hw _ (List.mem_of_getElem? (i := 15) rfl)
 have w16_ := hw _ (List.mem_of_getElem? (i := 16) rfl)
 have w24_ := hw _ (List.mem_of_getElem? (i := 24) rfl)
 have w30_ := hw _ (List.mem_of_getElem? (i := 30) rfl)
 have w31_ := hw _ (List.mem_of_getElem? (i := 31) rfl)
 have w32_ := hw _ (List.mem_of_getElem? (i := 32) rfl)
 have w66_ := hw _ (List.mem_of_getElem? (i := 66) rfl)
 have w139_ := hw _ (List.mem_of_getElem? (i := 139) rfl)
 show Go p e below (RetG s (Q_lvini Z a q h0 n0) 0 0) (s₁.setTop (entryFrame m #[(.ref a), (.long q)] 3))
 rw [show entryFrame m #[(.ref a), (.long q)] 3 = mkF m 0 #[.val (.ref a), .val (.long q), .second] [] from by first | (simp [entryFrame, mkF, argsToLocals, Value.category]; done) | rfl]
 refine g_aloadN X0 hx hby d4_0 rfl rfl ?_
 refine g_initO X0 hx hby hZ hown w30_ w15_ w16_ e0 (by rw [hml]; rfl) (Nat.le_of_ble_eq_true rfl) (Nat.le_of_ble_eq_true rfl) d4_1 (fun T1 X1 e1 => ?_)
 refine g_aloadN X1 hx hby d4_4 rfl rfl ?_
 refine g_lloadN X1 hx hby d4_5 rfl ?_
 refine g_putF X1 hx hby hZ hown (host := "") (Or.inl w31_) Via.refl e1 Fp E (Or.inr ⟨w32_, rfl, hnm⟩) w24_ .long (by decide) rfl rfl N0 ga d4_6 (fun T2 h2 X2 e2 W2 F2 N2 => ?_)
 have f3 := (E.wr W2)
 have f4 := (Ff.other W2 (Or.inr (slot_ne (Or.inl w66_) (Or.inr w32_) (by decide) (t := (.object "com/example/tidegate/tidegate/engine/Order")) (t' := .long) (by decide) (by decide))))
 have f5 := (Fl.other W2 (Or.inr (slot_ne (Or.inl w139_) (Or.inr w32_) (by decide) (t := (.object "com/example/tidegate/tidegate/engine/Order")) (t' := .long) (by decide) (by decide))))
 refine g_ret X2 hx hby Bd.returns Bd.notSynchronized d4_9 e2 (by decide) (by decide) ?_
 show (Q_lvini Z a q h0 n0) none _ _
 exact ⟨rfl, N2, ((Keep.refl h0 [a]).wr W2 (Or.inl (List.mem_of_getElem? (i := 0) rfl))), f3, f4, f5⟩

theorem d2_0 : decode prog_2_method_1_code 0 = .ok (.aload_n 0, 1) := by decide +kernel
theorem d2_1 : decode prog_2_method_1_code 1 = .ok (.invokespecial 1, 3) := by decide +kernel
theorem d2_4 : decode prog_2_method_1_code 4 = .ok (.aload_n 0, 1) := by decide +kernel
theorem d2_5 : decode prog_2_method_1_code 5 = .ok (.bipush 16, 2) := by decide +kernel
theorem d2_7 : decode prog_2_method_1_code 7 = .ok (.newarray .long, 2) := by decide +kernel
theorem d2_9 : decode prog_2_method_1_code 9 = .ok (.putfield 9, 3) := by decide +kernel
theorem d2_12 : decode prog_2_method_1_code 12 = .ok (.aload_n 0, 1) := by decide +kernel
theorem d2_13 : decode prog_2_method_1_code 13 = .ok (.bipush 16, 2) := by decide +kernel
theorem d2_15 : decode prog_2_method_1_code 15 = .ok (.anewarray 13, 3) := by decide +kernel
theorem d2_18 : decode prog_2_method_1_code 18 = .ok (.putfield 15, 3) := by decide +kernel
theorem d2_21 : decode prog_2_method_1_code 21 = .ok (.aload_n 0, 1) := by decide +kernel
theorem d2_22 : decode prog_2_method_1_code 22 = .ok (.new 13, 3) := by decide +kernel
theorem d2_25 : decode prog_2_method_1_code 25 = .ok (.dup, 1) := by decide +kernel
theorem d2_26 : decode prog_2_method_1_code 26 = .ok (.ldc2_w 21, 3) := by decide +kernel
theorem d2_29 : decode prog_2_method_1_code 29 = .ok (.invokespecial 23, 3) := by decide +kernel
theorem own_pd0 : parseMethodDescriptor "(J)V" = some ⟨[.long], none⟩ := by decide +kernel
theorem d2_32 : decode prog_2_method_1_code 32 = .ok (.putfield 26, 3) := by decide +kernel
theorem d2_35 : decode prog_2_method_1_code 35 = .ok (.aload_n 0, 1) := by decide +kernel
theorem d2_36 : decode prog_2_method_1_code 36 = .ok (.aload_n 1, 1) := by decide +kernel
theorem d2_37 : decode prog_2_method_1_code 37 = .ok (.putfield 30, 3) := by decide +kernel
theorem d2_40 : decode prog_2_method_1_code 40 = .ok (.return_, 1) := by decide +kernel
theorem own_pn1 : plainName "com/example/tidegate/tidegate/engine/BookSide" = true := by first | (simp [plainName, overriddenIn]; done) | decide +kernel
def Q_bsini (Z : State) (a : Addr) (sd : Addr) (h0 : Heap) (n0 : Nat) (v : Option Value) (h : Heap) (L : List Loc) : Prop := v = none ∧ Fr n0 L ∧ Keep h0 h [a] ∧ ∃ (rk la up : Addr) (kr kl : ClassId), h0.size ≤ rk ∧ h0.size ≤ la ∧ h0.size ≤ up ∧ rk ≠ la ∧ Exa Z h a "com/example/tidegate/tidegate/engine/BookSide" ∧ Fld Z h a "com/example/tidegate/tidegate/engine/BookSide" "ranks" "[J" (.ref rk) ∧ Fld Z h a "com/example/tidegate/tidegate/engine/BookSide" "levels" "[Lcom/example/tidegate/tidegate/engine/BookSide$Level;" (.ref la) ∧ Fld Z h a "com/example/tidegate/tidegate/engine/BookSide" "unpriced" "Lcom/example/tidegate/tidegate/engine/BookSide$Level;" (.ref up) ∧ Fld Z h a "com/example/tidegate/tidegate/engine/BookSide" "side" "Lcom/example/tidegate/tidegate/engine/Side;" (.ref sd) ∧ Fld Z h a "com/example/tidegate/tidegate/engine/BookSide" "levelCount" "I" (.int (0 : Int32)) ∧ Fld Z h a "com/example/tidegate/tidegate/engine/BookSide" "quantity" "J" (.long (0 : Int64)) ∧ Arv Z h rk kr .long (16 : Int32) [(.long (0 : Int64)), (.long (0 : Int64)), (.long (0 : Int64)), (.long (0 : Int64)), (.long (0 : Int64)), (.long (0 : Int64)), (.long (0 : Int64)), (.long (0 : Int64)), (.long (0 : Int64)), (.long (0 : Int64)), (.long (0 : Int64)), (.long (0 : Int64)), (.long (0 : Int64)), (.long (0 : Int64)), (.long (0 : Int64)), (.long (0 : Int64))] (.long (0 : Int64)) ∧ Arv Z h la kl (.object "com/example/tidegate/tidegate/engine/BookSide$Level") (16 : Int32) [.null, .null, .null, .null, .null, .null, .null, .null, .null, .null, .null, .null, .null, .null, .null, .null] .null ∧ Ovr Z kl "com/example/tidegate/tidegate/engine/BookSide$Level" ∧ Exa Z h up "com/example/tidegate/tidegate/engine/BookSide$Level" ∧ Fld Z h up "com/example/tidegate/tidegate/engine/BookSide$Level" "first" "Lcom/example/tidegate/tidegate/engine/Order;" .null ∧ Fld Z h up "com/example/tidegate/tidegate/engine/BookSide$Level" "last" "Lcom/example/tidegate/tidegate/engine/Order;" .null
set_option maxRecDepth 65536 in
set_option maxHeartbeats 40000000 in
theorem rm_bsini (l : Launch) (Z : State) (a0 : Array Value) (hw : ∀ d ∈ tables_1, d.before a0 Z = true) (ws : List Jvm.Cond) (a : Addr) (sd : Addr) (h0 : Heap) (n0 : Nat) (Z0 : n0 ≤ h0.size) (E : Exa Z h0 a "com/example/tidegate/tidegate/engine/BookSide") (Franks : Fld Z h0 a "com/example/tidegate/tidegate/engine/BookSide" "ranks" "[J" .null) (Flevels : Fld Z h0 a "com/example/tidegate/tidegate/engine/BookSide" "levels" "[Lcom/example/tidegate/tidegate/engine/BookSide$Level;" .null) (Funpriced : Fld Z h0 a "com/example/tidegate/tidegate/engine/BookSide" "unpriced" "Lcom/example/tidegate/tidegate/engine/BookSide$Level;" .null) (Fside : Fld Z h0 a "com/example/tidegate/tidegate/engine/BookSide" "side" "Lcom/example/tidegate/tidegate/engine/Side;" .null) (FlevelCount : Fld Z h0 a "com/example/tidegate/tidegate/engine/BookSide" "levelCount" "I" (.int (0 : Int32))) (Fquantity : Fld Z h0 a "com/example/tidegate/tidegate/engine/BookSide" "quantity" "J" (.long (0 : Int64))) (ga : n0 ≤ a) :
  MetFree l (⟨"com/example/tidegate/tidegate/engine/BookSide", "<init>", "(Lcom/example/tidegate/tidegate/engine/Side;)V"⟩ : MethodName) (head1 (Jvm.Cond.code (⟨"com/example/tidegate/tidegate/engine/BookSide", "<init>", "(Lcom/example/tidegate/tidegate/engine/Side;)V"⟩ : MethodName) prog_2_method_1_code 2 none :: ws) ({ frames := 2, cells := 3, slots := 35, locals := 28 } : Room)) (fun aa_ U => aa_ = #[(.ref a), (.ref sd)] ∧ Z.Warmed39 U.vm ∧ U.heap = h0) (fun _ _ _ _ _ => True) (fun _ U o_ U' => RetG U (Q_bsini Z a sd h0 n0) 3 35 U' o_) := by
 refine MetFree.of_bodySF (plainFor_of_name own_pn1) hisR ?_
 intro p e s m args below meth c_ s₁ Bd hml0 hP hK
 obtain ⟨rfl, hZ, hh⟩ := hP
 have hx := Bd.exec
 have hby := Bd.bytes
 have hml : c_.maxLocals = 2 := hml0
 have hown : s.vm.findClass "com/example/tidegate/tidegate/engine/BookSide" = some m.cls := findClass_of_methodNamed Bd.named
 have hnm := (name_of_methodNamed Bd.named Bd.method).1
 have X0 : Stand p l e ({ frames := 2, cells := 3, slots := 35, locals := 28 } : Room) s m #[(.ref a), (.ref sd)] below meth c_ s₁ [] 0 0 := Stand.of_body Bd
 have e0 : s₁.heap = h0 := by rw [← hh, Bd.state]; rfl
 have N0 := Fr.nil n0
 have w9_ := hw _ (List.mem_of_getElem? (i := 9) rfl)
 have w14_ := hw _ (List.mem_of_getElem? (i := 14) rfl)
 have w15_ := hw _ (List.mem_of_getElem? (i := 15) rfl)
 have w16_ := hw _ (List.mem_of_getElem? (i := 16) rfl)
 have w17_ := hw _ (List.mem_of_getElem? (i := 17) rfl)
 have w18_ := hw _ (List.mem_of_getElem? (i := 18) rfl)
 have w19_ := hw _ (List.mem_of_getElem? (i := 19) rfl)
 have w20_ := hw _ (List.mem_of_getElem? (i := 20) rfl)
 have w21_ := hw _ (List.mem_of_getElem? (i := 21) rfl)
 have w22_ := hw _ (List.mem_of_getElem? (i := 22) rfl)
 have w23_ := hw _ (List.mem_of_getElem? (i := 23) rfl)
 have w24_ := hw _ (List.mem_of_getElem? (i := 24) rfl)
 have w25_ := hw _ (List.mem_of_getElem? (i := 25) rfl)
 have w26_ := hw _ (List.mem_of_getElem? (i := 26) rfl)
 have w27_ := hw _ (List.mem_of_getElem? (i := 27) rfl)
 have w28_ := hw _ (List.mem_of_getElem? (i := 28) rfl)
 have w29_ := hw _ (List.mem_of_getElem? (i := 29) rfl)
 have w32_ := hw _ (List.mem_of_getElem? (i := 32) rfl)
 have w33_ := hw _ (List.mem_of_getElem? (i := 33) rfl)
 have w34_ := hw _ (List.mem_of_getElem? (i := 34) rfl)
 have w35_ := hw _ (List.mem_of_getElem? (i := 35) rfl)
 have w36_ := hw _ (List.mem_of_getElem? (i := 36) rfl)
 have w66_ := hw _ (List.mem_of_getElem? (i := 66) rfl)
 have w68_ := hw _ (List.mem_of_getElem? (i := 68) rfl)
 have w78_ := hw _ (List.mem_of_getElem? (i := 78) rfl)
 have w139_ := hw _ (List.mem_of_getElem? (i := 139) rfl)
 show Go p e below (RetG s (Q_bsini Z a sd h0 n0) 3 35) (s₁.setTop (entryFrame m #[(.ref a), (.ref sd)] 2))
 rw [show entryFrame m #[(.ref a), (.ref sd)] 2 = mkF m 0 #[.val (.ref a), .val (.ref sd)] [] from by first | (simp [entryFrame, mkF, argsToLocals, Value.category]; done) | rfl]
 refine g_aloadN X0 hx hby d2_0 rfl rfl ?_
 refine g_initO X0 hx hby hZ hown w14_ w15_ w16_ e0 (by rw [hml]; rfl) (Nat.le_of_ble_eq_true rfl) (Nat.le_of_ble_eq_true rfl) d2_1 (fun T1 X1 e1 => ?_)
 refine g_aloadN X1 hx hby d2_4 rfl rfl ?_
 refine g_bipush X1 hx hby (16 : Int32) d2_5 rfl ?_
 refine g_newarray X1 hx hby hZ .long .long (.long (0 : Int64)) [(.long (0 : Int64)), (.long (0 : Int64)), (.long (0 : Int64)), (.long (0 : Int64)), (.long (0 : Int64)), (.long (0 : Int64)), (.long (0 : Int64)), (.long (0 : Int64)), (.long (0 : Int64)), (.long (0 : Int64)), (.long (0 : Int64)), (.long (0 : Int64)), (.long (0 : Int64)), (.long (0 : Int64)), (.long (0 : Int64)), (.long (0 : Int64))] rfl rfl w17_ e1 (by decide) 16 rfl (by decide) (by decide) (by decide) (by decide) d2_7 (fun T2 h2 k2 b2 g2 X2 e2 E2 V2 => ?_)
 have f3 := (E.ext E2)
 have f4 := (Franks.ext E2)
 refine g_putF X2 hx hby hZ hown (host := "") (Or.inl w18_) Via.refl e2 f4 f3 (Or.inl w19_) w9_ (.array .long) (by decide) rfl rfl N0 ga d2_9 (fun T5 h5 X5 e5 W5 F5 N5 => ?_)
 refine g_aloadN X5 hx hby d2_12 rfl rfl ?_
 refine g_bipush X5 hx hby (16 : Int32) d2_13 rfl ?_
 refine g_anewarray X5 hx hby hZ hown w20_ w21_ (ad := "[Lcom/example/tidegate/tidegate/engine/BookSide$Level;") (by decide +kernel) [.null, .null, .null, .null, .null, .null, .null, .null, .null, .null, .null, .null, .null, .null, .null, .null] e5 (by decide) 16 rfl (by decide) (by decide) (by decide) (by decide) d2_15 (fun T6 h6 k6 b6 g6 X6 e6 E6 V6 A6 O6 => ?_)
 have f7 := ((f3.wr W5).ext E6)
 have f8 := (((Flevels.ext E2).other W5 (Or.inr (slot_ne (Or.inl w23_) (Or.inl w19_) (by decide) (t := (.array (.object "com/example/tidegate/tidegate/engine/BookSide$Level"))) (t' := (.array .long)) (by decide) (by decide)))).ext E6)
 refine g_putF X6 hx hby hZ hown (host := "") (Or.inl w22_) Via.refl e6 f8 f7 (Or.inl w23_) w9_ (.array (.object "com/example/tidegate/tidegate/engine/BookSide$Level")) (by decide) rfl rfl N5 ga d2_18 (fun T9 h9 X9 e9 W9 F9 N9 => ?_)
 refine g_aloadN X9 hx hby d2_21 rfl rfl ?_
 refine g_new X9 hx hby hZ hown w20_ w24_ w25_ e9 (by decide) (by decide) d2_22 (fun T10 h10 b10 g10 X10 e10 E10 A10 D10 => ?_)
 have F_price_b10 : Fld Z h10 b10 "com/example/tidegate/tidegate/engine/BookSide$Level" "price" "J" (.long (0 : Int64)) := D10 (Or.inr w32_) (ty := .long) (by decide)
 have F_first_b10 : Fld Z h10 b10 "com/example/tidegate/tidegate/engine/BookSide$Level" "first" "Lcom/example/tidegate/tidegate/engine/Order;" .null := D10 (Or.inl w66_) (ty := (.object "com/example/tidegate/tidegate/engine/Order")) (by decide)
 have F_last_b10 : Fld Z h10 b10 "com/example/tidegate/tidegate/engine/BookSide$Level" "last" "Lcom/example/tidegate/tidegate/engine/Order;" .null := D10 (Or.inl w139_) (ty := (.object "com/example/tidegate/tidegate/engine/Order")) (by decide)
 refine g_dup X10 hx hby d2_25 rfl ?_
 refine g_ldc2J X10 hx hby hZ hown w26_ d2_26 ?_
 have g_b10 : n0 ≤ b10 := Nat.le_trans (Nat.le_trans Z0 (Nat.le_trans (Nat.le_trans (Nat.le_trans E2.1 (Keep.of_wr W5).1) E6.1) (Keep.of_wr W9).1)) (Nat.le_of_eq g10)
 have z12 := (Nat.le_trans Z0 (Nat.le_trans (Nat.le_trans (Nat.le_trans (Nat.le_trans E2.1 (Keep.of_wr W5).1) E6.1) (Keep.of_wr W9).1) E10.1))
 refine g_special X10 hx hby hZ hown (rm_lvini l Z a0 hw [] b10 (-9223372036854775808 : Int64) h10 n0 z12 A10 F_price_b10 F_first_b10 F_last_b10 g_b10) rfl rfl w27_ w28_ w25_ w29_ (by decide) e10 (by rw [hml]; rfl) [(.long (-9223372036854775808 : Int64))] (lenOf own_pd0 rfl) rfl rfl (Nat.le_of_ble_eq_true rfl) (Nat.le_of_ble_eq_true rfl) (Nat.le_of_ble_eq_true rfl) (Nat.le_of_ble_eq_true rfl) d2_29 (fun v11 T11 L11 X11 hQ11 => ?_)
 obtain ⟨rfl, N11q, K11, lE11, lF11, lL11⟩ := hQ11
 have N11 := Fr.app N9 N11q
 have f13 := (((f7.wr W9).ext E10).keep K11)
 have ne14 : a ≠ b10 := (Nat.ne_of_lt (Nat.lt_of_lt_of_le E.lt (Nat.le_trans (Nat.le_trans (Nat.le_trans (Nat.le_trans E2.1 (Keep.of_wr W5).1) E6.1) (Keep.of_wr W9).1) (Nat.le_of_eq g10))))
 have f15 := ((((((Funpriced.ext E2).other W5 (Or.inr (slot_ne (Or.inr w34_) (Or.inl w19_) (by decide) (t := (.object "com/example/tidegate/tidegate/engine/BookSide$Level")) (t' := (.array .long)) (by decide) (by decide)))).ext E6).other W9 (Or.inr (slot_ne (Or.inr w34_) (Or.inl w23_) (by decide) (t := (.object "com/example/tidegate/tidegate/engine/BookSide$Level")) (t' := (.array (.object "com/example/tidegate/tidegate/engine/BookSide$Level"))) (by decide) (by decide)))).ext E10).keep K11 (ninS ne14 nin0))
 refine g_putF X11 hx hby hZ hown (host := "") (Or.inl w33_) Via.refl rfl f15 f13 (Or.inr ⟨w34_, rfl, hnm⟩) w9_ (.object "com/example/tidegate/tidegate/engine/BookSide$Level") (by decide) rfl rfl N11 ga d2_32 (fun T16 h16 X16 e16 W16 F16 N16 => ?_)
 refine g_aloadN X16 hx hby d2_35 rfl rfl ?_
 refine g_aloadN X16 hx hby d2_36 rfl rfl ?_
 have f17 := (f13.wr W16)
 have f18 := (((((((Fside.ext E2).other W5 (Or.inr (slot_ne (Or.inr w36_) (Or.inl w19_) (by decide) (t := (.object "com/example/tidegate/tidegate/engine/Side")) (t' := (.array .long)) (by decide) (by decide)))).ext E6).other W9 (Or.inr (slot_ne (Or.inr w36_) (Or.inl w23_) (by decide) (t := (.object "com/example/tidegate/tidegate/engine/Side")) (t' := (.array (.object "com/example/tidegate/tidegate/engine/BookSide$Level"))) (by decide) (by decide)))).ext E10).keep K11 (ninS ne14 nin0)).other W16 (Or.inr (slot_ne (Or.inr w36_) (Or.inr w34_) (by decide) (t := (.object "com/example/tidegate/tidegate/engine/Side")) (t' := (.object "com/example/tidegate/tidegate/engine/BookSide$Level")) (by decide) (by decide))))
 refine g_putF X16 hx hby hZ hown (host := "") (Or.inl w35_) Via.refl e16 f18 f17 (Or.inr ⟨w36_, rfl, hnm⟩) w9_ (.object "com/example/tidegate/tidegate/engine/Side") (by decide) rfl rfl N16 ga d2_37 (fun T19 h19 X19 e19 W19 F19 N19 => ?_)
 have ne20 : b2 ≠ b6 := (Nat.ne_of_lt (Nat.lt_of_lt_of_le V2.lt (Nat.le_trans (Keep.of_wr W5).1 (Nat.le_of_eq g6))))
 have f21 := (f17.wr W19)
 have f22 := ((((((F5.ext E6).other W9 (Or.inr (slot_ne (Or.inl w19_) (Or.inl w23_) (by decide) (t := (.array .long)) (t' := (.array (.object "com/example/tidegate/tidegate/engine/BookSide$Level"))) (by decide) (by decide)))).ext E10).keep K11 (ninS ne14 nin0)).other W16 (Or.inr (slot_ne (Or.inl w19_) (Or.inr w34_) (by decide) (t := (.array .long)) (t' := (.object "com/example/tidegate/tidegate/engine/BookSide$Level")) (by decide) (by decide)))).other W19 (Or.inr (slot_ne (Or.inl w19_) (Or.inr w36_) (by decide) (t := (.array .long)) (t' := (.object "com/example/tidegate/tidegate/engine/Side")) (by decide) (by decide))))
 have f23 := ((((F9.ext E10).keep K11 (ninS ne14 nin0)).other W16 (Or.inr (slot_ne (Or.inl w23_) (Or.inr w34_) (by decide) (t := (.array (.object "com/example/tidegate/tidegate/engine/BookSide$Level"))) (t' := (.object "com/example/tidegate/tidegate/engine/BookSide$Level")) (by decide) (by decide)))).other W19 (Or.inr (slot_ne (Or.inl w23_) (Or.inr w36_) (by decide) (t := (.array (.object "com/example/tidegate/tidegate/engine/BookSide$Level"))) (t' := (.object "com/example/tidegate/tidegate/engine/Side")) (by decide) (by decide))))
 have f24 := (F16.other W19 (Or.inr (slot_ne (Or.inr w34_) (Or.inr w36_) (by decide) (t := (.object "com/example/tidegate/tidegate/engine/BookSide$Level")) (t' := (.object "com/example/tidegate/tidegate/engine/Side")) (by decide) (by decide))))
 have f25 := ((((((((FlevelCount.ext E2).other W5 (Or.inr (slot_ne (Or.inl w68_) (Or.inl w19_) (by decide) (t := .int) (t' := (.array .long)) (by decide) (by decide)))).ext E6).other W9 (Or.inr (slot_ne (Or.inl w68_) (Or.inl w23_) (by decide) (t := .int) (t' := (.array (.object "com/example/tidegate/tidegate/engine/BookSide$Level"))) (by decide) (by decide)))).ext E10).keep K11 (ninS ne14 nin0)).other W16 (Or.inr (slot_ne (Or.inl w68_) (Or.inr w34_) (by decide) (t := .int) (t' := (.object "com/example/tidegate/tidegate/engine/BookSide$Level")) (by decide) (by decide)))).other W19 (Or.inr (slot_ne (Or.inl w68_) (Or.inr w36_) (by decide) (t := .int) (t' := (.object "com/example/tidegate/tidegate/engine/Side")) (by decide) (by decide))))
 have f26 := ((((((((Fquantity.ext E2).other W5 (Or.inr (slot_ne (Or.inl w78_) (Or.inl w19_) (by decide) (t := .long) (t' := (.array .long)) (by decide) (by decide)))).ext E6).other W9 (Or.inr (slot_ne (Or.inl w78_) (Or.inl w23_) (by decide) (t := .long) (t' := (.array (.object "com/example/tidegate/tidegate/engine/BookSide$Level"))) (by decide) (by decide)))).ext E10).keep K11 (ninS ne14 nin0)).other W16 (Or.inr (slot_ne (Or.inl w78_) (Or.inr w34_) (by decide) (t := .long) (t' := (.object "com/example/tidegate/tidegate/engine/BookSide$Level")) (by decide) (by decide)))).other W19 (Or.inr (slot_ne (Or.inl w78_) (Or.inr w36_) (by decide) (t := .long) (t' := (.object "com/example/tidegate/tidegate/engine/Side")) (by decide) (by decide))))
 have ne27 : b2 ≠ a := (Ne.symm (Nat.ne_of_lt (Nat.lt_of_lt_of_le E.lt (Nat.le_of_eq g2))))
 have ne28 : b2 ≠ b10 := (Nat.ne_of_lt (Nat.lt_of_lt_of_le V2.lt (Nat.le_trans (Nat.le_trans (Nat.le_trans (Keep.of_wr W5).1 E6.1) (Keep.of_wr W9).1) (Nat.le_of_eq g10))))
 have f29 := (((((((V2.other W5 ne27).ext E6).other W9 ne27).ext E10).keep K11 (ninS ne28 nin0)).other W16 ne27).other W19 ne27)
 have ne30 : b6 ≠ a := (Ne.symm (Nat.ne_of_lt (Nat.lt_of_lt_of_le E.lt (Nat.le_trans (Nat.le_trans E2.1 (Keep.of_wr W5).1) (Nat.le_of_eq g6)))))
 have ne31 : b6 ≠ b10 := (Nat.ne_of_lt (Nat.lt_of_lt_of_le V6.lt (Nat.le_trans (Keep.of_wr W9).1 (Nat.le_of_eq g10))))
 have f32 := (((((V6.other W9 ne30).ext E10).keep K11 (ninS ne31 nin0)).other W16 ne30).other W19 ne30)
 have f33 := (((A10.keep K11).wr W16).wr W19)
 have f34 := ((lF11.other W16 (Or.inl (Ne.symm ne14))).other W19 (Or.inl (Ne.symm ne14)))
 have f35 := ((lL11.other W16 (Or.inl (Ne.symm ne14))).other W19 (Or.inl (Ne.symm ne14)))
 refine g_ret X19 hx hby Bd.returns Bd.notSynchronized d2_40 e19 (by decide) (by decide) ?_
 show (Q_bsini Z a sd h0 n0) none _ _
 exact ⟨rfl, N19, (((((((((Keep.refl h0 [a]).ext E2).wr W5 (Or.inl (List.mem_of_getElem? (i := 0) rfl))).ext E6).wr W9 (Or.inl (List.mem_of_getElem? (i := 0) rfl))).ext E10).trans K11 (allS (Or.inr (Nat.le_trans (Nat.le_trans (Nat.le_trans (Nat.le_trans E2.1 (Keep.of_wr W5).1) E6.1) (Keep.of_wr W9).1) (Nat.le_of_eq g10))) all0)).wr W16 (Or.inl (List.mem_of_getElem? (i := 0) rfl))).wr W19 (Or.inl (List.mem_of_getElem? (i := 0) rfl))), b2, b6, b10, k2, k6, (Nat.le_trans (Nat.le_refl _) (Nat.le_of_eq g2)), (Nat.le_trans (Nat.le_trans E2.1 (Keep.of_wr W5).1) (Nat.le_of_eq g6)), (Nat.le_trans (Nat.le_trans (Nat.le_trans (Nat.le_trans E2.1 (Keep.of_wr W5).1) E6.1) (Keep.of_wr W9).1) (Nat.le_of_eq g10)), ne20, f21, f22, f23, f24, F19, f25, f26, f29, f32, O6, f33, f34, f35⟩

theorem d5_0 : decode prog_19_method_1_code 0 = .ok (.aload_n 0, 1) := by decide +kernel
theorem d5_1 : decode prog_19_method_1_code 1 = .ok (.invokespecial 3, 3) := by decide +kernel
theorem d5_4 : decode prog_19_method_1_code 4 = .ok (.aload_n 0, 1) := by decide +kernel
theorem d5_5 : decode prog_19_method_1_code 5 = .ok (.aload_n 1, 1) := by decide +kernel
theorem d5_6 : decode prog_19_method_1_code 6 = .ok (.putfield 9, 3) := by decide +kernel
theorem d5_9 : decode prog_19_method_1_code 9 = .ok (.aload_n 0, 1) := by decide +kernel
theorem d5_10 : decode prog_19_method_1_code 10 = .ok (.aload_n 2, 1) := by decide +kernel
theorem d5_11 : decode prog_19_method_1_code 11 = .ok (.putfield 15, 3) := by decide +kernel
theorem d5_14 : decode prog_19_method_1_code 14 = .ok (.aload_n 0, 1) := by decide +kernel
theorem d5_15 : decode prog_19_method_1_code 15 = .ok (.aload_n 3, 1) := by decide +kernel
theorem d5_16 : decode prog_19_method_1_code 16 = .ok (.putfield 19, 3) := by decide +kernel
theorem d5_19 : decode prog_19_method_1_code 19 = .ok (.aload_n 0, 1) := by decide +kernel
theorem d5_20 : decode prog_19_method_1_code 20 = .ok (.aload 4, 2) := by decide +kernel
theorem d5_22 : decode prog_19_method_1_code 22 = .ok (.putfield 23, 3) := by decide +kernel
theorem d5_25 : decode prog_19_method_1_code 25 = .ok (.aload_n 0, 1) := by decide +kernel
theorem d5_26 : decode prog_19_method_1_code 26 = .ok (.lload 5, 2) := by decide +kernel
theorem d5_28 : decode prog_19_method_1_code 28 = .ok (.putfield 27, 3) := by decide +kernel
theorem d5_31 : decode prog_19_method_1_code 31 = .ok (.aload_n 0, 1) := by decide +kernel
theorem d5_32 : decode prog_19_method_1_code 32 = .ok (.lload 7, 2) := by decide +kernel
theorem d5_34 : decode prog_19_method_1_code 34 = .ok (.putfield 31, 3) := by decide +kernel
theorem d5_37 : decode prog_19_method_1_code 37 = .ok (.aload_n 0, 1) := by decide +kernel
theorem d5_38 : decode prog_19_method_1_code 38 = .ok (.lload 9, 2) := by decide +kernel
theorem d5_40 : decode prog_19_method_1_code 40 = .ok (.putfield 34, 3) := by decide +kernel
theorem d5_43 : decode prog_19_method_1_code 43 = .ok (.aload_n 0, 1) := by decide +kernel
theorem d5_44 : decode prog_19_method_1_code 44 = .ok (.lload 5, 2) := by decide +kernel
theorem d5_46 : decode prog_19_method_1_code 46 = .ok (.putfield 37, 3) := by decide +kernel
theorem d5_49 : decode prog_19_method_1_code 49 = .ok (.return_, 1) := by decide +kernel
theorem own_pn2 : plainName "com/example/tidegate/tidegate/engine/Order" = true := by first | (simp [plainName, overriddenIn]; done) | decide +kernel
def Q_orini (Z : State) (a : Addr) (sd : Addr) (q : Int64) (h0 : Heap) (n0 : Nat) (v : Option Value) (h : Heap) (L : List Loc) : Prop := v = none ∧ Fr n0 L ∧ Keep h0 h [a] ∧ own_OO Z h a q .null .null .null
set_option maxRecDepth 65536 in
set_option maxHeartbeats 40000000 in
theorem rm_orini (l : Launch) (Z : State) (a0 : Array Value) (hw : ∀ d ∈ tables_1, d.before a0 Z = true) (ws : List Jvm.Cond) (a : Addr) (sd : Addr) (q : Int64) (h0 : Heap) (n0 : Nat) (Z0 : n0 ≤ h0.size) (E : Exa Z h0 a "com/example/tidegate/tidegate/engine/Order") (Fid : Fld Z h0 a "com/example/tidegate/tidegate/engine/Order" "id" "Ljava/lang/String;" .null) (Fsecurity : Fld Z h0 a "com/example/tidegate/tidegate/engine/Order" "security" "Lcom/example/tidegate/tidegate/engine/Security;" .null) (Fside : Fld Z h0 a "com/example/tidegate/tidegate/engine/Order" "side" "Lcom/example/tidegate/tidegate/engine/Side;" .null) (Ftype : Fld Z h0 a "com/example/tidegate/tidegate/engine/Order" "type" "Lcom/example/tidegate/tidegate/engine/OrderType;" .null) (Fquantity : Fld Z h0 a "com/example/tidegate/tidegate/engine/Order" "quantity" "J" (.long (0 : Int64))) (Fprice : Fld Z h0 a "com/example/tidegate/tidegate/engine/Order" "price" "J" (.long (0 : Int64))) (Fpeak : Fld Z h0 a "com/example/tidegate/tidegate/engine/Order" "peak" "J" (.long (0 : Int64))) (Fremaining : Fld Z h0 a "com/example/tidegate/tidegate/engine/Order" "remaining" "J" (.long (0 : Int64))) (Fslice : Fld Z h0 a "com/example/tidegate/tidegate/engine/Order" "slice" "J" (.long (0 : Int64))) (Fprevious : Fld Z h0 a "com/example/tidegate/tidegate/engine/Order" "previous" "Lcom/example/tidegate/tidegate/engine/Order;" .null) (Fnext : Fld Z h0 a "com/example/tidegate/tidegate/engine/Order" "next" "Lcom/example/tidegate/tidegate/engine/Order;" .null) (FrestingOn : Fld Z h0 a "com/example/tidegate/tidegate/engine/Order" "restingOn" "Lcom/example/tidegate/tidegate/engine/BookSide;" .null) (ga : n0 ≤ a) :
  MetFree l (⟨"com/example/tidegate/tidegate/engine/Order", "<init>", "(Ljava/lang/String;Lcom/example/tidegate/tidegate/engine/Security;Lcom/example/tidegate/tidegate/engine/Side;Lcom/example/tidegate/tidegate/engine/OrderType;JJJ)V"⟩ : MethodName) (head1 (Jvm.Cond.code (⟨"com/example/tidegate/tidegate/engine/Order", "<init>", "(Ljava/lang/String;Lcom/example/tidegate/tidegate/engine/Security;Lcom/example/tidegate/tidegate/engine/Side;Lcom/example/tidegate/tidegate/engine/OrderType;JJJ)V"⟩ : MethodName) prog_19_method_1_code 11 none :: ws) ({ frames := 1, cells := 0, slots := 0, locals := 12 } : Room)) (fun aa_ U => aa_ = #[(.ref a), .null, .null, (.ref sd), .null, (.long (1 : Int64)), (.long q), (.long (0 : Int64))] ∧ Z.Warmed39 U.vm ∧ U.heap = h0) (fun _ _ _ _ _ => True) (fun _ U o_ U' => RetG U (Q_orini Z a sd q h0 n0) 0 0 U' o_) := by
 refine MetFree.of_bodySF (plainFor_of_name own_pn2) hisR ?_
 intro p e s m args below meth c_ s₁ Bd hml0 hP hK
 obtain ⟨rfl, hZ, hh⟩ := hP
 have hx := Bd.exec
 have hby := Bd.bytes
 have hml : c_.maxLocals = 11 := hml0
 have hown : s.vm.findClass "com/example/tidegate/tidegate/engine/Order" = some m.cls := findClass_of_methodNamed Bd.named
 have hnm := (name_of_methodNamed Bd.named Bd.method).1
 have X0 : Stand p l e ({ frames := 1, cells := 0, slots := 0, locals := 12 } : Room) s m #[(.ref a), .null, .null, (.ref sd), .null, (.long (1 : Int64)), (.long q), (.long (0 : Int64))] below meth c_ s₁ [] 0 0 := Stand.of_body Bd
 have e0 : s₁.heap = h0 := by rw [← hh, Bd.state]; rfl
 have N0 := Fr.nil n0
 have w15_ := hw _ (List.mem_of_getElem? (i := 15) rfl)
 have w16_ := hw _ (List.mem_of_getElem? (i := 16) rfl)
 have w38_ := hw _ (List.mem_of_getElem? (i := 38) rfl)
 have w43_ := hw _ (List.mem_of_getElem? (i := 43) rfl)
 have w44_ := hw _ (List.mem_of_getElem? (i := 44) rfl)
 have w45_ := hw _ (List.mem_of_getElem? (i := 45) rfl)
 have w46_ := hw _ (List.mem_of_getElem? (i := 46) rfl)
 have w47_ := hw _ (List.mem_of_getElem? (i := 47) rfl)
 have w48_ := hw _ (List.mem_of_getElem? (i := 48) rfl)
 have w49_ := hw _ (List.mem_of_getElem? (i := 49) rfl)
 have w50_ := hw _ (List.mem_of_getElem? (i := 50) rfl)
 have w51_ := hw _ (List.mem_of_getElem? (i := 51) rfl)
 have w52_ := hw _ (List.mem_of_getElem? (i := 52) rfl)
 have w53_ := hw _ (List.mem_of_getElem? (i := 53) rfl)
 have w54_ := hw _ (List.mem_of_getElem? (i := 54) rfl)
 have w55_ := hw _ (List.mem_of_getElem? (i := 55) rfl)
 have w56_ := hw _ (List.mem_of_getElem? (i := 56) rfl)
 have w57_ := hw _ (List.mem_of_getElem? (i := 57) rfl)
 have w58_ := hw _ (List.mem_of_getElem? (i := 58) rfl)
 have w59_ := hw _ (List.mem_of_getElem? (i := 59) rfl)
 have w93_ := hw _ (List.mem_of_getElem? (i := 93) rfl)
 have w137_ := hw _ (List.mem_of_getElem? (i := 137) rfl)
 have w141_ := hw _ (List.mem_of_getElem? (i := 141) rfl)
 have w143_ := hw _ (List.mem_of_getElem? (i := 143) rfl)
 show Go p e below (RetG s (Q_orini Z a sd q h0 n0) 0 0) (s₁.setTop (entryFrame m #[(.ref a), .null, .null, (.ref sd), .null, (.long (1 : Int64)), (.long q), (.long (0 : Int64))] 11))
 rw [show entryFrame m #[(.ref a), .null, .null, (.ref sd), .null, (.long (1 : Int64)), (.long q), (.long (0 : Int64))] 11 = mkF m 0 #[.val (.ref a), .val .null, .val .null, .val (.ref sd), .val .null, .val (.long (1 : Int64)), .second, .val (.long q), .second, .val (.long (0 : Int64)), .second] [] from by first | (simp [entryFrame, mkF, argsToLocals, Value.category]; done) | rfl]
 refine g_aloadN X0 hx hby d5_0 rfl rfl ?_
 refine g_initO X0 hx hby hZ hown w43_ w15_ w16_ e0 (by rw [hml]; rfl) (Nat.le_of_ble_eq_true rfl) (Nat.le_of_ble_eq_true rfl) d5_1 (fun T1 X1 e1 => ?_)
 refine g_aloadN X1 hx hby d5_4 rfl rfl ?_
 refine g_aloadN X1 hx hby d5_5 rfl rfl ?_
 refine g_putF X1 hx hby hZ hown (host := "") (Or.inl w44_) Via.refl e1 Fid E (Or.inr ⟨w45_, rfl, hnm⟩) w38_ (.object "java/lang/String") (by decide) rfl rfl N0 ga d5_6 (fun T2 h2 X2 e2 W2 F2 N2 => ?_)
 refine g_aloadN X2 hx hby d5_9 rfl rfl ?_
 refine g_aloadN X2 hx hby d5_10 rfl rfl ?_
 have f3 := (E.wr W2)
 have f4 := (Fsecurity.other W2 (Or.inr (slot_ne (Or.inr w47_) (Or.inr w45_) (by decide) (t := (.object "com/example/tidegate/tidegate/engine/Security")) (t' := (.object "java/lang/String")) (by decide) (by decide))))
 refine g_putF X2 hx hby hZ hown (host := "") (Or.inl w46_) Via.refl e2 f4 f3 (Or.inr ⟨w47_, rfl, hnm⟩) w38_ (.object "com/example/tidegate/tidegate/engine/Security") (by decide) rfl rfl N2 ga d5_11 (fun T5 h5 X5 e5 W5 F5 N5 => ?_)
 refine g_aloadN X5 hx hby d5_14 rfl rfl ?_
 refine g_aloadN X5 hx hby d5_15 rfl rfl ?_
 have f6 := (f3.wr W5)
 have f7 := ((Fside.other W2 (Or.inr (slot_ne (Or.inr w49_) (Or.inr w45_) (by decide) (t := (.object "com/example/tidegate/tidegate/engine/Side")) (t' := (.object "java/lang/String")) (by decide) (by decide)))).other W5 (Or.inr (slot_ne (Or.inr w49_) (Or.inr w47_) (by decide) (t := (.object "com/example/tidegate/tidegate/engine/Side")) (t' := (.object "com/example/tidegate/tidegate/engine/Security")) (by decide) (by decide))))
 refine g_putF X5 hx hby hZ hown (host := "") (Or.inl w48_) Via.refl e5 f7 f6 (Or.inr ⟨w49_, rfl, hnm⟩) w38_ (.object "com/example/tidegate/tidegate/engine/Side") (by decide) rfl rfl N5 ga d5_16 (fun T8 h8 X8 e8 W8 F8 N8 => ?_)
 refine g_aloadN X8 hx hby d5_19 rfl rfl ?_
 refine g_aload X8 hx hby d5_20 rfl rfl ?_
 have f9 := (f6.wr W8)
 have f10 := (((Ftype.other W2 (Or.inr (slot_ne (Or.inr w51_) (Or.inr w45_) (by decide) (t := (.object "com/example/tidegate/tidegate/engine/OrderType")) (t' := (.object "java/lang/String")) (by decide) (by decide)))).other W5 (Or.inr (slot_ne (Or.inr w51_) (Or.inr w47_) (by decide) (t := (.object "com/example/tidegate/tidegate/engine/OrderType")) (t' := (.object "com/example/tidegate/tidegate/engine/Security")) (by decide) (by decide)))).other W8 (Or.inr (slot_ne (Or.inr w51_) (Or.inr w49_) (by decide) (t := (.object "com/example/tidegate/tidegate/engine/OrderType")) (t' := (.object "com/example/tidegate/tidegate/engine/Side")) (by decide) (by decide))))
 refine g_putF X8 hx hby hZ hown (host := "") (Or.inl w50_) Via.refl e8 f10 f9 (Or.inr ⟨w51_, rfl, hnm⟩) w38_ (.object "com/example/tidegate/tidegate/engine/OrderType") (by decide) rfl rfl N8 ga d5_22 (fun T11 h11 X11 e11 W11 F11 N11 => ?_)
 refine g_aloadN X11 hx hby d5_25 rfl rfl ?_
 refine g_lload X11 hx hby d5_26 rfl ?_
 have f12 := (f9.wr W11)
 have f13 := ((((Fquantity.other W2 (Or.inr (slot_ne (Or.inr w53_) (Or.inr w45_) (by decide) (t := .long) (t' := (.object "java/lang/String")) (by decide) (by decide)))).other W5 (Or.inr (slot_ne (Or.inr w53_) (Or.inr w47_) (by decide) (t := .long) (t' := (.object "com/example/tidegate/tidegate/engine/Security")) (by decide) (by decide)))).other W8 (Or.inr (slot_ne (Or.inr w53_) (Or.inr w49_) (by decide) (t := .long) (t' := (.object "com/example/tidegate/tidegate/engine/Side")) (by decide) (by decide)))).other W11 (Or.inr (slot_ne (Or.inr w53_) (Or.inr w51_) (by decide) (t := .long) (t' := (.object "com/example/tidegate/tidegate/engine/OrderType")) (by decide) (by decide))))
 refine g_putF X11 hx hby hZ hown (host := "") (Or.inl w52_) Via.refl e11 f13 f12 (Or.inr ⟨w53_, rfl, hnm⟩) w38_ .long (by decide) rfl rfl N11 ga d5_28 (fun T14 h14 X14 e14 W14 F14 N14 => ?_)
 refine g_aloadN X14 hx hby d5_31 rfl rfl ?_
 refine g_lload X14 hx hby d5_32 rfl ?_
 have f15 := (f12.wr W14)
 have f16 := (((((Fprice.other W2 (Or.inr (slot_ne (Or.inl w55_) (Or.inr w45_) (by decide) (t := .long) (t' := (.object "java/lang/String")) (by decide) (by decide)))).other W5 (Or.inr (slot_ne (Or.inl w55_) (Or.inr w47_) (by decide) (t := .long) (t' := (.object "com/example/tidegate/tidegate/engine/Security")) (by decide) (by decide)))).other W8 (Or.inr (slot_ne (Or.inl w55_) (Or.inr w49_) (by decide) (t := .long) (t' := (.object "com/example/tidegate/tidegate/engine/Side")) (by decide) (by decide)))).other W11 (Or.inr (slot_ne (Or.inl w55_) (Or.inr w51_) (by decide) (t := .long) (t' := (.object "com/example/tidegate/tidegate/engine/OrderType")) (by decide) (by decide)))).other W14 (Or.inr (slot_ne (Or.inl w55_) (Or.inr w53_) (by decide) (t := .long) (t' := .long) (by decide) (by decide))))
 refine g_putF X14 hx hby hZ hown (host := "") (Or.inl w54_) Via.refl e14 f16 f15 (Or.inl w55_) w38_ .long (by decide) rfl rfl N14 ga d5_34 (fun T17 h17 X17 e17 W17 F17 N17 => ?_)
 refine g_aloadN X17 hx hby d5_37 rfl rfl ?_
 refine g_lload X17 hx hby d5_38 rfl ?_
 have f18 := (f15.wr W17)
 have f19 := ((((((Fpeak.other W2 (Or.inr (slot_ne (Or.inr w57_) (Or.inr w45_) (by decide) (t := .long) (t' := (.object "java/lang/String")) (by decide) (by decide)))).other W5 (Or.inr (slot_ne (Or.inr w57_) (Or.inr w47_) (by decide) (t := .long) (t' := (.object "com/example/tidegate/tidegate/engine/Security")) (by decide) (by decide)))).other W8 (Or.inr (slot_ne (Or.inr w57_) (Or.inr w49_) (by decide) (t := .long) (t' := (.object "com/example/tidegate/tidegate/engine/Side")) (by decide) (by decide)))).other W11 (Or.inr (slot_ne (Or.inr w57_) (Or.inr w51_) (by decide) (t := .long) (t' := (.object "com/example/tidegate/tidegate/engine/OrderType")) (by decide) (by decide)))).other W14 (Or.inr (slot_ne (Or.inr w57_) (Or.inr w53_) (by decide) (t := .long) (t' := .long) (by decide) (by decide)))).other W17 (Or.inr (slot_ne (Or.inr w57_) (Or.inl w55_) (by decide) (t := .long) (t' := .long) (by decide) (by decide))))
 refine g_putF X17 hx hby hZ hown (host := "") (Or.inl w56_) Via.refl e17 f19 f18 (Or.inr ⟨w57_, rfl, hnm⟩) w38_ .long (by decide) rfl rfl N17 ga d5_40 (fun T20 h20 X20 e20 W20 F20 N20 => ?_)
 refine g_aloadN X20 hx hby d5_43 rfl rfl ?_
 refine g_lload X20 hx hby d5_44 rfl ?_
 refine g_at 46 rfl rfl rfl ?_
 have f21 := (f18.wr W20)
 have f22 := (((((((Fremaining.other W2 (Or.inr (slot_ne (Or.inl w59_) (Or.inr w45_) (by decide) (t := .long) (t' := (.object "java/lang/String")) (by decide) (by decide)))).other W5 (Or.inr (slot_ne (Or.inl w59_) (Or.inr w47_) (by decide) (t := .long) (t' := (.object "com/example/tidegate/tidegate/engine/Security")) (by decide) (by decide)))).other W8 (Or.inr (slot_ne (Or.inl w59_) (Or.inr w49_) (by decide) (t := .long) (t' := (.object "com/example/tidegate/tidegate/engine/Side")) (by decide) (by decide)))).other W11 (Or.inr (slot_ne (Or.inl w59_) (Or.inr w51_) (by decide) (t := .long) (t' := (.object "com/example/tidegate/tidegate/engine/OrderType")) (by decide) (by decide)))).other W14 (Or.inr (slot_ne (Or.inl w59_) (Or.inr w53_) (by decide) (t := .long) (t' := .long) (by decide) (by decide)))).other W17 (Or.inr (slot_ne (Or.inl w59_) (Or.inl w55_) (by decide) (t := .long) (t' := .long) (by decide) (by decide)))).other W20 (Or.inr (slot_ne (Or.inl w59_) (Or.inr w57_) (by decide) (t := .long) (t' := .long) (by decide) (by decide))))
 refine g_putF X20 hx hby hZ hown (host := "") (Or.inl w58_) Via.refl e20 f22 f21 (Or.inl w59_) w38_ .long (by decide) rfl rfl N20 ga d5_46 (fun T23 h23 X23 e23 W23 F23 N23 => ?_)
 have f24 := (f21.wr W23)
 have f25 := ((F17.other W20 (Or.inr (slot_ne (Or.inl w55_) (Or.inr w57_) (by decide) (t := .long) (t' := .long) (by decide) (by decide)))).other W23 (Or.inr (slot_ne (Or.inl w55_) (Or.inl w59_) (by decide) (t := .long) (t' := .long) (by decide) (by decide))))
 have f26 := (F20.other W23 (Or.inr (slot_ne (Or.inr w57_) (Or.inl w59_) (by decide) (t := .long) (t' := .long) (by decide) (by decide))))
 have f27 := ((((((((Fslice.other W2 (Or.inr (slot_ne (Or.inl w93_) (Or.inr w45_) (by decide) (t := .long) (t' := (.object "java/lang/String")) (by decide) (by decide)))).other W5 (Or.inr (slot_ne (Or.inl w93_) (Or.inr w47_) (by decide) (t := .long) (t' := (.object "com/example/tidegate/tidegate/engine/Security")) (by decide) (by decide)))).other W8 (Or.inr (slot_ne (Or.inl w93_) (Or.inr w49_) (by decide) (t := .long) (t' := (.object "com/example/tidegate/tidegate/engine/Side")) (by decide) (by decide)))).other W11 (Or.inr (slot_ne (Or.inl w93_) (Or.inr w51_) (by decide) (t := .long) (t' := (.object "com/example/tidegate/tidegate/engine/OrderType")) (by decide) (by decide)))).other W14 (Or.inr (slot_ne (Or.inl w93_) (Or.inr w53_) (by decide) (t := .long) (t' := .long) (by decide) (by decide)))).other W17 (Or.inr (slot_ne (Or.inl w93_) (Or.inl w55_) (by decide) (t := .long) (t' := .long) (by decide) (by decide)))).other W20 (Or.inr (slot_ne (Or.inl w93_) (Or.inr w57_) (by decide) (t := .long) (t' := .long) (by decide) (by decide)))).other W23 (Or.inr (slot_ne (Or.inl w93_) (Or.inl w59_) (by decide) (t := .long) (t' := .long) (by decide) (by decide))))
 have f28 := ((((((((Fprevious.other W2 (Or.inr (slot_ne (Or.inl w141_) (Or.inr w45_) (by decide) (t := (.object "com/example/tidegate/tidegate/engine/Order")) (t' := (.object "java/lang/String")) (by decide) (by decide)))).other W5 (Or.inr (slot_ne (Or.inl w141_) (Or.inr w47_) (by decide) (t := (.object "com/example/tidegate/tidegate/engine/Order")) (t' := (.object "com/example/tidegate/tidegate/engine/Security")) (by decide) (by decide)))).other W8 (Or.inr (slot_ne (Or.inl w141_) (Or.inr w49_) (by decide) (t := (.object "com/example/tidegate/tidegate/engine/Order")) (t' := (.object "com/example/tidegate/tidegate/engine/Side")) (by decide) (by decide)))).other W11 (Or.inr (slot_ne (Or.inl w141_) (Or.inr w51_) (by decide) (t := (.object "com/example/tidegate/tidegate/engine/Order")) (t' := (.object "com/example/tidegate/tidegate/engine/OrderType")) (by decide) (by decide)))).other W14 (Or.inr (slot_ne (Or.inl w141_) (Or.inr w53_) (by decide) (t := (.object "com/example/tidegate/tidegate/engine/Order")) (t' := .long) (by decide) (by decide)))).other W17 (Or.inr (slot_ne (Or.inl w141_) (Or.inl w55_) (by decide) (t := (.object "com/example/tidegate/tidegate/engine/Order")) (t' := .long) (by decide) (by decide)))).other W20 (Or.inr (slot_ne (Or.inl w141_) (Or.inr w57_) (by decide) (t := (.object "com/example/tidegate/tidegate/engine/Order")) (t' := .long) (by decide) (by decide)))).other W23 (Or.inr (slot_ne (Or.inl w141_) (Or.inl w59_) (by decide) (t := (.object "com/example/tidegate/tidegate/engine/Order")) (t' := .long) (by decide) (by decide))))
 have f29 := ((((((((Fnext.other W2 (Or.inr (slot_ne (Or.inl w143_) (Or.inr w45_) (by decide) (t := (.object "com/example/tidegate/tidegate/engine/Order")) (t' := (.object "java/lang/String")) (by decide) (by decide)))).other W5 (Or.inr (slot_ne (Or.inl w143_) (Or.inr w47_) (by decide) (t := (.object "com/example/tidegate/tidegate/engine/Order")) (t' := (.object "com/example/tidegate/tidegate/engine/Security")) (by decide) (by decide)))).other W8 (Or.inr (slot_ne (Or.inl w143_) (Or.inr w49_) (by decide) (t := (.object "com/example/tidegate/tidegate/engine/Order")) (t' := (.object "com/example/tidegate/tidegate/engine/Side")) (by decide) (by decide)))).other W11 (Or.inr (slot_ne (Or.inl w143_) (Or.inr w51_) (by decide) (t := (.object "com/example/tidegate/tidegate/engine/Order")) (t' := (.object "com/example/tidegate/tidegate/engine/OrderType")) (by decide) (by decide)))).other W14 (Or.inr (slot_ne (Or.inl w143_) (Or.inr w53_) (by decide) (t := (.object "com/example/tidegate/tidegate/engine/Order")) (t' := .long) (by decide) (by decide)))).other W17 (Or.inr (slot_ne (Or.inl w143_) (Or.inl w55_) (by decide) (t := (.object "com/example/tidegate/tidegate/engine/Order")) (t' := .long) (by decide) (by decide)))).other W20 (Or.inr (slot_ne (Or.inl w143_) (Or.inr w57_) (by decide) (t := (.object "com/example/tidegate/tidegate/engine/Order")) (t' := .long) (by decide) (by decide)))).other W23 (Or.inr (slot_ne (Or.inl w143_) (Or.inl w59_) (by decide) (t := (.object "com/example/tidegate/tidegate/engine/Order")) (t' := .long) (by decide) (by decide))))
 have f30 := ((((((((FrestingOn.other W2 (Or.inr (slot_ne (Or.inl w137_) (Or.inr w45_) (by decide) (t := (.object "com/example/tidegate/tidegate/engine/BookSide")) (t' := (.object "java/lang/String")) (by decide) (by decide)))).other W5 (Or.inr (slot_ne (Or.inl w137_) (Or.inr w47_) (by decide) (t := (.object "com/example/tidegate/tidegate/engine/BookSide")) (t' := (.object "com/example/tidegate/tidegate/engine/Security")) (by decide) (by decide)))).other W8 (Or.inr (slot_ne (Or.inl w137_) (Or.inr w49_) (by decide) (t := (.object "com/example/tidegate/tidegate/engine/BookSide")) (t' := (.object "com/example/tidegate/tidegate/engine/Side")) (by decide) (by decide)))).other W11 (Or.inr (slot_ne (Or.inl w137_) (Or.inr w51_) (by decide) (t := (.object "com/example/tidegate/tidegate/engine/BookSide")) (t' := (.object "com/example/tidegate/tidegate/engine/OrderType")) (by decide) (by decide)))).other W14 (Or.inr (slot_ne (Or.inl w137_) (Or.inr w53_) (by decide) (t := (.object "com/example/tidegate/tidegate/engine/BookSide")) (t' := .long) (by decide) (by decide)))).other W17 (Or.inr (slot_ne (Or.inl w137_) (Or.inl w55_) (by decide) (t := (.object "com/example/tidegate/tidegate/engine/BookSide")) (t' := .long) (by decide) (by decide)))).other W20 (Or.inr (slot_ne (Or.inl w137_) (Or.inr w57_) (by decide) (t := (.object "com/example/tidegate/tidegate/engine/BookSide")) (t' := .long) (by decide) (by decide)))).other W23 (Or.inr (slot_ne (Or.inl w137_) (Or.inl w59_) (by decide) (t := (.object "com/example/tidegate/tidegate/engine/BookSide")) (t' := .long) (by decide) (by decide))))
 refine g_ret X23 hx hby Bd.returns Bd.notSynchronized d5_49 e23 (by decide) (by decide) ?_
 show (Q_orini Z a sd q h0 n0) none _ _
 exact ⟨rfl, N23, (((((((((Keep.refl h0 [a]).wr W2 (Or.inl (List.mem_of_getElem? (i := 0) rfl))).wr W5 (Or.inl (List.mem_of_getElem? (i := 0) rfl))).wr W8 (Or.inl (List.mem_of_getElem? (i := 0) rfl))).wr W11 (Or.inl (List.mem_of_getElem? (i := 0) rfl))).wr W14 (Or.inl (List.mem_of_getElem? (i := 0) rfl))).wr W17 (Or.inl (List.mem_of_getElem? (i := 0) rfl))).wr W20 (Or.inl (List.mem_of_getElem? (i := 0) rfl))).wr W23 (Or.inl (List.mem_of_getElem? (i := 0) rfl))), f24, f25, f26, F23, f27, f28, f29, f30⟩

theorem d8_0 : decode prog_19_method_9_code 0 = .ok (.aload_n 0, 1) := by decide +kernel
theorem d8_1 : decode prog_19_method_9_code 1 = .ok (.getfield 37, 3) := by decide +kernel
theorem d8_4 : decode prog_19_method_9_code 4 = .ok (.lreturn, 1) := by decide +kernel
def Q_grem (Z : State) (a : Addr) (q : Int64) (h0 : Heap) (n0 : Nat) (v : Option Value) (h : Heap) (L : List Loc) : Prop := v = some (.long q) ∧ Fr n0 L ∧ h = h0
set_option maxRecDepth 65536 in
set_option maxHeartbeats 40000000 in
theorem rm_grem (l : Launch) (Z : State) (a0 : Array Value) (hw : ∀ d ∈ tables_1, d.before a0 Z = true) (ws : List Jvm.Cond) (a : Addr) (q : Int64) (h0 : Heap) (n0 : Nat) (Z0 : n0 ≤ h0.size) (F : Fld Z h0 a "com/example/tidegate/tidegate/engine/Order" "remaining" "J" (.long q)) :
  MetFree l (⟨"com/example/tidegate/tidegate/engine/Order", "getRemaining", "()J"⟩ : MethodName) (head1 (Jvm.Cond.code (⟨"com/example/tidegate/tidegate/engine/Order", "getRemaining", "()J"⟩ : MethodName) prog_19_method_9_code 1 (some .long) :: ws) ({ frames := 0, cells := 0, slots := 0, locals := 0 } : Room)) (fun aa_ U => aa_ = #[(.ref a)] ∧ Z.Warmed39 U.vm ∧ U.heap = h0) (fun _ _ _ _ _ => True) (fun _ U o_ U' => RetG U (Q_grem Z a q h0 n0) 0 0 U' o_) := by
 refine MetFree.of_bodySF (plainFor_of_name own_pn2) hisR ?_
 intro p e s m args below meth c_ s₁ Bd hml0 hP hK
 obtain ⟨rfl, hZ, hh⟩ := hP
 have hx := Bd.exec
 have hby := Bd.bytes
 have hml : c_.maxLocals = 1 := hml0
 have hown : s.vm.findClass "com/example/tidegate/tidegate/engine/Order" = some m.cls := findClass_of_methodNamed Bd.named
 have hnm := (name_of_methodNamed Bd.named Bd.method).1
 have X0 : Stand p l e ({ frames := 0, cells := 0, slots := 0, locals := 0 } : Room) s m #[(.ref a)] below meth c_ s₁ [] 0 0 := Stand.of_body Bd
 have e0 : s₁.heap = h0 := by rw [← hh, Bd.state]; rfl
 have N0 := Fr.nil n0
 have w58_ := hw _ (List.mem_of_getElem? (i := 58) rfl)
 show Go p e below (RetG s (Q_grem Z a q h0 n0) 0 0) (s₁.setTop (entryFrame m #[(.ref a)] 1))
 rw [show entryFrame m #[(.ref a)] 1 = mkF m 0 #[.val (.ref a)] [] from by first | (simp [entryFrame, mkF, argsToLocals, Value.category]; done) | rfl]
 refine g_aloadN X0 hx hby d8_0 rfl rfl ?_
 refine g_getF X0 hx hby hZ hown (host := "") (Or.inl w58_) Via.refl e0 F d8_1 (fun T1 X1 e1 => ?_)
 refine g_lret X1 hx hby Bd.returns Bd.notSynchronized d8_4 e1 (by decide) (by decide) ?_
 show (Q_grem Z a q h0 n0) (some (.long q)) _ _
 exact ⟨rfl, N0, rfl⟩

theorem d12_0 : decode prog_19_method_7_code 0 = .ok (.aload_n 0, 1) := by decide +kernel
theorem d12_1 : decode prog_19_method_7_code 1 = .ok (.getfield 31, 3) := by decide +kernel
theorem d12_4 : decode prog_19_method_7_code 4 = .ok (.lreturn, 1) := by decide +kernel
def Q_gpri (Z : State) (a : Addr) (q : Int64) (h0 : Heap) (n0 : Nat) (v : Option Value) (h : Heap) (L : List Loc) : Prop := v = some (.long q) ∧ Fr n0 L ∧ h = h0
set_option maxRecDepth 65536 in
set_option maxHeartbeats 40000000 in
theorem rm_gpri (l : Launch) (Z : State) (a0 : Array Value) (hw : ∀ d ∈ tables_1, d.before a0 Z = true) (ws : List Jvm.Cond) (a : Addr) (q : Int64) (h0 : Heap) (n0 : Nat) (Z0 : n0 ≤ h0.size) (F : Fld Z h0 a "com/example/tidegate/tidegate/engine/Order" "price" "J" (.long q)) :
  MetFree l (⟨"com/example/tidegate/tidegate/engine/Order", "getPrice", "()J"⟩ : MethodName) (head1 (Jvm.Cond.code (⟨"com/example/tidegate/tidegate/engine/Order", "getPrice", "()J"⟩ : MethodName) prog_19_method_7_code 1 (some .long) :: ws) ({ frames := 0, cells := 0, slots := 0, locals := 0 } : Room)) (fun aa_ U => aa_ = #[(.ref a)] ∧ Z.Warmed39 U.vm ∧ U.heap = h0) (fun _ _ _ _ _ => True) (fun _ U o_ U' => RetG U (Q_gpri Z a q h0 n0) 0 0 U' o_) := by
 refine MetFree.of_bodySF (plainFor_of_name own_pn2) hisR ?_
 intro p e s m args below meth c_ s₁ Bd hml0 hP hK
 obtain ⟨rfl, hZ, hh⟩ := hP
 have hx := Bd.exec
 have hby := Bd.bytes
 have hml : c_.maxLocals = 1 := hml0
 have hown : s.vm.findClass "com/example/tidegate/tidegate/engine/Order" = some m.cls := findClass_of_methodNamed Bd.named
 have hnm := (name_of_methodNamed Bd.named Bd.method).1
 have X0 : Stand p l e ({ frames := 0, cells := 0, slots := 0, locals := 0 } : Room) s m #[(.ref a)] below meth c_ s₁ [] 0 0 := Stand.of_body Bd
 have e0 : s₁.heap = h0 := by rw [← hh, Bd.state]; rfl
 have N0 := Fr.nil n0
 have w54_ := hw _ (List.mem_of_getElem? (i := 54) rfl)
 show Go p e below (RetG s (Q_gpri Z a q h0 n0) 0 0) (s₁.setTop (entryFrame m #[(.ref a)] 1))
 rw [show entryFrame m #[(.ref a)] 1 = mkF m 0 #[.val (.ref a)] [] from by first | (simp [entryFrame, mkF, argsToLocals, Value.category]; done) | rfl]
 refine g_aloadN X0 hx hby d12_0 rfl rfl ?_
 refine g_getF X0 hx hby hZ hown (host := "") (Or.inl w54_) Via.refl e0 F d12_1 (fun T1 X1 e1 => ?_)
 refine g_lret X1 hx hby Bd.returns Bd.notSynchronized d12_4 e1 (by decide) (by decide) ?_
 show (Q_gpri Z a q h0 n0) (some (.long q)) _ _
 exact ⟨rfl, N0, rfl⟩

theorem d11_0 : decode prog_19_method_8_code 0 = .ok (.aload_n 0, 1) := by decide +kernel
theorem d11_1 : decode prog_19_method_8_code 1 = .ok (.getfield 31, 3) := by decide +kernel
theorem d11_4 : decode prog_19_method_8_code 4 = .ok (.ldc2_w 40, 3) := by decide +kernel
theorem d11_7 : decode prog_19_method_8_code 7 = .ok (.lcmp, 1) := by decide +kernel
theorem d11_8 : decode prog_19_method_8_code 8 = .ok (.ifCond .eq 7, 3) := by decide +kernel
theorem d11_15 : decode prog_19_method_8_code 15 = .ok (.iconst 0, 1) := by decide +kernel
theorem d11_16 : decode prog_19_method_8_code 16 = .ok (.ireturn, 1) := by decide +kernel
theorem d11_11 : decode prog_19_method_8_code 11 = .ok (.iconst 1, 1) := by decide +kernel
theorem d11_12 : decode prog_19_method_8_code 12 = .ok (.goto 4, 3) := by decide +kernel
def Q_hasp (Z : State) (a : Addr) (q : Int64) (h0 : Heap) (n0 : Nat) (v : Option Value) (h : Heap) (L : List Loc) : Prop := v = some (.int (if q = (-9223372036854775808 : Int64) then 0 else 1 : Int32)) ∧ Fr n0 L ∧ h = h0
set_option maxRecDepth 65536 in
set_option maxHeartbeats 40000000 in
theorem rm_hasp (l : Launch) (Z : State) (a0 : Array Value) (hw : ∀ d ∈ tables_1, d.before a0 Z = true) (ws : List Jvm.Cond) (a : Addr) (q : Int64) (h0 : Heap) (n0 : Nat) (Z0 : n0 ≤ h0.size) (F : Fld Z h0 a "com/example/tidegate/tidegate/engine/Order" "price" "J" (.long q)) :
  MetFree l (⟨"com/example/tidegate/tidegate/engine/Order", "hasPrice", "()Z"⟩ : MethodName) (head1 (Jvm.Cond.code (⟨"com/example/tidegate/tidegate/engine/Order", "hasPrice", "()Z"⟩ : MethodName) prog_19_method_8_code 1 (some .boolean) :: ws) ({ frames := 0, cells := 0, slots := 0, locals := 0 } : Room)) (fun aa_ U => aa_ = #[(.ref a)] ∧ Z.Warmed39 U.vm ∧ U.heap = h0) (fun _ _ _ _ _ => True) (fun _ U o_ U' => RetG U (Q_hasp Z a q h0 n0) 0 0 U' o_) := by
 refine MetFree.of_bodySF (plainFor_of_name own_pn2) hisR ?_
 intro p e s m args below meth c_ s₁ Bd hml0 hP hK
 obtain ⟨rfl, hZ, hh⟩ := hP
 have hx := Bd.exec
 have hby := Bd.bytes
 have hml : c_.maxLocals = 1 := hml0
 have hown : s.vm.findClass "com/example/tidegate/tidegate/engine/Order" = some m.cls := findClass_of_methodNamed Bd.named
 have hnm := (name_of_methodNamed Bd.named Bd.method).1
 have X0 : Stand p l e ({ frames := 0, cells := 0, slots := 0, locals := 0 } : Room) s m #[(.ref a)] below meth c_ s₁ [] 0 0 := Stand.of_body Bd
 have e0 : s₁.heap = h0 := by rw [← hh, Bd.state]; rfl
 have N0 := Fr.nil n0
 have w54_ := hw _ (List.mem_of_getElem? (i := 54) rfl)
 have w99_ := hw _ (List.mem_of_getElem? (i := 99) rfl)
 show Go p e below (RetG s (Q_hasp Z a q h0 n0) 0 0) (s₁.setTop (entryFrame m #[(.ref a)] 1))
 rw [show entryFrame m #[(.ref a)] 1 = mkF m 0 #[.val (.ref a)] [] from by first | (simp [entryFrame, mkF, argsToLocals, Value.category]; done) | rfl]
 refine g_aloadN X0 hx hby d11_0 rfl rfl ?_
 refine g_getF X0 hx hby hZ hown (host := "") (Or.inl w54_) Via.refl e0 F d11_1 (fun T1 X1 e1 => ?_)
 refine g_ldc2J X1 hx hby hZ hown w99_ d11_4 ?_
 refine g_lcmp X1 hx hby d11_7 ?_
 by_cases hc8_2 : q = (-9223372036854775808 : Int64)
 ·skip
  refine g_ifY X1 hx hby 15 d11_8 (teq ((lw_eq q (-9223372036854775808 : Int64)).mpr hc8_2)).1 (by decide) (by decide) ?_
  refine g_iconst X1 hx hby (0 : Int32) d11_15 rfl ?_
  refine g_nret X1 hx hby (t := .boolean) (by simp) Bd.returns Bd.notSynchronized d11_16 e1 (by decide) (by decide) ?_
  show (Q_hasp Z a q h0 n0) (some (.int (0 : Int32))) _ _
  exact ⟨by rw [if_pos hc8_2], N0, rfl⟩
 ·skip
  refine g_ifN X1 hx hby d11_8 (feq (mt (lw_eq q (-9223372036854775808 : Int64)).mp hc8_2)).1 ?_
  refine g_iconst X1 hx hby (1 : Int32) d11_11 rfl ?_
  refine g_goto X1 hx hby 16 d11_12 (by decide) (by decide) ?_
  refine g_nret X1 hx hby (t := .boolean) (by simp) Bd.returns Bd.notSynchronized d11_16 e1 (by decide) (by decide) ?_
  show (Q_hasp Z a q h0 n0) (some (.int (1 : Int32))) _ _
  exact ⟨by rw [if_neg hc8_2], N0, rfl⟩

theorem d10_0 : decode jdk_29_method_70_code 0 = .ok (.lload_n 0, 1) := by decide +kernel
theorem d10_1 : decode jdk_29_method_70_code 1 = .ok (.lload_n 2, 1) := by decide +kernel
theorem d10_2 : decode jdk_29_method_70_code 2 = .ok (.lcmp, 1) := by decide +kernel
theorem d10_3 : decode jdk_29_method_70_code 3 = .ok (.ifCond .gt 7, 3) := by decide +kernel
theorem d10_6 : decode jdk_29_method_70_code 6 = .ok (.lload_n 0, 1) := by decide +kernel
theorem d10_7 : decode jdk_29_method_70_code 7 = .ok (.goto 4, 3) := by decide +kernel
theorem d10_11 : decode jdk_29_method_70_code 11 = .ok (.lreturn, 1) := by decide +kernel
def Q_minL (Z : State)  (h0 : Heap) (n0 : Nat) (v : Option Value) (h : Heap) (L : List Loc) : Prop := v = some (.long (0 : Int64)) ∧ Fr n0 L ∧ h = h0
set_option maxRecDepth 65536 in
set_option maxHeartbeats 40000000 in
theorem rm_minL (l : Launch) (Z : State) (a0 : Array Value) (hw : ∀ d ∈ tables_1, d.before a0 Z = true) (ws : List Jvm.Cond)  (h0 : Heap) (n0 : Nat) (Z0 : n0 ≤ h0.size) :
  MetFree l (⟨"java/lang/Math", "min", "(JJ)J"⟩ : MethodName) (head1 (Jvm.Cond.code (⟨"java/lang/Math", "min", "(JJ)J"⟩ : MethodName) jdk_29_method_70_code 4 (some .long) :: ws) ({ frames := 0, cells := 0, slots := 0, locals := 0 } : Room)) (fun aa_ U => aa_ = #[(.long (0 : Int64)), (.long (1 : Int64))] ∧ Z.Warmed39 U.vm ∧ U.heap = h0) (fun _ _ _ _ _ => True) (fun _ U o_ U' => RetG U (Q_minL Z h0 n0) 0 0 U' o_) := by
 refine MetFree.of_bodySF (Jvm.Free.JP.mathPlain rfl (by decide +kernel)) hisR ?_
 intro p e s m args below meth c_ s₁ Bd hml0 hP hK
 obtain ⟨rfl, hZ, hh⟩ := hP
 have hx := Bd.exec
 have hby := Bd.bytes
 have hml : c_.maxLocals = 4 := hml0
 have hown : s.vm.findClass "java/lang/Math" = some m.cls := findClass_of_methodNamed Bd.named
 have hnm := (name_of_methodNamed Bd.named Bd.method).1
 have X0 : Stand p l e ({ frames := 0, cells := 0, slots := 0, locals := 0 } : Room) s m #[(.long (0 : Int64)), (.long (1 : Int64))] below meth c_ s₁ [] 0 0 := Stand.of_body Bd
 have e0 : s₁.heap = h0 := by rw [← hh, Bd.state]; rfl
 have N0 := Fr.nil n0
 show Go p e below (RetG s (Q_minL Z h0 n0) 0 0) (s₁.setTop (entryFrame m #[(.long (0 : Int64)), (.long (1 : Int64))] 4))
 rw [show entryFrame m #[(.long (0 : Int64)), (.long (1 : Int64))] 4 = mkF m 0 #[.val (.long (0 : Int64)), .second, .val (.long (1 : Int64)), .second] [] from by first | (simp [entryFrame, mkF, argsToLocals, Value.category]; done) | rfl]
 refine g_lloadN X0 hx hby d10_0 rfl ?_
 refine g_lloadN X0 hx hby d10_1 rfl ?_
 refine g_lcmp X0 hx hby d10_2 ?_
 refine g_ifN X0 hx hby d10_3 (flt (mt (lw_gt (0 : Int64) (1 : Int64)).mp (by decide : ¬ ((1 : Int64) < (0 : Int64))))).2.2.1 ?_
 refine g_lloadN X0 hx hby d10_6 rfl ?_
 refine g_goto X0 hx hby 11 d10_7 (by decide) (by decide) ?_
 refine g_lret X0 hx hby Bd.returns Bd.notSynchronized d10_11 e0 (by decide) (by decide) ?_
 show (Q_minL Z h0 n0) (some (.long (0 : Int64))) _ _
 exact ⟨rfl, N0, rfl⟩

theorem d1_0 : decode jdk_29_method_66_code 0 = .ok (.lload_n 0, 1) := by decide +kernel
theorem d1_1 : decode jdk_29_method_66_code 1 = .ok (.lload_n 2, 1) := by decide +kernel
theorem d1_2 : decode jdk_29_method_66_code 2 = .ok (.lcmp, 1) := by decide +kernel
theorem d1_3 : decode jdk_29_method_66_code 3 = .ok (.ifCond .lt 7, 3) := by decide +kernel
theorem d1_10 : decode jdk_29_method_66_code 10 = .ok (.lload_n 2, 1) := by decide +kernel
theorem d1_11 : decode jdk_29_method_66_code 11 = .ok (.lreturn, 1) := by decide +kernel
theorem d1_6 : decode jdk_29_method_66_code 6 = .ok (.lload_n 0, 1) := by decide +kernel
theorem d1_7 : decode jdk_29_method_66_code 7 = .ok (.goto 4, 3) := by decide +kernel
def Q_maxL (Z : State) (x : Int64) (y : Int64) (h0 : Heap) (n0 : Nat) (v : Option Value) (h : Heap) (L : List Loc) : Prop := v = some (.long (own_maxL x y)) ∧ Fr n0 L ∧ h = h0
set_option maxRecDepth 65536 in
set_option maxHeartbeats 40000000 in
theorem rm_maxL (l : Launch) (Z : State) (a0 : Array Value) (hw : ∀ d ∈ tables_1, d.before a0 Z = true) (ws : List Jvm.Cond) (x : Int64) (y : Int64) (h0 : Heap) (n0 : Nat) (Z0 : n0 ≤ h0.size) :
  MetFree l (⟨"java/lang/Math", "max", "(JJ)J"⟩ : MethodName) (head1 (Jvm.Cond.code (⟨"java/lang/Math", "max", "(JJ)J"⟩ : MethodName) jdk_29_method_66_code 4 (some .long) :: ws) ({ frames := 0, cells := 0, slots := 0, locals := 0 } : Room)) (fun aa_ U => aa_ = #[(.long x), (.long y)] ∧ Z.Warmed39 U.vm ∧ U.heap = h0) (fun _ _ _ _ _ => True) (fun _ U o_ U' => RetG U (Q_maxL Z x y h0 n0) 0 0 U' o_) := by
 refine MetFree.of_bodySF (Jvm.Free.JP.mathPlain rfl (by decide +kernel)) hisR ?_
 intro p e s m args below meth c_ s₁ Bd hml0 hP hK
 obtain ⟨rfl, hZ, hh⟩ := hP
 have hx := Bd.exec
 have hby := Bd.bytes
 have hml : c_.maxLocals = 4 := hml0
 have hown : s.vm.findClass "java/lang/Math" = some m.cls := findClass_of_methodNamed Bd.named
 have hnm := (name_of_methodNamed Bd.named Bd.method).1
 have X0 : Stand p l e ({ frames := 0, cells := 0, slots := 0, locals := 0 } : Room) s m #[(.long x), (.long y)] below meth c_ s₁ [] 0 0 := Stand.of_body Bd
 have e0 : s₁.heap = h0 := by rw [← hh, Bd.state]; rfl
 have N0 := Fr.nil n0
 show Go p e below (RetG s (Q_maxL Z x y h0 n0) 0 0) (s₁.setTop (entryFrame m #[(.long x), (.long y)] 4))
 rw [show entryFrame m #[(.long x), (.long y)] 4 = mkF m 0 #[.val (.long x), .second, .val (.long y), .second] [] from by first | (simp [entryFrame, mkF, argsToLocals, Value.category]; done) | rfl]
 refine g_lloadN X0 hx hby d1_0 rfl ?_
 refine g_lloadN X0 hx hby d1_1 rfl ?_
 refine g_lcmp X0 hx hby d1_2 ?_
 by_cases hc3_1 : x < y
 ·skip
  refine g_ifY X0 hx hby 10 d1_3 (tlt ((lw_lt x y).mpr hc3_1)).1 (by decide) (by decide) ?_
  refine g_lloadN X0 hx hby d1_10 rfl ?_
  refine g_lret X0 hx hby Bd.returns Bd.notSynchronized d1_11 e0 (by decide) (by decide) ?_
  show (Q_maxL Z x y h0 n0) (some (.long y)) _ _
  exact ⟨by simp [own_maxL, hc3_1], N0, rfl⟩
 ·skip
  refine g_ifN X0 hx hby d1_3 (flt (mt (lw_lt x y).mp hc3_1)).1 ?_
  refine g_lloadN X0 hx hby d1_6 rfl ?_
  refine g_goto X0 hx hby 11 d1_7 (by decide) (by decide) ?_
  refine g_lret X0 hx hby Bd.returns Bd.notSynchronized d1_11 e0 (by decide) (by decide) ?_
  show (Q_maxL Z x y h0 n0) (some (.long x)) _ _
  exact ⟨by simp [own_maxL, hc3_1], N0, rfl⟩

theorem d9_0 : decode prog_19_method_13_code 0 = .ok (.aload_n 0, 1) := by decide +kernel
theorem d9_1 : decode prog_19_method_13_code 1 = .ok (.aload_n 0, 1) := by decide +kernel
theorem d9_2 : decode prog_19_method_13_code 2 = .ok (.getfield 34, 3) := by decide +kernel
theorem d9_5 : decode prog_19_method_13_code 5 = .ok (.aload_n 0, 1) := by decide +kernel
theorem d9_6 : decode prog_19_method_13_code 6 = .ok (.getfield 37, 3) := by decide +kernel
theorem d9_9 : decode prog_19_method_13_code 9 = .ok (.invokestatic 51, 3) := by decide +kernel
theorem own_pd1 : parseMethodDescriptor "(JJ)J" = some ⟨[.long, .long], some .long⟩ := by decide +kernel
theorem d9_12 : decode prog_19_method_13_code 12 = .ok (.putfield 42, 3) := by decide +kernel
theorem d9_15 : decode prog_19_method_13_code 15 = .ok (.return_, 1) := by decide +kernel
def Q_ssl (Z : State) (a : Addr) (q : Int64) (pv : Value) (nx : Value) (ro : Value) (h0 : Heap) (n0 : Nat) (v : Option Value) (h : Heap) (L : List Loc) : Prop := v = none ∧ Fr n0 L ∧ Keep h0 h [a] ∧ own_OO Z h a q pv nx ro
set_option maxRecDepth 65536 in
set_option maxHeartbeats 40000000 in
theorem rm_ssl (l : Launch) (Z : State) (a0 : Array Value) (hw : ∀ d ∈ tables_1, d.before a0 Z = true) (ws : List Jvm.Cond) (a : Addr) (q : Int64) (pv : Value) (nx : Value) (ro : Value) (h0 : Heap) (n0 : Nat) (Z0 : n0 ≤ h0.size) (ORp : own_OO Z h0 a q pv nx ro) (ga : n0 ≤ a) :
  MetFree l (⟨"com/example/tidegate/tidegate/engine/Order", "startSlice", "()V"⟩ : MethodName) (head1 (Jvm.Cond.code (⟨"com/example/tidegate/tidegate/engine/Order", "startSlice", "()V"⟩ : MethodName) prog_19_method_13_code 1 none :: ws) ({ frames := 1, cells := 0, slots := 0, locals := 16 } : Room)) (fun aa_ U => aa_ = #[(.ref a)] ∧ Z.Warmed39 U.vm ∧ U.heap = h0) (fun _ _ _ _ _ => True) (fun _ U o_ U' => RetG U (Q_ssl Z a q pv nx ro h0 n0) 0 0 U' o_) := by
 refine MetFree.of_bodySF (plainFor_of_name own_pn2) hisR ?_
 intro p e s m args below meth c_ s₁ Bd hml0 hP hK
 obtain ⟨rfl, hZ, hh⟩ := hP
 have hx := Bd.exec
 have hby := Bd.bytes
 have hml : c_.maxLocals = 1 := hml0
 have hown : s.vm.findClass "com/example/tidegate/tidegate/engine/Order" = some m.cls := findClass_of_methodNamed Bd.named
 have hnm := (name_of_methodNamed Bd.named Bd.method).1
 have X0 : Stand p l e ({ frames := 1, cells := 0, slots := 0, locals := 16 } : Room) s m #[(.ref a)] below meth c_ s₁ [] 0 0 := Stand.of_body Bd
 have e0 : s₁.heap = h0 := by rw [← hh, Bd.state]; rfl
 have N0 := Fr.nil n0
 have w6_ := hw _ (List.mem_of_getElem? (i := 6) rfl)
 have w38_ := hw _ (List.mem_of_getElem? (i := 38) rfl)
 have w55_ := hw _ (List.mem_of_getElem? (i := 55) rfl)
 have w56_ := hw _ (List.mem_of_getElem? (i := 56) rfl)
 have w57_ := hw _ (List.mem_of_getElem? (i := 57) rfl)
 have w58_ := hw _ (List.mem_of_getElem? (i := 58) rfl)
 have w59_ := hw _ (List.mem_of_getElem? (i := 59) rfl)
 have w89_ := hw _ (List.mem_of_getElem? (i := 89) rfl)
 have w90_ := hw _ (List.mem_of_getElem? (i := 90) rfl)
 have w91_ := hw _ (List.mem_of_getElem? (i := 91) rfl)
 have w92_ := hw _ (List.mem_of_getElem? (i := 92) rfl)
 have w93_ := hw _ (List.mem_of_getElem? (i := 93) rfl)
 have w137_ := hw _ (List.mem_of_getElem? (i := 137) rfl)
 have w141_ := hw _ (List.mem_of_getElem? (i := 141) rfl)
 have w143_ := hw _ (List.mem_of_getElem? (i := 143) rfl)
 obtain ⟨oE, o1, o2, o3, o4, o5, o6, o7⟩ := ORp
 show Go p e below (RetG s (Q_ssl Z a q pv nx ro h0 n0) 0 0) (s₁.setTop (entryFrame m #[(.ref a)] 1))
 rw [show entryFrame m #[(.ref a)] 1 = mkF m 0 #[.val (.ref a)] [] from by first | (simp [entryFrame, mkF, argsToLocals, Value.category]; done) | rfl]
 refine g_aloadN X0 hx hby d9_0 rfl rfl ?_
 refine g_aloadN X0 hx hby d9_1 rfl rfl ?_
 refine g_getF X0 hx hby hZ hown (host := "") (Or.inl w56_) Via.refl e0 o2 d9_2 (fun T1 X1 e1 => ?_)
 refine g_aloadN X1 hx hby d9_5 rfl rfl ?_
 refine g_getF X1 hx hby hZ hown (host := "") (Or.inl w58_) Via.refl e1 o3 d9_6 (fun T2 X2 e2 => ?_)
 refine g_static X2 hx hby hZ hown (rm_minL l Z a0 hw []  h0 n0 Z0 ) w89_ w90_ w6_ w91_ (by decide) e2 (by rw [hml]; rfl) [(.long (0 : Int64)), (.long (1 : Int64))] (lenOf own_pd1 rfl) rfl rfl (Nat.le_of_ble_eq_true rfl) (Nat.le_of_ble_eq_true rfl) (Nat.le_of_ble_eq_true rfl) (Nat.le_of_ble_eq_true rfl) d9_9 (fun v3 T3 L3 X3 hQ3 => ?_)
 obtain ⟨rfl, N3q, eh3⟩ := hQ3
 have N3 := Fr.app N0 N3q
 refine g_putF X3 hx hby hZ hown (host := "") (Or.inl w92_) Via.refl eh3 o4 oE (Or.inl w93_) w38_ .long (by decide) rfl rfl N3 ga d9_12 (fun T4 h4 X4 e4 W4 F4 N4 => ?_)
 have f5 := (oE.wr W4)
 have f6 := (o1.other W4 (Or.inr (slot_ne (Or.inl w55_) (Or.inl w93_) (by decide) (t := .long) (t' := .long) (by decide) (by decide))))
 have f7 := (o2.other W4 (Or.inr (slot_ne (Or.inr w57_) (Or.inl w93_) (by decide) (t := .long) (t' := .long) (by decide) (by decide))))
 have f8 := (o3.other W4 (Or.inr (slot_ne (Or.inl w59_) (Or.inl w93_) (by decide) (t := .long) (t' := .long) (by decide) (by decide))))
 have f9 := (o5.other W4 (Or.inr (slot_ne (Or.inl w141_) (Or.inl w93_) (by decide) (t := (.object "com/example/tidegate/tidegate/engine/Order")) (t' := .long) (by decide) (by decide))))
 have f10 := (o6.other W4 (Or.inr (slot_ne (Or.inl w143_) (Or.inl w93_) (by decide) (t := (.object "com/example/tidegate/tidegate/engine/Order")) (t' := .long) (by decide) (by decide))))
 have f11 := (o7.other W4 (Or.inr (slot_ne (Or.inl w137_) (Or.inl w93_) (by decide) (t := (.object "com/example/tidegate/tidegate/engine/BookSide")) (t' := .long) (by decide) (by decide))))
 refine g_ret X4 hx hby Bd.returns Bd.notSynchronized d9_15 e4 (by decide) (by decide) ?_
 show (Q_ssl Z a q pv nx ro h0 n0) none _ _
 exact ⟨rfl, N4, ((Keep.refl h0 [a]).wr W4 (Or.inl (List.mem_of_getElem? (i := 0) rfl))), f5, f6, f7, f8, F4, f9, f10, f11⟩

theorem d21_0 : decode method_3_code 0 = .ok (.lload_n 1, 1) := by decide +kernel
theorem d21_1 : decode method_3_code 1 = .ok (.ldc2_w 18, 3) := by decide +kernel
theorem d21_4 : decode method_3_code 4 = .ok (.lcmp, 1) := by decide +kernel
theorem d21_5 : decode method_3_code 5 = .ok (.ifCond .ne 7, 3) := by decide +kernel
theorem d21_8 : decode method_3_code 8 = .ok (.iconst 1, 1) := by decide +kernel
theorem d21_9 : decode method_3_code 9 = .ok (.goto 4, 3) := by decide +kernel
theorem d21_13 : decode method_3_code 13 = .ok (.istore 5, 2) := by decide +kernel
theorem d21_15 : decode method_3_code 15 = .ok (.lload_n 3, 1) := by decide +kernel
theorem d21_16 : decode method_3_code 16 = .ok (.ldc2_w 18, 3) := by decide +kernel
theorem d21_19 : decode method_3_code 19 = .ok (.lcmp, 1) := by decide +kernel
theorem d21_20 : decode method_3_code 20 = .ok (.ifCond .ne 7, 3) := by decide +kernel
theorem d21_23 : decode method_3_code 23 = .ok (.iconst 1, 1) := by decide +kernel
theorem d21_24 : decode method_3_code 24 = .ok (.goto 4, 3) := by decide +kernel
theorem d21_28 : decode method_3_code 28 = .ok (.istore 6, 2) := by decide +kernel
theorem d21_30 : decode method_3_code 30 = .ok (.iload 5, 2) := by decide +kernel
theorem d21_32 : decode method_3_code 32 = .ok (.ifCond .eq 14, 3) := by decide +kernel
theorem d21_35 : decode method_3_code 35 = .ok (.iload 6, 2) := by decide +kernel
theorem d21_37 : decode method_3_code 37 = .ok (.ifCond .ne 7, 3) := by decide +kernel
theorem d21_44 : decode method_3_code 44 = .ok (.iconst 0, 1) := by decide +kernel
theorem d21_45 : decode method_3_code 45 = .ok (.ireturn, 1) := by decide +kernel
theorem d21_27 : decode method_3_code 27 = .ok (.iconst 0, 1) := by decide +kernel
theorem d21_40 : decode method_3_code 40 = .ok (.iconst 1, 1) := by decide +kernel
theorem d21_41 : decode method_3_code 41 = .ok (.goto 4, 3) := by decide +kernel
theorem d21_12 : decode method_3_code 12 = .ok (.iconst 0, 1) := by decide +kernel
theorem d21_46 : decode method_3_code 46 = .ok (.iload 6, 2) := by decide +kernel
theorem d21_48 : decode method_3_code 48 = .ok (.ifCond .eq 5, 3) := by decide +kernel
theorem d21_51 : decode method_3_code 51 = .ok (.iconst 0, 1) := by decide +kernel
theorem d21_52 : decode method_3_code 52 = .ok (.ireturn, 1) := by decide +kernel
theorem d21_53 : decode method_3_code 53 = .ok (.iload_n 0, 1) := by decide +kernel
theorem d21_54 : decode method_3_code 54 = .ok (.ifCond .eq 17, 3) := by decide +kernel
theorem d21_71 : decode method_3_code 71 = .ok (.lload_n 1, 1) := by decide +kernel
theorem d21_72 : decode method_3_code 72 = .ok (.lload_n 3, 1) := by decide +kernel
theorem d21_73 : decode method_3_code 73 = .ok (.lcmp, 1) := by decide +kernel
theorem d21_74 : decode method_3_code 74 = .ok (.ifCond .ge 7, 3) := by decide +kernel
theorem d21_77 : decode method_3_code 77 = .ok (.iconst 1, 1) := by decide +kernel
theorem d21_78 : decode method_3_code 78 = .ok (.goto 4, 3) := by decide +kernel
theorem d21_82 : decode method_3_code 82 = .ok (.ireturn, 1) := by decide +kernel
theorem d21_81 : decode method_3_code 81 = .ok (.iconst 0, 1) := by decide +kernel
theorem d21_57 : decode method_3_code 57 = .ok (.lload_n 1, 1) := by decide +kernel
theorem d21_58 : decode method_3_code 58 = .ok (.lload_n 3, 1) := by decide +kernel
theorem d21_59 : decode method_3_code 59 = .ok (.lcmp, 1) := by decide +kernel
theorem d21_60 : decode method_3_code 60 = .ok (.ifCond .le 7, 3) := by decide +kernel
theorem d21_63 : decode method_3_code 63 = .ok (.iconst 1, 1) := by decide +kernel
theorem d21_64 : decode method_3_code 64 = .ok (.goto 18, 3) := by decide +kernel
theorem d21_67 : decode method_3_code 67 = .ok (.iconst 0, 1) := by decide +kernel
theorem d21_68 : decode method_3_code 68 = .ok (.goto 14, 3) := by decide +kernel
theorem own_pn3 : plainName "com/example/tidegate/tidegate/engine/BookSideFirstPinLaw" = true := by first | (simp [plainName, overriddenIn]; done) | decide +kernel
def Q_beats (Z : State) (bu : Int32) (x : Int64) (y : Int64) (h0 : Heap) (n0 : Nat) (v : Option Value) (h : Heap) (L : List Loc) : Prop := v = some (.int (own_beats bu x y)) ∧ Fr n0 L ∧ h = h0
set_option maxRecDepth 65536 in
set_option maxHeartbeats 40000000 in
theorem rm_beats (l : Launch) (Z : State) (a0 : Array Value) (hw : ∀ d ∈ tables_1, d.before a0 Z = true) (ws : List Jvm.Cond) (bu : Int32) (x : Int64) (y : Int64) (h0 : Heap) (n0 : Nat) (Z0 : n0 ≤ h0.size) :
  MetFree l (⟨"com/example/tidegate/tidegate/engine/BookSideFirstPinLaw", "beats", "(ZJJ)Z"⟩ : MethodName) (head1 (Jvm.Cond.code (⟨"com/example/tidegate/tidegate/engine/BookSideFirstPinLaw", "beats", "(ZJJ)Z"⟩ : MethodName) method_3_code 7 (some .boolean) :: ws) ({ frames := 0, cells := 0, slots := 0, locals := 0 } : Room)) (fun aa_ U => aa_ = #[(.int bu), (.long x), (.long y)] ∧ Z.Warmed39 U.vm ∧ U.heap = h0) (fun _ _ _ _ _ => True) (fun _ U o_ U' => RetG U (Q_beats Z bu x y h0 n0) 0 0 U' o_) := by
 refine MetFree.of_bodySF (plainFor_of_name own_pn3) hisR ?_
 intro p e s m args below meth c_ s₁ Bd hml0 hP hK
 obtain ⟨rfl, hZ, hh⟩ := hP
 have hx := Bd.exec
 have hby := Bd.bytes
 have hml : c_.maxLocals = 7 := hml0
 have hown : s.vm.findClass "com/example/tidegate/tidegate/engine/BookSideFirstPinLaw" = some m.cls := findClass_of_methodNamed Bd.named
 have hnm := (name_of_methodNamed Bd.named Bd.method).1
 have X0 : Stand p l e ({ frames := 0, cells := 0, slots := 0, locals := 0 } : Room) s m #[(.int bu), (.long x), (.long y)] below meth c_ s₁ [] 0 0 := Stand.of_body Bd
 have e0 : s₁.heap = h0 := by rw [← hh, Bd.state]; rfl
 have N0 := Fr.nil n0
 have w71_ := hw _ (List.mem_of_getElem? (i := 71) rfl)
 show Go p e below (RetG s (Q_beats Z bu x y h0 n0) 0 0) (s₁.setTop (entryFrame m #[(.int bu), (.long x), (.long y)] 7))
 rw [show entryFrame m #[(.int bu), (.long x), (.long y)] 7 = mkF m 0 #[.val (.int bu), .val (.long x), .second, .val (.long y), .second, .unset, .unset] [] from by first | (simp [entryFrame, mkF, argsToLocals, Value.category]; done) | rfl]
 refine g_lloadN X0 hx hby d21_0 rfl ?_
 refine g_ldc2J X0 hx hby hZ hown w71_ d21_1 ?_
 refine g_lcmp X0 hx hby d21_4 ?_
 by_cases hc5_1 : x = (-9223372036854775808 : Int64)
 ·skip
  refine g_ifN X0 hx hby d21_5 (teq ((lw_eq x (-9223372036854775808 : Int64)).mpr hc5_1)).2 ?_
  refine g_iconst X0 hx hby (1 : Int32) d21_8 rfl ?_
  refine g_goto X0 hx hby 13 d21_9 (by decide) (by decide) ?_
  refine g_istore X0 hx hby d21_13 (l' := #[.val (.int bu), .val (.long x), .second, .val (.long y), .second, .val (.int (1 : Int32)), .unset]) rfl ?_
  refine g_lloadN X0 hx hby d21_15 rfl ?_
  refine g_ldc2J X0 hx hby hZ hown w71_ d21_16 ?_
  refine g_lcmp X0 hx hby d21_19 ?_
  by_cases hc20_2 : y = (-9223372036854775808 : Int64)
  ·skip
   refine g_ifN X0 hx hby d21_20 (teq ((lw_eq y (-9223372036854775808 : Int64)).mpr hc20_2)).2 ?_
   refine g_iconst X0 hx hby (1 : Int32) d21_23 rfl ?_
   refine g_goto X0 hx hby 28 d21_24 (by decide) (by decide) ?_
   refine g_istore X0 hx hby d21_28 (l' := #[.val (.int bu), .val (.long x), .second, .val (.long y), .second, .val (.int (1 : Int32)), .val (.int (1 : Int32))]) rfl ?_
   refine g_iload X0 hx hby d21_30 rfl ?_
   refine g_ifN X0 hx hby d21_32 (feq (by decide : ¬ ((1 : Int32) = (0 : Int32)))).1 ?_
   refine g_iload X0 hx hby d21_35 rfl ?_
   refine g_ifY X0 hx hby 44 d21_37 (feq (by decide : ¬ ((1 : Int32) = (0 : Int32)))).2 (by decide) (by decide) ?_
   refine g_iconst X0 hx hby (0 : Int32) d21_44 rfl ?_
   refine g_nret X0 hx hby (t := .boolean) (by simp) Bd.returns Bd.notSynchronized d21_45 e0 (by decide) (by decide) ?_
   show (Q_beats Z bu x y h0 n0) (some (.int (0 : Int32))) _ _
   exact ⟨by simp [own_beats, hc5_1, hc20_2], N0, rfl⟩
  ·skip
   refine g_ifY X0 hx hby 27 d21_20 (feq (mt (lw_eq y (-9223372036854775808 : Int64)).mp hc20_2)).2 (by decide) (by decide) ?_
   refine g_iconst X0 hx hby (0 : Int32) d21_27 rfl ?_
   refine g_istore X0 hx hby d21_28 (l' := #[.val (.int bu), .val (.long x), .second, .val (.long y), .second, .val (.int (1 : Int32)), .val (.int (0 : Int32))]) rfl ?_
   refine g_iload X0 hx hby d21_30 rfl ?_
   refine g_ifN X0 hx hby d21_32 (feq (by decide : ¬ ((1 : Int32) = (0 : Int32)))).1 ?_
   refine g_iload X0 hx hby d21_35 rfl ?_
   refine g_ifN X0 hx hby d21_37 (teq (by decide : (0 : Int32) = (0 : Int32))).2 ?_
   refine g_iconst X0 hx hby (1 : Int32) d21_40 rfl ?_
   refine g_goto X0 hx hby 45 d21_41 (by decide) (by decide) ?_
   refine g_nret X0 hx hby (t := .boolean) (by simp) Bd.returns Bd.notSynchronized d21_45 e0 (by decide) (by decide) ?_
   show (Q_beats Z bu x y h0 n0) (some (.int (1 : Int32))) _ _
   exact ⟨by simp [own_beats, hc5_1, hc20_2], N0, rfl⟩
 ·skip
  refine g_ifY X0 hx hby 12 d21_5 (feq (mt (lw_eq x (-9223372036854775808 : Int64)).mp hc5_1)).2 (by decide) (by decide) ?_
  refine g_iconst X0 hx hby (0 : Int32) d21_12 rfl ?_
  refine g_istore X0 hx hby d21_13 (l' := #[.val (.int bu), .val (.long x), .second, .val (.long y), .second, .val (.int (0 : Int32)), .unset]) rfl ?_
  refine g_lloadN X0 hx hby d21_15 rfl ?_
  refine g_ldc2J X0 hx hby hZ hown w71_ d21_16 ?_
  refine g_lcmp X0 hx hby d21_19 ?_
  by_cases hc20_3 : y = (-9223372036854775808 : Int64)
  ·skip
   refine g_ifN X0 hx hby d21_20 (teq ((lw_eq y (-9223372036854775808 : Int64)).mpr hc20_3)).2 ?_
   refine g_iconst X0 hx hby (1 : Int32) d21_23 rfl ?_
   refine g_goto X0 hx hby 28 d21_24 (by decide) (by decide) ?_
   refine g_istore X0 hx hby d21_28 (l' := #[.val (.int bu), .val (.long x), .second, .val (.long y), .second, .val (.int (0 : Int32)), .val (.int (1 : Int32))]) rfl ?_
   refine g_iload X0 hx hby d21_30 rfl ?_
   refine g_ifY X0 hx hby 46 d21_32 (teq (by decide : (0 : Int32) = (0 : Int32))).1 (by decide) (by decide) ?_
   refine g_iload X0 hx hby d21_46 rfl ?_
   refine g_ifN X0 hx hby d21_48 (feq (by decide : ¬ ((1 : Int32) = (0 : Int32)))).1 ?_
   refine g_iconst X0 hx hby (0 : Int32) d21_51 rfl ?_
   refine g_nret X0 hx hby (t := .boolean) (by simp) Bd.returns Bd.notSynchronized d21_52 e0 (by decide) (by decide) ?_
   show (Q_beats Z bu x y h0 n0) (some (.int (0 : Int32))) _ _
   exact ⟨by simp [own_beats, hc5_1, hc20_3], N0, rfl⟩
  ·skip
   refine g_ifY X0 hx hby 27 d21_20 (feq (mt (lw_eq y (-9223372036854775808 : Int64)).mp hc20_3)).2 (by decide) (by decide) ?_
   refine g_iconst X0 hx hby (0 : Int32) d21_27 rfl ?_
   refine g_istore X0 hx hby d21_28 (l' := #[.val (.int bu), .val (.long x), .second, .val (.long y), .second, .val (.int (0 : Int32)), .val (.int (0 : Int32))]) rfl ?_
   refine g_iload X0 hx hby d21_30 rfl ?_
   refine g_ifY X0 hx hby 46 d21_32 (teq (by decide : (0 : Int32) = (0 : Int32))).1 (by decide) (by decide) ?_
   refine g_iload X0 hx hby d21_46 rfl ?_
   refine g_ifY X0 hx hby 53 d21_48 (teq (by decide : (0 : Int32) = (0 : Int32))).1 (by decide) (by decide) ?_
   refine g_iloadN X0 hx hby d21_53 rfl ?_
   by_cases hc54_4 : bu = (0 : Int32)
   ·skip
    refine g_ifY X0 hx hby 71 d21_54 (teq hc54_4).1 (by decide) (by decide) ?_
    refine g_lloadN X0 hx hby d21_71 rfl ?_
    refine g_lloadN X0 hx hby d21_72 rfl ?_
    refine g_lcmp X0 hx hby d21_73 ?_
    by_cases hc74_5 : x < y
    ·skip
     refine g_ifN X0 hx hby d21_74 (tlt ((lw_lt x y).mpr hc74_5)).2.1 ?_
     refine g_iconst X0 hx hby (1 : Int32) d21_77 rfl ?_
     refine g_goto X0 hx hby 82 d21_78 (by decide) (by decide) ?_
     refine g_nret X0 hx hby (t := .boolean) (by simp) Bd.returns Bd.notSynchronized d21_82 e0 (by decide) (by decide) ?_
     show (Q_beats Z bu x y h0 n0) (some (.int (1 : Int32))) _ _
     exact ⟨by simp [own_beats, hc5_1, hc20_3, hc54_4, hc74_5], N0, rfl⟩
    ·skip
     refine g_ifY X0 hx hby 81 d21_74 (flt (mt (lw_lt x y).mp hc74_5)).2.1 (by decide) (by decide) ?_
     refine g_iconst X0 hx hby (0 : Int32) d21_81 rfl ?_
     refine g_nret X0 hx hby (t := .boolean) (by simp) Bd.returns Bd.notSynchronized d21_82 e0 (by decide) (by decide) ?_
     show (Q_beats Z bu x y h0 n0) (some (.int (0 : Int32))) _ _
     exact ⟨by simp [own_beats, hc5_1, hc20_3, hc54_4, hc74_5], N0, rfl⟩
   ·skip
    refine g_ifN X0 hx hby d21_54 (feq hc54_4).1 ?_
    refine g_lloadN X0 hx hby d21_57 rfl ?_
    refine g_lloadN X0 hx hby d21_58 rfl ?_
    refine g_lcmp X0 hx hby d21_59 ?_
    by_cases hc60_6 : y < x
    ·skip
     refine g_ifN X0 hx hby d21_60 (tlt ((lw_gt x y).mpr hc60_6)).2.2.2 ?_
     refine g_iconst X0 hx hby (1 : Int32) d21_63 rfl ?_
     refine g_goto X0 hx hby 82 d21_64 (by decide) (by decide) ?_
     refine g_nret X0 hx hby (t := .boolean) (by simp) Bd.returns Bd.notSynchronized d21_82 e0 (by decide) (by decide) ?_
     show (Q_beats Z bu x y h0 n0) (some (.int (1 : Int32))) _ _
     exact ⟨by simp [own_beats, hc5_1, hc20_3, hc54_4, hc60_6], N0, rfl⟩
    ·skip
     refine g_ifY X0 hx hby 67 d21_60 (flt (mt (lw_gt x y).mp hc60_6)).2.2.2 (by decide) (by decide) ?_
     refine g_iconst X0 hx hby (0 : Int32) d21_67 rfl ?_
     refine g_goto X0 hx hby 82 d21_68 (by decide) (by decide) ?_
     refine g_nret X0 hx hby (t := .boolean) (by simp) Bd.returns Bd.notSynchronized d21_82 e0 (by decide) (by decide) ?_
     show (Q_beats Z bu x y h0 n0) (some (.int (0 : Int32))) _ _
     exact ⟨by simp [own_beats, hc5_1, hc20_3, hc54_4, hc60_6], N0, rfl⟩

theorem d15_0 : decode prog_2_method_14_code 0 = .ok (.aload_n 0, 1) := by decide +kernel
theorem d15_1 : decode prog_2_method_14_code 1 = .ok (.getfield 30, 3) := by decide +kernel
theorem d15_4 : decode prog_2_method_14_code 4 = .ok (.getstatic 133, 3) := by decide +kernel
theorem d15_7 : decode prog_2_method_14_code 7 = .ok (.if_acmp .ne 7, 3) := by decide +kernel
theorem d15_10 : decode prog_2_method_14_code 10 = .ok (.lload_n 1, 1) := by decide +kernel
theorem d15_11 : decode prog_2_method_14_code 11 = .ok (.goto 5, 3) := by decide +kernel
theorem d15_16 : decode prog_2_method_14_code 16 = .ok (.lreturn, 1) := by decide +kernel
theorem d15_14 : decode prog_2_method_14_code 14 = .ok (.lload_n 1, 1) := by decide +kernel
theorem d15_15 : decode prog_2_method_14_code 15 = .ok (.lneg, 1) := by decide +kernel
def Q_rank (Z : State) (a : Addr) (q : Int64) (sd : Addr) (t : Int64) (ba : Addr) (h0 : Heap) (n0 : Nat) (v : Option Value) (h : Heap) (L : List Loc) : Prop := v = some (.long t) ∧ Fr n0 L ∧ h = h0
set_option maxRecDepth 65536 in
set_option maxHeartbeats 40000000 in
theorem rm_rank (l : Launch) (Z : State) (a0 : Array Value) (hw : ∀ d ∈ tables_1, d.before a0 Z = true) (ws : List Jvm.Cond) (a : Addr) (q : Int64) (sd : Addr) (t : Int64) (ba : Addr) (h0 : Heap) (n0 : Nat) (Z0 : n0 ≤ h0.size) (SB : Sta Z Z.heap "com/example/tidegate/tidegate/engine/Side" "BUY" "Lcom/example/tidegate/tidegate/engine/Side;" (.ref ba)) (OLD : Old Z n0 h0) (FS : Fld Z h0 a "com/example/tidegate/tidegate/engine/BookSide" "side" "Lcom/example/tidegate/tidegate/engine/Side;" (.ref sd)) (ht : t = if sd = ba then q else -q) :
  MetFree l (⟨"com/example/tidegate/tidegate/engine/BookSide", "rank", "(J)J"⟩ : MethodName) (head1 (Jvm.Cond.code (⟨"com/example/tidegate/tidegate/engine/BookSide", "rank", "(J)J"⟩ : MethodName) prog_2_method_14_code 3 (some .long) :: ws) ({ frames := 0, cells := 0, slots := 0, locals := 0 } : Room)) (fun aa_ U => aa_ = #[(.ref a), (.long q)] ∧ Z.Warmed39 U.vm ∧ U.heap = h0) (fun _ _ _ _ _ => True) (fun _ U o_ U' => RetG U (Q_rank Z a q sd t ba h0 n0) 0 0 U' o_) := by
 refine MetFree.of_bodySF (plainFor_of_name own_pn1) hisR ?_
 intro p e s m args below meth c_ s₁ Bd hml0 hP hK
 obtain ⟨rfl, hZ, hh⟩ := hP
 have hx := Bd.exec
 have hby := Bd.bytes
 have hml : c_.maxLocals = 3 := hml0
 have hown : s.vm.findClass "com/example/tidegate/tidegate/engine/BookSide" = some m.cls := findClass_of_methodNamed Bd.named
 have hnm := (name_of_methodNamed Bd.named Bd.method).1
 have X0 : Stand p l e ({ frames := 0, cells := 0, slots := 0, locals := 0 } : Room) s m #[(.ref a), (.long q)] below meth c_ s₁ [] 0 0 := Stand.of_body Bd
 have e0 : s₁.heap = h0 := by rw [← hh, Bd.state]; rfl
 have N0 := Fr.nil n0
 have w35_ := hw _ (List.mem_of_getElem? (i := 35) rfl)
 have w117_ := hw _ (List.mem_of_getElem? (i := 117) rfl)
 show Go p e below (RetG s (Q_rank Z a q sd t ba h0 n0) 0 0) (s₁.setTop (entryFrame m #[(.ref a), (.long q)] 3))
 rw [show entryFrame m #[(.ref a), (.long q)] 3 = mkF m 0 #[.val (.ref a), .val (.long q), .second] [] from by first | (simp [entryFrame, mkF, argsToLocals, Value.category]; done) | rfl]
 refine g_aloadN X0 hx hby d15_0 rfl rfl ?_
 refine g_getF X0 hx hby hZ hown (host := "") (Or.inl w35_) Via.refl e0 FS d15_1 (fun T1 X1 e1 => ?_)
 refine g_getS X1 hx hby hZ hown (host := "") (Or.inl w117_) Via.refl e1 (SB.ext OLD.2) d15_4 (fun T2 X2 e2 => ?_)
 by_cases ha7_3 : sd = ba
 ·skip
  refine g_acmp X2 hx hby rfl rfl 10 true d15_7 (decide_eq_true (congrArg Value.ref ha7_3)) (by decide) (by decide) ?_
  refine g_lloadN X2 hx hby d15_10 rfl ?_
  refine g_goto X2 hx hby 16 d15_11 (by decide) (by decide) ?_
  refine g_lret X2 hx hby Bd.returns Bd.notSynchronized d15_16 e2 (by decide) (by decide) ?_
  show (Q_rank Z a q sd t ba h0 n0) (some (.long q)) _ _
  exact ⟨by rw [ht, if_pos ha7_3], N0, rfl⟩
 ·skip
  refine g_acmp X2 hx hby rfl rfl 14 false d15_7 (decide_eq_false fun q => ha7_3 (Value.ref.inj q)) (by decide) (by decide) ?_
  refine g_lloadN X2 hx hby d15_14 rfl ?_
  refine g_lneg X2 hx hby d15_15 ?_
  refine g_lret X2 hx hby Bd.returns Bd.notSynchronized d15_16 e2 (by decide) (by decide) ?_
  show (Q_rank Z a q sd t ba h0 n0) (some (.long (-q))) _ _
  exact ⟨by rw [ht, if_neg ha7_3], N0, rfl⟩

theorem d18_0 : decode jdk_65_method_30_code 0 = .ok (.iload_n 1, 1) := by decide +kernel
theorem d18_1 : decode jdk_65_method_30_code 1 = .ok (.iload_n 2, 1) := by decide +kernel
theorem d18_2 : decode jdk_65_method_30_code 2 = .ok (.if_icmp .le 44, 3) := by decide +kernel
theorem d18_46 : decode jdk_65_method_30_code 46 = .ok (.iload_n 1, 1) := by decide +kernel
theorem d18_47 : decode jdk_65_method_30_code 47 = .ok (.ifCond .ge 12, 3) := by decide +kernel
theorem d18_59 : decode jdk_65_method_30_code 59 = .ok (.iload_n 2, 1) := by decide +kernel
theorem d18_60 : decode jdk_65_method_30_code 60 = .ok (.iload_n 0, 1) := by decide +kernel
theorem d18_61 : decode jdk_65_method_30_code 61 = .ok (.if_icmp .le 12, 3) := by decide +kernel
theorem d18_73 : decode jdk_65_method_30_code 73 = .ok (.return_, 1) := by decide +kernel
theorem own_pn4 : plainName "java/util/Arrays" = true := by first | (simp [plainName, overriddenIn]; done) | decide +kernel
def Q_rchk_0_0 (Z : State)  (h0 : Heap) (n0 : Nat) (v : Option Value) (h : Heap) (L : List Loc) : Prop := v = none ∧ Fr n0 L ∧ h = h0
set_option maxRecDepth 65536 in
set_option maxHeartbeats 40000000 in
theorem rm_rchk_0_0 (l : Launch) (Z : State) (a0 : Array Value) (hw : ∀ d ∈ tables_1, d.before a0 Z = true) (ws : List Jvm.Cond)  (h0 : Heap) (n0 : Nat) (Z0 : n0 ≤ h0.size) :
  MetFree l (⟨"java/util/Arrays", "rangeCheck", "(III)V"⟩ : MethodName) (head1 (Jvm.Cond.code (⟨"java/util/Arrays", "rangeCheck", "(III)V"⟩ : MethodName) jdk_65_method_30_code 3 none :: ws) ({ frames := 0, cells := 0, slots := 0, locals := 0 } : Room)) (fun aa_ U => aa_ = #[(.int (16 : Int32)), (.int (0 : Int32)), (.int (0 : Int32))] ∧ Z.Warmed39 U.vm ∧ U.heap = h0) (fun _ _ _ _ _ => True) (fun _ U o_ U' => RetG U (Q_rchk_0_0 Z h0 n0) 0 0 U' o_) := by
 refine MetFree.of_bodySF (plainFor_of_name own_pn4) hisR ?_
 intro p e s m args below meth c_ s₁ Bd hml0 hP hK
 obtain ⟨rfl, hZ, hh⟩ := hP
 have hx := Bd.exec
 have hby := Bd.bytes
 have hml : c_.maxLocals = 3 := hml0
 have hown : s.vm.findClass "java/util/Arrays" = some m.cls := findClass_of_methodNamed Bd.named
 have hnm := (name_of_methodNamed Bd.named Bd.method).1
 have X0 : Stand p l e ({ frames := 0, cells := 0, slots := 0, locals := 0 } : Room) s m #[(.int (16 : Int32)), (.int (0 : Int32)), (.int (0 : Int32))] below meth c_ s₁ [] 0 0 := Stand.of_body Bd
 have e0 : s₁.heap = h0 := by rw [← hh, Bd.state]; rfl
 have N0 := Fr.nil n0
 show Go p e below (RetG s (Q_rchk_0_0 Z h0 n0) 0 0) (s₁.setTop (entryFrame m #[(.int (16 : Int32)), (.int (0 : Int32)), (.int (0 : Int32))] 3))
 rw [show entryFrame m #[(.int (16 : Int32)), (.int (0 : Int32)), (.int (0 : Int32))] 3 = mkF m 0 #[.val (.int (16 : Int32)), .val (.int (0 : Int32)), .val (.int (0 : Int32))] [] from by first | (simp [entryFrame, mkF, argsToLocals, Value.category]; done) | rfl]
 refine g_iloadN X0 hx hby d18_0 rfl ?_
 refine g_iloadN X0 hx hby d18_1 rfl ?_
 refine g_icY X0 hx hby 46 d18_2 (flt (by decide : ¬ ((0 : Int32) < (0 : Int32)))).2.2.2 (by decide) (by decide) ?_
 refine g_iloadN X0 hx hby d18_46 rfl ?_
 refine g_ifY X0 hx hby 59 d18_47 (flt (by decide : ¬ ((0 : Int32) < (0 : Int32)))).2.1 (by decide) (by decide) ?_
 refine g_iloadN X0 hx hby d18_59 rfl ?_
 refine g_iloadN X0 hx hby d18_60 rfl ?_
 refine g_icY X0 hx hby 73 d18_61 (flt (by decide : ¬ ((16 : Int32) < (0 : Int32)))).2.2.2 (by decide) (by decide) ?_
 refine g_ret X0 hx hby Bd.returns Bd.notSynchronized d18_73 e0 (by decide) (by decide) ?_
 show (Q_rchk_0_0 Z h0 n0) none _ _
 exact ⟨rfl, N0, rfl⟩

theorem d19_0 : decode jdk_65_method_56_code 0 = .ok (.iload_n 1, 1) := by decide +kernel
theorem d19_1 : decode jdk_65_method_56_code 1 = .ok (.istore 5, 2) := by decide +kernel
theorem d19_3 : decode jdk_65_method_56_code 3 = .ok (.iload_n 2, 1) := by decide +kernel
theorem d19_4 : decode jdk_65_method_56_code 4 = .ok (.iconst 1, 1) := by decide +kernel
theorem d19_5 : decode jdk_65_method_56_code 5 = .ok (.isub, 1) := by decide +kernel
theorem d19_6 : decode jdk_65_method_56_code 6 = .ok (.istore 6, 2) := by decide +kernel
theorem d19_8 : decode jdk_65_method_56_code 8 = .ok (.iload 5, 2) := by decide +kernel
theorem d19_10 : decode jdk_65_method_56_code 10 = .ok (.iload 6, 2) := by decide +kernel
theorem d19_12 : decode jdk_65_method_56_code 12 = .ok (.if_icmp .gt 56, 3) := by decide +kernel
theorem d19_68 : decode jdk_65_method_56_code 68 = .ok (.iload 5, 2) := by decide +kernel
theorem d19_70 : decode jdk_65_method_56_code 70 = .ok (.iconst 1, 1) := by decide +kernel
theorem d19_71 : decode jdk_65_method_56_code 71 = .ok (.iadd, 1) := by decide +kernel
theorem d19_72 : decode jdk_65_method_56_code 72 = .ok (.ineg, 1) := by decide +kernel
theorem d19_73 : decode jdk_65_method_56_code 73 = .ok (.ireturn, 1) := by decide +kernel
def Q_bs0_0_0 (Z : State) (rk : Addr) (kr : ClassId) (vs : List Value) (t : Int64) (h0 : Heap) (n0 : Nat) (v : Option Value) (h : Heap) (L : List Loc) : Prop := v = some (.int (-1 : Int32)) ∧ Fr n0 L ∧ h = h0
set_option maxRecDepth 65536 in
set_option maxHeartbeats 40000000 in
theorem rm_bs0_0_0 (l : Launch) (Z : State) (a0 : Array Value) (hw : ∀ d ∈ tables_1, d.before a0 Z = true) (ws : List Jvm.Cond) (rk : Addr) (kr : ClassId) (vs : List Value) (t : Int64) (h0 : Heap) (n0 : Nat) (Z0 : n0 ≤ h0.size) (V : Arv Z h0 rk kr .long (16 : Int32) vs (.long (0 : Int64))) :
  MetFree l (⟨"java/util/Arrays", "binarySearch0", "([JIIJ)I"⟩ : MethodName) (head1 (Jvm.Cond.code (⟨"java/util/Arrays", "binarySearch0", "([JIIJ)I"⟩ : MethodName) jdk_65_method_56_code 10 (some .int) :: ws) ({ frames := 0, cells := 0, slots := 0, locals := 0 } : Room)) (fun aa_ U => aa_ = #[(.ref rk), (.int (0 : Int32)), (.int (0 : Int32)), (.long t)] ∧ Z.Warmed39 U.vm ∧ U.heap = h0) (fun _ _ _ _ _ => True) (fun _ U o_ U' => RetG U (Q_bs0_0_0 Z rk kr vs t h0 n0) 0 0 U' o_) := by
 refine MetFree.of_bodySF (plainFor_of_name own_pn4) hisR ?_
 intro p e s m args below meth c_ s₁ Bd hml0 hP hK
 obtain ⟨rfl, hZ, hh⟩ := hP
 have hx := Bd.exec
 have hby := Bd.bytes
 have hml : c_.maxLocals = 10 := hml0
 have hown : s.vm.findClass "java/util/Arrays" = some m.cls := findClass_of_methodNamed Bd.named
 have hnm := (name_of_methodNamed Bd.named Bd.method).1
 have X0 : Stand p l e ({ frames := 0, cells := 0, slots := 0, locals := 0 } : Room) s m #[(.ref rk), (.int (0 : Int32)), (.int (0 : Int32)), (.long t)] below meth c_ s₁ [] 0 0 := Stand.of_body Bd
 have e0 : s₁.heap = h0 := by rw [← hh, Bd.state]; rfl
 have N0 := Fr.nil n0
 show Go p e below (RetG s (Q_bs0_0_0 Z rk kr vs t h0 n0) 0 0) (s₁.setTop (entryFrame m #[(.ref rk), (.int (0 : Int32)), (.int (0 : Int32)), (.long t)] 10))
 rw [show entryFrame m #[(.ref rk), (.int (0 : Int32)), (.int (0 : Int32)), (.long t)] 10 = mkF m 0 #[.val (.ref rk), .val (.int (0 : Int32)), .val (.int (0 : Int32)), .val (.long t), .second, .unset, .unset, .unset, .unset, .unset] [] from by first | (simp [entryFrame, mkF, argsToLocals, Value.category]; done) | rfl]
 refine g_iloadN X0 hx hby d19_0 rfl ?_
 refine g_istore X0 hx hby d19_1 (l' := #[.val (.ref rk), .val (.int (0 : Int32)), .val (.int (0 : Int32)), .val (.long t), .second, .val (.int (0 : Int32)), .unset, .unset, .unset, .unset]) rfl ?_
 refine g_iloadN X0 hx hby d19_3 rfl ?_
 refine g_iconst X0 hx hby (1 : Int32) d19_4 rfl ?_
 refine g_isub X0 hx hby d19_5 ?_
 refine g_topI (-1 : Int32) (by decide) ?_
 refine g_istore X0 hx hby d19_6 (l' := #[.val (.ref rk), .val (.int (0 : Int32)), .val (.int (0 : Int32)), .val (.long t), .second, .val (.int (0 : Int32)), .val (.int (-1 : Int32)), .unset, .unset, .unset]) rfl ?_
 refine g_iload X0 hx hby d19_8 rfl ?_
 refine g_iload X0 hx hby d19_10 rfl ?_
 refine g_icY X0 hx hby 68 d19_12 (tlt (by decide : (-1 : Int32) < (0 : Int32))).2.2.1 (by decide) (by decide) ?_
 refine g_iload X0 hx hby d19_68 rfl ?_
 refine g_iconst X0 hx hby (1 : Int32) d19_70 rfl ?_
 refine g_iadd X0 hx hby d19_71 ?_
 refine g_topI (1 : Int32) (by decide) ?_
 refine g_ineg X0 hx hby d19_72 ?_
 refine g_topI (-1 : Int32) (by decide) ?_
 refine g_iret X0 hx hby Bd.returns Bd.notSynchronized d19_73 e0 (by decide) (by decide) ?_
 show (Q_bs0_0_0 Z rk kr vs t h0 n0) (some (.int (-1 : Int32))) _ _
 exact ⟨rfl, N0, rfl⟩

theorem d17_0 : decode jdk_65_method_55_code 0 = .ok (.aload_n 0, 1) := by decide +kernel
theorem d17_1 : decode jdk_65_method_55_code 1 = .ok (.arraylength, 1) := by decide +kernel
theorem d17_2 : decode jdk_65_method_55_code 2 = .ok (.iload_n 1, 1) := by decide +kernel
theorem d17_3 : decode jdk_65_method_55_code 3 = .ok (.iload_n 2, 1) := by decide +kernel
theorem d17_4 : decode jdk_65_method_55_code 4 = .ok (.invokestatic 13, 3) := by decide +kernel
theorem own_pd2 : parseMethodDescriptor "(III)V" = some ⟨[.int, .int, .int], none⟩ := by decide +kernel
theorem d17_7 : decode jdk_65_method_55_code 7 = .ok (.aload_n 0, 1) := by decide +kernel
theorem d17_8 : decode jdk_65_method_55_code 8 = .ok (.iload_n 1, 1) := by decide +kernel
theorem d17_9 : decode jdk_65_method_55_code 9 = .ok (.iload_n 2, 1) := by decide +kernel
theorem d17_10 : decode jdk_65_method_55_code 10 = .ok (.lload_n 3, 1) := by decide +kernel
theorem d17_11 : decode jdk_65_method_55_code 11 = .ok (.invokestatic 205, 3) := by decide +kernel
theorem own_pd3 : parseMethodDescriptor "([JIIJ)I" = some ⟨[(.array .long), .int, .int, .long], some .int⟩ := by decide +kernel
theorem d17_14 : decode jdk_65_method_55_code 14 = .ok (.ireturn, 1) := by decide +kernel
def Q_bs_0_0 (Z : State) (rk : Addr) (kr : ClassId) (vs : List Value) (t : Int64) (h0 : Heap) (n0 : Nat) (v : Option Value) (h : Heap) (L : List Loc) : Prop := v = some (.int (-1 : Int32)) ∧ Fr n0 L ∧ h = h0
set_option maxRecDepth 65536 in
set_option maxHeartbeats 40000000 in
theorem rm_bs_0_0 (l : Launch) (Z : State) (a0 : Array Value) (hw : ∀ d ∈ tables_1, d.before a0 Z = true) (ws : List Jvm.Cond) (rk : Addr) (kr : ClassId) (vs : List Value) (t : Int64) (h0 : Heap) (n0 : Nat) (Z0 : n0 ≤ h0.size) (V : Arv Z h0 rk kr .long (16 : Int32) vs (.long (0 : Int64))) :
  MetFree l (⟨"java/util/Arrays", "binarySearch", "([JIIJ)I"⟩ : MethodName) (head1 (Jvm.Cond.code (⟨"java/util/Arrays", "binarySearch", "([JIIJ)I"⟩ : MethodName) jdk_65_method_55_code 5 (some .int) :: ws) ({ frames := 1, cells := 0, slots := 0, locals := 21 } : Room)) (fun aa_ U => aa_ = #[(.ref rk), (.int (0 : Int32)), (.int (0 : Int32)), (.long t)] ∧ Z.Warmed39 U.vm ∧ U.heap = h0) (fun _ _ _ _ _ => True) (fun _ U o_ U' => RetG U (Q_bs_0_0 Z rk kr vs t h0 n0) 0 0 U' o_) := by
 refine MetFree.of_bodySF (plainFor_of_name own_pn4) hisR ?_
 intro p e s m args below meth c_ s₁ Bd hml0 hP hK
 obtain ⟨rfl, hZ, hh⟩ := hP
 have hx := Bd.exec
 have hby := Bd.bytes
 have hml : c_.maxLocals = 5 := hml0
 have hown : s.vm.findClass "java/util/Arrays" = some m.cls := findClass_of_methodNamed Bd.named
 have hnm := (name_of_methodNamed Bd.named Bd.method).1
 have X0 : Stand p l e ({ frames := 1, cells := 0, slots := 0, locals := 21 } : Room) s m #[(.ref rk), (.int (0 : Int32)), (.int (0 : Int32)), (.long t)] below meth c_ s₁ [] 0 0 := Stand.of_body Bd
 have e0 : s₁.heap = h0 := by rw [← hh, Bd.state]; rfl
 have N0 := Fr.nil n0
 have w123_ := hw _ (List.mem_of_getElem? (i := 123) rfl)
 have w125_ := hw _ (List.mem_of_getElem? (i := 125) rfl)
 have w126_ := hw _ (List.mem_of_getElem? (i := 126) rfl)
 have w127_ := hw _ (List.mem_of_getElem? (i := 127) rfl)
 have w128_ := hw _ (List.mem_of_getElem? (i := 128) rfl)
 have w129_ := hw _ (List.mem_of_getElem? (i := 129) rfl)
 have w130_ := hw _ (List.mem_of_getElem? (i := 130) rfl)
 show Go p e below (RetG s (Q_bs_0_0 Z rk kr vs t h0 n0) 0 0) (s₁.setTop (entryFrame m #[(.ref rk), (.int (0 : Int32)), (.int (0 : Int32)), (.long t)] 5))
 rw [show entryFrame m #[(.ref rk), (.int (0 : Int32)), (.int (0 : Int32)), (.long t)] 5 = mkF m 0 #[.val (.ref rk), .val (.int (0 : Int32)), .val (.int (0 : Int32)), .val (.long t), .second] [] from by first | (simp [entryFrame, mkF, argsToLocals, Value.category]; done) | rfl]
 refine g_aloadN X0 hx hby d17_0 rfl rfl ?_
 refine g_arraylength X0 hx hby hZ e0 V d17_1 ?_
 refine g_iloadN X0 hx hby d17_2 rfl ?_
 refine g_iloadN X0 hx hby d17_3 rfl ?_
 refine g_static X0 hx hby hZ hown (rm_rchk_0_0 l Z a0 hw []  h0 n0 Z0 ) w125_ w126_ w123_ w127_ (by decide) e0 (by rw [hml]; rfl) [(.int (16 : Int32)), (.int (0 : Int32)), (.int (0 : Int32))] (lenOf own_pd2 rfl) rfl rfl (Nat.le_of_ble_eq_true rfl) (Nat.le_of_ble_eq_true rfl) (Nat.le_of_ble_eq_true rfl) (Nat.le_of_ble_eq_true rfl) d17_4 (fun v1 T1 L1 X1 hQ1 => ?_)
 obtain ⟨rfl, N1q, eh1⟩ := hQ1
 have N1 := Fr.app N0 N1q
 refine g_aloadN X1 hx hby d17_7 rfl rfl ?_
 refine g_iloadN X1 hx hby d17_8 rfl ?_
 refine g_iloadN X1 hx hby d17_9 rfl ?_
 refine g_lloadN X1 hx hby d17_10 rfl ?_
 refine g_static X1 hx hby hZ hown (rm_bs0_0_0 l Z a0 hw [] rk kr vs t h0 n0 Z0 V) w128_ w129_ w123_ w130_ (by decide) eh1 (by rw [hml]; rfl) [(.ref rk), (.int (0 : Int32)), (.int (0 : Int32)), (.long t)] (lenOf own_pd3 rfl) rfl rfl (Nat.le_of_ble_eq_true rfl) (Nat.le_of_ble_eq_true rfl) (Nat.le_of_ble_eq_true rfl) (Nat.le_of_ble_eq_true rfl) d17_11 (fun v2 T2 L2 X2 hQ2 => ?_)
 obtain ⟨rfl, N2q, eh2⟩ := hQ2
 have N2 := Fr.app N1 N2q
 refine g_iret X2 hx hby Bd.returns Bd.notSynchronized d17_14 eh2 (by decide) (by decide) ?_
 show (Q_bs_0_0 Z rk kr vs t h0 n0) (some (.int (-1 : Int32))) _ _
 exact ⟨rfl, N2, rfl⟩

theorem d16_0 : decode jdk_29_method_65_code 0 = .ok (.iload_n 0, 1) := by decide +kernel
theorem d16_1 : decode jdk_29_method_65_code 1 = .ok (.iload_n 1, 1) := by decide +kernel
theorem d16_2 : decode jdk_29_method_65_code 2 = .ok (.if_icmp .lt 7, 3) := by decide +kernel
theorem d16_9 : decode jdk_29_method_65_code 9 = .ok (.iload_n 1, 1) := by decide +kernel
theorem d16_10 : decode jdk_29_method_65_code 10 = .ok (.ireturn, 1) := by decide +kernel
def Q_mx_m1_0 (Z : State)  (h0 : Heap) (n0 : Nat) (v : Option Value) (h : Heap) (L : List Loc) : Prop := v = some (.int (0 : Int32)) ∧ Fr n0 L ∧ h = h0
set_option maxRecDepth 65536 in
set_option maxHeartbeats 40000000 in
theorem rm_mx_m1_0 (l : Launch) (Z : State) (a0 : Array Value) (hw : ∀ d ∈ tables_1, d.before a0 Z = true) (ws : List Jvm.Cond)  (h0 : Heap) (n0 : Nat) (Z0 : n0 ≤ h0.size) :
  MetFree l (⟨"java/lang/Math", "max", "(II)I"⟩ : MethodName) (head1 (Jvm.Cond.code (⟨"java/lang/Math", "max", "(II)I"⟩ : MethodName) jdk_29_method_65_code 2 (some .int) :: ws) ({ frames := 0, cells := 0, slots := 0, locals := 0 } : Room)) (fun aa_ U => aa_ = #[(.int (-1 : Int32)), (.int (0 : Int32))] ∧ Z.Warmed39 U.vm ∧ U.heap = h0) (fun _ _ _ _ _ => True) (fun _ U o_ U' => RetG U (Q_mx_m1_0 Z h0 n0) 0 0 U' o_) := by
 refine MetFree.of_bodySF (Jvm.Free.JP.mathPlain rfl (by decide +kernel)) hisR ?_
 intro p e s m args below meth c_ s₁ Bd hml0 hP hK
 obtain ⟨rfl, hZ, hh⟩ := hP
 have hx := Bd.exec
 have hby := Bd.bytes
 have hml : c_.maxLocals = 2 := hml0
 have hown : s.vm.findClass "java/lang/Math" = some m.cls := findClass_of_methodNamed Bd.named
 have hnm := (name_of_methodNamed Bd.named Bd.method).1
 have X0 : Stand p l e ({ frames := 0, cells := 0, slots := 0, locals := 0 } : Room) s m #[(.int (-1 : Int32)), (.int (0 : Int32))] below meth c_ s₁ [] 0 0 := Stand.of_body Bd
 have e0 : s₁.heap = h0 := by rw [← hh, Bd.state]; rfl
 have N0 := Fr.nil n0
 show Go p e below (RetG s (Q_mx_m1_0 Z h0 n0) 0 0) (s₁.setTop (entryFrame m #[(.int (-1 : Int32)), (.int (0 : Int32))] 2))
 rw [show entryFrame m #[(.int (-1 : Int32)), (.int (0 : Int32))] 2 = mkF m 0 #[.val (.int (-1 : Int32)), .val (.int (0 : Int32))] [] from by first | (simp [entryFrame, mkF, argsToLocals, Value.category]; done) | rfl]
 refine g_iloadN X0 hx hby d16_0 rfl ?_
 refine g_iloadN X0 hx hby d16_1 rfl ?_
 refine g_icY X0 hx hby 9 d16_2 (tlt (by decide : (-1 : Int32) < (0 : Int32))).1 (by decide) (by decide) ?_
 refine g_iloadN X0 hx hby d16_9 rfl ?_
 refine g_iret X0 hx hby Bd.returns Bd.notSynchronized d16_10 e0 (by decide) (by decide) ?_
 show (Q_mx_m1_0 Z h0 n0) (some (.int (0 : Int32))) _ _
 exact ⟨rfl, N0, rfl⟩

theorem d14_0 : decode prog_2_method_12_code 0 = .ok (.aload_n 0, 1) := by decide +kernel
theorem d14_1 : decode prog_2_method_12_code 1 = .ok (.lload_n 1, 1) := by decide +kernel
theorem d14_2 : decode prog_2_method_12_code 2 = .ok (.invokevirtual 109, 3) := by decide +kernel
theorem own_pd4 : parseMethodDescriptor "(J)J" = some ⟨[.long], some .long⟩ := by decide +kernel
theorem d14_5 : decode prog_2_method_12_code 5 = .ok (.lstore_n 3, 1) := by decide +kernel
theorem d14_6 : decode prog_2_method_12_code 6 = .ok (.aload_n 0, 1) := by decide +kernel
theorem d14_7 : decode prog_2_method_12_code 7 = .ok (.getfield 38, 3) := by decide +kernel
theorem d14_10 : decode prog_2_method_12_code 10 = .ok (.istore 5, 2) := by decide +kernel
theorem d14_12 : decode prog_2_method_12_code 12 = .ok (.iconst 1, 1) := by decide +kernel
theorem d14_13 : decode prog_2_method_12_code 13 = .ok (.istore 6, 2) := by decide +kernel
theorem d14_15 : decode prog_2_method_12_code 15 = .ok (.aload_n 0, 1) := by decide +kernel
theorem d14_16 : decode prog_2_method_12_code 16 = .ok (.getfield 38, 3) := by decide +kernel
theorem d14_19 : decode prog_2_method_12_code 19 = .ok (.iconst 1, 1) := by decide +kernel
theorem d14_20 : decode prog_2_method_12_code 20 = .ok (.isub, 1) := by decide +kernel
theorem d14_21 : decode prog_2_method_12_code 21 = .ok (.istore 7, 2) := by decide +kernel
theorem d14_23 : decode prog_2_method_12_code 23 = .ok (.iload 7, 2) := by decide +kernel
theorem d14_25 : decode prog_2_method_12_code 25 = .ok (.ifCond .lt 37, 3) := by decide +kernel
theorem d14_62 : decode prog_2_method_12_code 62 = .ok (.aload_n 0, 1) := by decide +kernel
theorem d14_63 : decode prog_2_method_12_code 63 = .ok (.getfield 9, 3) := by decide +kernel
theorem d14_66 : decode prog_2_method_12_code 66 = .ok (.iload 7, 2) := by decide +kernel
theorem d14_68 : decode prog_2_method_12_code 68 = .ok (.iconst 0, 1) := by decide +kernel
theorem d14_69 : decode prog_2_method_12_code 69 = .ok (.invokestatic 113, 3) := by decide +kernel
theorem own_pd5 : parseMethodDescriptor "(II)I" = some ⟨[.int, .int], some .int⟩ := by decide +kernel
theorem d14_72 : decode prog_2_method_12_code 72 = .ok (.iload 5, 2) := by decide +kernel
theorem d14_74 : decode prog_2_method_12_code 74 = .ok (.lload_n 3, 1) := by decide +kernel
theorem d14_75 : decode prog_2_method_12_code 75 = .ok (.invokestatic 119, 3) := by decide +kernel
theorem d14_78 : decode prog_2_method_12_code 78 = .ok (.ireturn, 1) := by decide +kernel
def Q_idx0 (Z : State) (a : Addr) (q : Int64) (sd : Addr) (t : Int64) (rk : Addr) (kr : ClassId) (vs : List Value) (ba : Addr) (h0 : Heap) (n0 : Nat) (v : Option Value) (h : Heap) (L : List Loc) : Prop := v = some (.int (own_ix0 t)) ∧ Fr n0 L ∧ h = h0
set_option maxRecDepth 65536 in
set_option maxHeartbeats 40000000 in
theorem rm_idx0 (l : Launch) (Z : State) (a0 : Array Value) (hw : ∀ d ∈ tables_1, d.before a0 Z = true) (ws : List Jvm.Cond) (a : Addr) (q : Int64) (sd : Addr) (t : Int64) (rk : Addr) (kr : ClassId) (vs : List Value) (ba : Addr) (h0 : Heap) (n0 : Nat) (Z0 : n0 ≤ h0.size) (SB : Sta Z Z.heap "com/example/tidegate/tidegate/engine/Side" "BUY" "Lcom/example/tidegate/tidegate/engine/Side;" (.ref ba)) (OLD : Old Z n0 h0) (EB : Exa Z h0 a "com/example/tidegate/tidegate/engine/BookSide") (FS : Fld Z h0 a "com/example/tidegate/tidegate/engine/BookSide" "side" "Lcom/example/tidegate/tidegate/engine/Side;" (.ref sd)) (FR : Fld Z h0 a "com/example/tidegate/tidegate/engine/BookSide" "ranks" "[J" (.ref rk)) (FN : Fld Z h0 a "com/example/tidegate/tidegate/engine/BookSide" "levelCount" "I" (.int (0 : Int32))) (ht : t = if sd = ba then q else -q) (VR : Arv Z h0 rk kr .long (16 : Int32) vs (.long (0 : Int64))) :
  MetFree l (⟨"com/example/tidegate/tidegate/engine/BookSide", "indexOf", "(J)I"⟩ : MethodName) (head1 (Jvm.Cond.code (⟨"com/example/tidegate/tidegate/engine/BookSide", "indexOf", "(J)I"⟩ : MethodName) prog_2_method_12_code 8 (some .int) :: ws) ({ frames := 4, cells := 0, slots := 0, locals := 120 } : Room)) (fun aa_ U => aa_ = #[(.ref a), (.long q)] ∧ Z.Warmed39 U.vm ∧ U.heap = h0) (fun _ _ _ _ _ => True) (fun _ U o_ U' => RetG U (Q_idx0 Z a q sd t rk kr vs ba h0 n0) 0 0 U' o_) := by
 refine MetFree.of_bodySF (plainFor_of_name own_pn1) hisR ?_
 intro p e s m args below meth c_ s₁ Bd hml0 hP hK
 obtain ⟨rfl, hZ, hh⟩ := hP
 have hx := Bd.exec
 have hby := Bd.bytes
 have hml : c_.maxLocals = 8 := hml0
 have hown : s.vm.findClass "com/example/tidegate/tidegate/engine/BookSide" = some m.cls := findClass_of_methodNamed Bd.named
 have hnm := (name_of_methodNamed Bd.named Bd.method).1
 have X0 : Stand p l e ({ frames := 4, cells := 0, slots := 0, locals := 120 } : Room) s m #[(.ref a), (.long q)] below meth c_ s₁ [] 0 0 := Stand.of_body Bd
 have e0 : s₁.heap = h0 := by rw [← hh, Bd.state]; rfl
 have N0 := Fr.nil n0
 have w6_ := hw _ (List.mem_of_getElem? (i := 6) rfl)
 have w9_ := hw _ (List.mem_of_getElem? (i := 9) rfl)
 have w10_ := hw _ (List.mem_of_getElem? (i := 10) rfl)
 have w18_ := hw _ (List.mem_of_getElem? (i := 18) rfl)
 have w67_ := hw _ (List.mem_of_getElem? (i := 67) rfl)
 have w113_ := hw _ (List.mem_of_getElem? (i := 113) rfl)
 have w114_ := hw _ (List.mem_of_getElem? (i := 114) rfl)
 have w115_ := hw _ (List.mem_of_getElem? (i := 115) rfl)
 have w116_ := hw _ (List.mem_of_getElem? (i := 116) rfl)
 have w118_ := hw _ (List.mem_of_getElem? (i := 118) rfl)
 have w119_ := hw _ (List.mem_of_getElem? (i := 119) rfl)
 have w120_ := hw _ (List.mem_of_getElem? (i := 120) rfl)
 have w121_ := hw _ (List.mem_of_getElem? (i := 121) rfl)
 have w122_ := hw _ (List.mem_of_getElem? (i := 122) rfl)
 have w123_ := hw _ (List.mem_of_getElem? (i := 123) rfl)
 have w124_ := hw _ (List.mem_of_getElem? (i := 124) rfl)
 show Go p e below (RetG s (Q_idx0 Z a q sd t rk kr vs ba h0 n0) 0 0) (s₁.setTop (entryFrame m #[(.ref a), (.long q)] 8))
 rw [show entryFrame m #[(.ref a), (.long q)] 8 = mkF m 0 #[.val (.ref a), .val (.long q), .second, .unset, .unset, .unset, .unset, .unset] [] from by first | (simp [entryFrame, mkF, argsToLocals, Value.category]; done) | rfl]
 refine g_aloadN X0 hx hby d14_0 rfl rfl ?_
 refine g_lloadN X0 hx hby d14_1 rfl ?_
 refine g_private X0 hx hby hZ hown (rm_rank l Z a0 hw [] a q sd t ba h0 n0 Z0 SB OLD FS ht) w113_ w114_ w9_ w115_ w10_ w116_ (by decide) e0 EB (by rw [hml]; rfl) [(.long q)] (lenOf own_pd4 rfl) rfl rfl (Nat.le_of_ble_eq_true rfl) (Nat.le_of_ble_eq_true rfl) (Nat.le_of_ble_eq_true rfl) (Nat.le_of_ble_eq_true rfl) d14_2 (fun v1 T1 L1 X1 hQ1 => ?_)
 obtain ⟨rfl, N1q, eh1⟩ := hQ1
 have N1 := Fr.app N0 N1q
 refine g_lstoreN X1 hx hby d14_5 (l' := #[.val (.ref a), .val (.long q), .second, .val (.long t), .second, .unset, .unset, .unset]) rfl ?_
 refine g_aloadN X1 hx hby d14_6 rfl rfl ?_
 refine g_getF X1 hx hby hZ hown (host := "") (Or.inl w67_) Via.refl eh1 FN d14_7 (fun T2 X2 e2 => ?_)
 refine g_istore X2 hx hby d14_10 (l' := #[.val (.ref a), .val (.long q), .second, .val (.long t), .second, .val (.int (0 : Int32)), .unset, .unset]) rfl ?_
 refine g_iconst X2 hx hby (1 : Int32) d14_12 rfl ?_
 refine g_istore X2 hx hby d14_13 (l' := #[.val (.ref a), .val (.long q), .second, .val (.long t), .second, .val (.int (0 : Int32)), .val (.int (1 : Int32)), .unset]) rfl ?_
 refine g_aloadN X2 hx hby d14_15 rfl rfl ?_
 refine g_getF X2 hx hby hZ hown (host := "") (Or.inl w67_) Via.refl e2 FN d14_16 (fun T3 X3 e3 => ?_)
 refine g_iconst X3 hx hby (1 : Int32) d14_19 rfl ?_
 refine g_isub X3 hx hby d14_20 ?_
 refine g_topI (-1 : Int32) (by decide) ?_
 refine g_istore X3 hx hby d14_21 (l' := #[.val (.ref a), .val (.long q), .second, .val (.long t), .second, .val (.int (0 : Int32)), .val (.int (1 : Int32)), .val (.int (-1 : Int32))]) rfl ?_
 refine g_iload X3 hx hby d14_23 rfl ?_
 refine g_ifY X3 hx hby 62 d14_25 (tlt (by decide : (-1 : Int32) < (0 : Int32))).1 (by decide) (by decide) ?_
 refine g_aloadN X3 hx hby d14_62 rfl rfl ?_
 refine g_getF X3 hx hby hZ hown (host := "") (Or.inl w18_) Via.refl e3 FR d14_63 (fun T4 X4 e4 => ?_)
 refine g_iload X4 hx hby d14_66 rfl ?_
 refine g_iconst X4 hx hby (0 : Int32) d14_68 rfl ?_
 refine g_static X4 hx hby hZ hown (rm_mx_m1_0 l Z a0 hw []  h0 n0 Z0 ) w118_ w119_ w6_ w120_ (by decide) e4 (by rw [hml]; rfl) [(.int (-1 : Int32)), (.int (0 : Int32))] (lenOf own_pd5 rfl) rfl rfl (Nat.le_of_ble_eq_true rfl) (Nat.le_of_ble_eq_true rfl) (Nat.le_of_ble_eq_true rfl) (Nat.le_of_ble_eq_true rfl) d14_69 (fun v5 T5 L5 X5 hQ5 => ?_)
 obtain ⟨rfl, N5q, eh5⟩ := hQ5
 have N5 := Fr.app N1 N5q
 refine g_iload X5 hx hby d14_72 rfl ?_
 refine g_lloadN X5 hx hby d14_74 rfl ?_
 refine g_static X5 hx hby hZ hown (rm_bs_0_0 l Z a0 hw [] rk kr vs t h0 n0 Z0 VR) w121_ w122_ w123_ w124_ (by decide) eh5 (by rw [hml]; rfl) [(.ref rk), (.int (0 : Int32)), (.int (0 : Int32)), (.long t)] (lenOf own_pd3 rfl) rfl rfl (Nat.le_of_ble_eq_true rfl) (Nat.le_of_ble_eq_true rfl) (Nat.le_of_ble_eq_true rfl) (Nat.le_of_ble_eq_true rfl) d14_75 (fun v6 T6 L6 X6 hQ6 => ?_)
 obtain ⟨rfl, N6q, eh6⟩ := hQ6
 have N6 := Fr.app N5 N6q
 refine g_iret X6 hx hby Bd.returns Bd.notSynchronized d14_78 eh6 (by decide) (by decide) ?_
 show (Q_idx0 Z a q sd t rk kr vs ba h0 n0) (some (.int (-1 : Int32))) _ _
 exact ⟨rfl, N6, rfl⟩

def Q_rchk_0_1 (Z : State)  (h0 : Heap) (n0 : Nat) (v : Option Value) (h : Heap) (L : List Loc) : Prop := v = none ∧ Fr n0 L ∧ h = h0
set_option maxRecDepth 65536 in
set_option maxHeartbeats 40000000 in
theorem rm_rchk_0_1 (l : Launch) (Z : State) (a0 : Array Value) (hw : ∀ d ∈ tables_1, d.before a0 Z = true) (ws : List Jvm.Cond)  (h0 : Heap) (n0 : Nat) (Z0 : n0 ≤ h0.size) :
  MetFree l (⟨"java/util/Arrays", "rangeCheck", "(III)V"⟩ : MethodName) (head1 (Jvm.Cond.code (⟨"java/util/Arrays", "rangeCheck", "(III)V"⟩ : MethodName) jdk_65_method_30_code 3 none :: ws) ({ frames := 0, cells := 0, slots := 0, locals := 0 } : Room)) (fun aa_ U => aa_ = #[(.int (16 : Int32)), (.int (0 : Int32)), (.int (1 : Int32))] ∧ Z.Warmed39 U.vm ∧ U.heap = h0) (fun _ _ _ _ _ => True) (fun _ U o_ U' => RetG U (Q_rchk_0_1 Z h0 n0) 0 0 U' o_) := by
 refine MetFree.of_bodySF (plainFor_of_name own_pn4) hisR ?_
 intro p e s m args below meth c_ s₁ Bd hml0 hP hK
 obtain ⟨rfl, hZ, hh⟩ := hP
 have hx := Bd.exec
 have hby := Bd.bytes
 have hml : c_.maxLocals = 3 := hml0
 have hown : s.vm.findClass "java/util/Arrays" = some m.cls := findClass_of_methodNamed Bd.named
 have hnm := (name_of_methodNamed Bd.named Bd.method).1
 have X0 : Stand p l e ({ frames := 0, cells := 0, slots := 0, locals := 0 } : Room) s m #[(.int (16 : Int32)), (.int (0 : Int32)), (.int (1 : Int32))] below meth c_ s₁ [] 0 0 := Stand.of_body Bd
 have e0 : s₁.heap = h0 := by rw [← hh, Bd.state]; rfl
 have N0 := Fr.nil n0
 show Go p e below (RetG s (Q_rchk_0_1 Z h0 n0) 0 0) (s₁.setTop (entryFrame m #[(.int (16 : Int32)), (.int (0 : Int32)), (.int (1 : Int32))] 3))
 rw [show entryFrame m #[(.int (16 : Int32)), (.int (0 : Int32)), (.int (1 : Int32))] 3 = mkF m 0 #[.val (.int (16 : Int32)), .val (.int (0 : Int32)), .val (.int (1 : Int32))] [] from by first | (simp [entryFrame, mkF, argsToLocals, Value.category]; done) | rfl]
 refine g_iloadN X0 hx hby d18_0 rfl ?_
 refine g_iloadN X0 hx hby d18_1 rfl ?_
 refine g_icY X0 hx hby 46 d18_2 (flt (by decide : ¬ ((1 : Int32) < (0 : Int32)))).2.2.2 (by decide) (by decide) ?_
 refine g_iloadN X0 hx hby d18_46 rfl ?_
 refine g_ifY X0 hx hby 59 d18_47 (flt (by decide : ¬ ((0 : Int32) < (0 : Int32)))).2.1 (by decide) (by decide) ?_
 refine g_iloadN X0 hx hby d18_59 rfl ?_
 refine g_iloadN X0 hx hby d18_60 rfl ?_
 refine g_icY X0 hx hby 73 d18_61 (flt (by decide : ¬ ((16 : Int32) < (1 : Int32)))).2.2.2 (by decide) (by decide) ?_
 refine g_ret X0 hx hby Bd.returns Bd.notSynchronized d18_73 e0 (by decide) (by decide) ?_
 show (Q_rchk_0_1 Z h0 n0) none _ _
 exact ⟨rfl, N0, rfl⟩

theorem d19_15 : decode jdk_65_method_56_code 15 = .ok (.iload 5, 2) := by decide +kernel
theorem d19_17 : decode jdk_65_method_56_code 17 = .ok (.iload 6, 2) := by decide +kernel
theorem d19_19 : decode jdk_65_method_56_code 19 = .ok (.iadd, 1) := by decide +kernel
theorem d19_20 : decode jdk_65_method_56_code 20 = .ok (.iconst 1, 1) := by decide +kernel
theorem d19_21 : decode jdk_65_method_56_code 21 = .ok (.iushr, 1) := by decide +kernel
theorem d19_22 : decode jdk_65_method_56_code 22 = .ok (.istore 7, 2) := by decide +kernel
theorem d19_24 : decode jdk_65_method_56_code 24 = .ok (.aload_n 0, 1) := by decide +kernel
theorem d19_25 : decode jdk_65_method_56_code 25 = .ok (.iload 7, 2) := by decide +kernel
theorem d19_27 : decode jdk_65_method_56_code 27 = .ok (.laload, 1) := by decide +kernel
theorem d19_28 : decode jdk_65_method_56_code 28 = .ok (.lstore 8, 2) := by decide +kernel
theorem d19_30 : decode jdk_65_method_56_code 30 = .ok (.lload 8, 2) := by decide +kernel
theorem d19_32 : decode jdk_65_method_56_code 32 = .ok (.lload_n 3, 1) := by decide +kernel
theorem d19_33 : decode jdk_65_method_56_code 33 = .ok (.lcmp, 1) := by decide +kernel
theorem d19_34 : decode jdk_65_method_56_code 34 = .ok (.ifCond .ge 12, 3) := by decide +kernel
theorem d19_37 : decode jdk_65_method_56_code 37 = .ok (.iload 7, 2) := by decide +kernel
theorem d19_39 : decode jdk_65_method_56_code 39 = .ok (.iconst 1, 1) := by decide +kernel
theorem d19_40 : decode jdk_65_method_56_code 40 = .ok (.iadd, 1) := by decide +kernel
theorem d19_41 : decode jdk_65_method_56_code 41 = .ok (.istore 5, 2) := by decide +kernel
theorem d19_43 : decode jdk_65_method_56_code 43 = .ok (.goto 22, 3) := by decide +kernel
theorem d19_65 : decode jdk_65_method_56_code 65 = .ok (.goto (-57), 3) := by decide +kernel
theorem d19_46 : decode jdk_65_method_56_code 46 = .ok (.lload 8, 2) := by decide +kernel
theorem d19_48 : decode jdk_65_method_56_code 48 = .ok (.lload_n 3, 1) := by decide +kernel
theorem d19_49 : decode jdk_65_method_56_code 49 = .ok (.lcmp, 1) := by decide +kernel
theorem d19_50 : decode jdk_65_method_56_code 50 = .ok (.ifCond .le 12, 3) := by decide +kernel
theorem d19_53 : decode jdk_65_method_56_code 53 = .ok (.iload 7, 2) := by decide +kernel
theorem d19_55 : decode jdk_65_method_56_code 55 = .ok (.iconst 1, 1) := by decide +kernel
theorem d19_56 : decode jdk_65_method_56_code 56 = .ok (.isub, 1) := by decide +kernel
theorem d19_57 : decode jdk_65_method_56_code 57 = .ok (.istore 6, 2) := by decide +kernel
theorem d19_59 : decode jdk_65_method_56_code 59 = .ok (.goto 6, 3) := by decide +kernel
theorem d19_62 : decode jdk_65_method_56_code 62 = .ok (.iload 7, 2) := by decide +kernel
theorem d19_64 : decode jdk_65_method_56_code 64 = .ok (.ireturn, 1) := by decide +kernel
def Q_bs0_0_1 (Z : State) (rk : Addr) (kr : ClassId) (vs : List Value) (t : Int64) (r : Int64) (h0 : Heap) (n0 : Nat) (v : Option Value) (h : Heap) (L : List Loc) : Prop := v = some (.int (own_b (0 : Int32) t r)) ∧ Fr n0 L ∧ h = h0
set_option maxRecDepth 65536 in
set_option maxHeartbeats 40000000 in
theorem rm_bs0_0_1 (l : Launch) (Z : State) (a0 : Array Value) (hw : ∀ d ∈ tables_1, d.before a0 Z = true) (ws : List Jvm.Cond) (rk : Addr) (kr : ClassId) (vs : List Value) (t : Int64) (r : Int64) (h0 : Heap) (n0 : Nat) (Z0 : n0 ≤ h0.size) (V : Arv Z h0 rk kr .long (16 : Int32) vs (.long (0 : Int64))) (gr : vs.getD 0 (.long (0 : Int64)) = .long r) :
  MetFree l (⟨"java/util/Arrays", "binarySearch0", "([JIIJ)I"⟩ : MethodName) (head1 (Jvm.Cond.code (⟨"java/util/Arrays", "binarySearch0", "([JIIJ)I"⟩ : MethodName) jdk_65_method_56_code 10 (some .int) :: ws) ({ frames := 0, cells := 0, slots := 0, locals := 0 } : Room)) (fun aa_ U => aa_ = #[(.ref rk), (.int (0 : Int32)), (.int (1 : Int32)), (.long t)] ∧ Z.Warmed39 U.vm ∧ U.heap = h0) (fun _ _ _ _ _ => True) (fun _ U o_ U' => RetG U (Q_bs0_0_1 Z rk kr vs t r h0 n0) 0 0 U' o_) := by
 refine MetFree.of_bodySF (plainFor_of_name own_pn4) hisR ?_
 intro p e s m args below meth c_ s₁ Bd hml0 hP hK
 obtain ⟨rfl, hZ, hh⟩ := hP
 have hx := Bd.exec
 have hby := Bd.bytes
 have hml : c_.maxLocals = 10 := hml0
 have hown : s.vm.findClass "java/util/Arrays" = some m.cls := findClass_of_methodNamed Bd.named
 have hnm := (name_of_methodNamed Bd.named Bd.method).1
 have X0 : Stand p l e ({ frames := 0, cells := 0, slots := 0, locals := 0 } : Room) s m #[(.ref rk), (.int (0 : Int32)), (.int (1 : Int32)), (.long t)] below meth c_ s₁ [] 0 0 := Stand.of_body Bd
 have e0 : s₁.heap = h0 := by rw [← hh, Bd.state]; rfl
 have N0 := Fr.nil n0
 show Go p e below (RetG s (Q_bs0_0_1 Z rk kr vs t r h0 n0) 0 0) (s₁.setTop (entryFrame m #[(.ref rk), (.int (0 : Int32)), (.int (1 : Int32)), (.long t)] 10))
 rw [show entryFrame m #[(.ref rk), (.int (0 : Int32)), (.int (1 : Int32)), (.long t)] 10 = mkF m 0 #[.val (.ref rk), .val (.int (0 : Int32)), .val (.int (1 : Int32)), .val (.long t), .second, .unset, .unset, .unset, .unset, .unset] [] from by first | (simp [entryFrame, mkF, argsToLocals, Value.category]; done) | rfl]
 refine g_iloadN X0 hx hby d19_0 rfl ?_
 refine g_istore X0 hx hby d19_1 (l' := #[.val (.ref rk), .val (.int (0 : Int32)), .val (.int (1 : Int32)), .val (.long t), .second, .val (.int (0 : Int32)), .unset, .unset, .unset, .unset]) rfl ?_
 refine g_iloadN X0 hx hby d19_3 rfl ?_
 refine g_iconst X0 hx hby (1 : Int32) d19_4 rfl ?_
 refine g_isub X0 hx hby d19_5 ?_
 refine g_topI (0 : Int32) (by decide) ?_
 refine g_istore X0 hx hby d19_6 (l' := #[.val (.ref rk), .val (.int (0 : Int32)), .val (.int (1 : Int32)), .val (.long t), .second, .val (.int (0 : Int32)), .val (.int (0 : Int32)), .unset, .unset, .unset]) rfl ?_
 refine g_iload X0 hx hby d19_8 rfl ?_
 refine g_iload X0 hx hby d19_10 rfl ?_
 refine g_icN X0 hx hby d19_12 (flt (by decide : ¬ ((0 : Int32) < (0 : Int32)))).2.2.1 ?_
 refine g_iload X0 hx hby d19_15 rfl ?_
 refine g_iload X0 hx hby d19_17 rfl ?_
 refine g_iadd X0 hx hby d19_19 ?_
 refine g_topI (0 : Int32) (by decide) ?_
 refine g_iconst X0 hx hby (1 : Int32) d19_20 rfl ?_
 refine g_iushr X0 hx hby d19_21 ?_
 refine g_topI (0 : Int32) (by decide) ?_
 refine g_istore X0 hx hby d19_22 (l' := #[.val (.ref rk), .val (.int (0 : Int32)), .val (.int (1 : Int32)), .val (.long t), .second, .val (.int (0 : Int32)), .val (.int (0 : Int32)), .val (.int (0 : Int32)), .unset, .unset]) rfl ?_
 refine g_aloadN X0 hx hby d19_24 rfl rfl ?_
 refine g_iload X0 hx hby d19_25 rfl ?_
 refine g_laload X0 hx hby hZ e0 V (.long r) ⟨by decide, by decide⟩ (by exact gr) d19_27 ?_
 refine g_lstore X0 hx hby d19_28 (l' := #[.val (.ref rk), .val (.int (0 : Int32)), .val (.int (1 : Int32)), .val (.long t), .second, .val (.int (0 : Int32)), .val (.int (0 : Int32)), .val (.int (0 : Int32)), .val (.long r), .second]) rfl ?_
 refine g_lload X0 hx hby d19_30 rfl ?_
 refine g_lloadN X0 hx hby d19_32 rfl ?_
 refine g_lcmp X0 hx hby d19_33 ?_
 by_cases hc34_1 : r < t
 ·skip
  refine g_ifN X0 hx hby d19_34 (tlt ((lw_lt r t).mpr hc34_1)).2.1 ?_
  refine g_iload X0 hx hby d19_37 rfl ?_
  refine g_iconst X0 hx hby (1 : Int32) d19_39 rfl ?_
  refine g_at 40 rfl rfl rfl ?_
  refine g_iadd X0 hx hby d19_40 ?_
  refine g_topI (1 : Int32) (by decide) ?_
  refine g_istore X0 hx hby d19_41 (l' := #[.val (.ref rk), .val (.int (0 : Int32)), .val (.int (1 : Int32)), .val (.long t), .second, .val (.int (1 : Int32)), .val (.int (0 : Int32)), .val (.int (0 : Int32)), .val (.long r), .second]) rfl ?_
  refine g_goto X0 hx hby 65 d19_43 (by decide) (by decide) ?_
  refine g_goto X0 hx hby 8 d19_65 (by decide) (by decide) ?_
  refine g_iload X0 hx hby d19_8 rfl ?_
  refine g_iload X0 hx hby d19_10 rfl ?_
  refine g_icY X0 hx hby 68 d19_12 (tlt (by decide : (0 : Int32) < (1 : Int32))).2.2.1 (by decide) (by decide) ?_
  refine g_iload X0 hx hby d19_68 rfl ?_
  refine g_iconst X0 hx hby (1 : Int32) d19_70 rfl ?_
  refine g_iadd X0 hx hby d19_71 ?_
  refine g_topI (2 : Int32) (by decide) ?_
  refine g_ineg X0 hx hby d19_72 ?_
  refine g_topI (-2 : Int32) (by decide) ?_
  refine g_iret X0 hx hby Bd.returns Bd.notSynchronized d19_73 e0 (by decide) (by decide) ?_
  show (Q_bs0_0_1 Z rk kr vs t r h0 n0) (some (.int (-2 : Int32))) _ _
  exact ⟨by simp [own_b, hc34_1], N0, rfl⟩
 ·skip
  refine g_ifY X0 hx hby 46 d19_34 (flt (mt (lw_lt r t).mp hc34_1)).2.1 (by decide) (by decide) ?_
  refine g_lload X0 hx hby d19_46 rfl ?_
  refine g_lloadN X0 hx hby d19_48 rfl ?_
  refine g_lcmp X0 hx hby d19_49 ?_
  by_cases hc50_2 : t < r
  ·skip
   refine g_ifN X0 hx hby d19_50 (tlt ((lw_gt r t).mpr hc50_2)).2.2.2 ?_
   refine g_iload X0 hx hby d19_53 rfl ?_
   refine g_iconst X0 hx hby (1 : Int32) d19_55 rfl ?_
   refine g_isub X0 hx hby d19_56 ?_
   refine g_topI (-1 : Int32) (by decide) ?_
   refine g_istore X0 hx hby d19_57 (l' := #[.val (.ref rk), .val (.int (0 : Int32)), .val (.int (1 : Int32)), .val (.long t), .second, .val (.int (0 : Int32)), .val (.int (-1 : Int32)), .val (.int (0 : Int32)), .val (.long r), .second]) rfl ?_
   refine g_goto X0 hx hby 65 d19_59 (by decide) (by decide) ?_
   refine g_goto X0 hx hby 8 d19_65 (by decide) (by decide) ?_
   refine g_iload X0 hx hby d19_8 rfl ?_
   refine g_iload X0 hx hby d19_10 rfl ?_
   refine g_icY X0 hx hby 68 d19_12 (tlt (by decide : (-1 : Int32) < (0 : Int32))).2.2.1 (by decide) (by decide) ?_
   refine g_iload X0 hx hby d19_68 rfl ?_
   refine g_iconst X0 hx hby (1 : Int32) d19_70 rfl ?_
   refine g_iadd X0 hx hby d19_71 ?_
   refine g_topI (1 : Int32) (by decide) ?_
   refine g_ineg X0 hx hby d19_72 ?_
   refine g_topI (-1 : Int32) (by decide) ?_
   refine g_iret X0 hx hby Bd.returns Bd.notSynchronized d19_73 e0 (by decide) (by decide) ?_
   show (Q_bs0_0_1 Z rk kr vs t r h0 n0) (some (.int (-1 : Int32))) _ _
   exact ⟨by simp [own_b, hc34_1, hc50_2], N0, rfl⟩
  ·skip
   refine g_ifY X0 hx hby 62 d19_50 (flt (mt (lw_gt r t).mp hc50_2)).2.2.2 (by decide) (by decide) ?_
   refine g_iload X0 hx hby d19_62 rfl ?_
   refine g_iret X0 hx hby Bd.returns Bd.notSynchronized d19_64 e0 (by decide) (by decide) ?_
   show (Q_bs0_0_1 Z rk kr vs t r h0 n0) (some (.int (0 : Int32))) _ _
   exact ⟨by simp [own_b, hc34_1, hc50_2], N0, rfl⟩

def Q_bs_0_1 (Z : State) (rk : Addr) (kr : ClassId) (vs : List Value) (t : Int64) (r : Int64) (h0 : Heap) (n0 : Nat) (v : Option Value) (h : Heap) (L : List Loc) : Prop := v = some (.int (own_b (0 : Int32) t r)) ∧ Fr n0 L ∧ h = h0
set_option maxRecDepth 65536 in
set_option maxHeartbeats 40000000 in
theorem rm_bs_0_1 (l : Launch) (Z : State) (a0 : Array Value) (hw : ∀ d ∈ tables_1, d.before a0 Z = true) (ws : List Jvm.Cond) (rk : Addr) (kr : ClassId) (vs : List Value) (t : Int64) (r : Int64) (h0 : Heap) (n0 : Nat) (Z0 : n0 ≤ h0.size) (V : Arv Z h0 rk kr .long (16 : Int32) vs (.long (0 : Int64))) (gr : vs.getD 0 (.long (0 : Int64)) = .long r) :
  MetFree l (⟨"java/util/Arrays", "binarySearch", "([JIIJ)I"⟩ : MethodName) (head1 (Jvm.Cond.code (⟨"java/util/Arrays", "binarySearch", "([JIIJ)I"⟩ : MethodName) jdk_65_method_55_code 5 (some .int) :: ws) ({ frames := 1, cells := 0, slots := 0, locals := 21 } : Room)) (fun aa_ U => aa_ = #[(.ref rk), (.int (0 : Int32)), (.int (1 : Int32)), (.long t)] ∧ Z.Warmed39 U.vm ∧ U.heap = h0) (fun _ _ _ _ _ => True) (fun _ U o_ U' => RetG U (Q_bs_0_1 Z rk kr vs t r h0 n0) 0 0 U' o_) := by
 refine MetFree.of_bodySF (plainFor_of_name own_pn4) hisR ?_
 intro p e s m args below meth c_ s₁ Bd hml0 hP hK
 obtain ⟨rfl, hZ, hh⟩ := hP
 have hx := Bd.exec
 have hby := Bd.bytes
 have hml : c_.maxLocals = 5 := hml0
 have hown : s.vm.findClass "java/util/Arrays" = some m.cls := findClass_of_methodNamed Bd.named
 have hnm := (name_of_methodNamed Bd.named Bd.method).1
 have X0 : Stand p l e ({ frames := 1, cells := 0, slots := 0, locals := 21 } : Room) s m #[(.ref rk), (.int (0 : Int32)), (.int (1 : Int32)), (.long t)] below meth c_ s₁ [] 0 0 := Stand.of_body Bd
 have e0 : s₁.heap = h0 := by rw [← hh, Bd.state]; rfl
 have N0 := Fr.nil n0
 have w123_ := hw _ (List.mem_of_getElem? (i := 123) rfl)
 have w125_ := hw _ (List.mem_of_getElem? (i := 125) rfl)
 have w126_ := hw _ (List.mem_of_getElem? (i := 126) rfl)
 have w127_ := hw _ (List.mem_of_getElem? (i := 127) rfl)
 have w128_ := hw _ (List.mem_of_getElem? (i := 128) rfl)
 have w129_ := hw _ (List.mem_of_getElem? (i := 129) rfl)
 have w130_ := hw _ (List.mem_of_getElem? (i := 130) rfl)
 show Go p e below (RetG s (Q_bs_0_1 Z rk kr vs t r h0 n0) 0 0) (s₁.setTop (entryFrame m #[(.ref rk), (.int (0 : Int32)), (.int (1 : Int32)), (.long t)] 5))
 rw [show entryFrame m #[(.ref rk), (.int (0 : Int32)), (.int (1 : Int32)), (.long t)] 5 = mkF m 0 #[.val (.ref rk), .val (.int (0 : Int32)), .val (.int (1 : Int32)), .val (.long t), .second] [] from by first | (simp [entryFrame, mkF, argsToLocals, Value.category]; done) | rfl]
 refine g_aloadN X0 hx hby d17_0 rfl rfl ?_
 refine g_arraylength X0 hx hby hZ e0 V d17_1 ?_
 refine g_iloadN X0 hx hby d17_2 rfl ?_
 refine g_iloadN X0 hx hby d17_3 rfl ?_
 refine g_static X0 hx hby hZ hown (rm_rchk_0_1 l Z a0 hw []  h0 n0 Z0 ) w125_ w126_ w123_ w127_ (by decide) e0 (by rw [hml]; rfl) [(.int (16 : Int32)), (.int (0 : Int32)), (.int (1 : Int32))] (lenOf own_pd2 rfl) rfl rfl (Nat.le_of_ble_eq_true rfl) (Nat.le_of_ble_eq_true rfl) (Nat.le_of_ble_eq_true rfl) (Nat.le_of_ble_eq_true rfl) d17_4 (fun v1 T1 L1 X1 hQ1 => ?_)
 obtain ⟨rfl, N1q, eh1⟩ := hQ1
 have N1 := Fr.app N0 N1q
 refine g_aloadN X1 hx hby d17_7 rfl rfl ?_
 refine g_iloadN X1 hx hby d17_8 rfl ?_
 refine g_iloadN X1 hx hby d17_9 rfl ?_
 refine g_lloadN X1 hx hby d17_10 rfl ?_
 refine g_static X1 hx hby hZ hown (rm_bs0_0_1 l Z a0 hw [] rk kr vs t r h0 n0 Z0 V gr) w128_ w129_ w123_ w130_ (by decide) eh1 (by rw [hml]; rfl) [(.ref rk), (.int (0 : Int32)), (.int (1 : Int32)), (.long t)] (lenOf own_pd3 rfl) rfl rfl (Nat.le_of_ble_eq_true rfl) (Nat.le_of_ble_eq_true rfl) (Nat.le_of_ble_eq_true rfl) (Nat.le_of_ble_eq_true rfl) d17_11 (fun v2 T2 L2 X2 hQ2 => ?_)
 obtain ⟨rfl, N2q, eh2⟩ := hQ2
 have N2 := Fr.app N1 N2q
 refine g_iret X2 hx hby Bd.returns Bd.notSynchronized d17_14 eh2 (by decide) (by decide) ?_
 show (Q_bs_0_1 Z rk kr vs t r h0 n0) (some (.int (own_b (0 : Int32) t r))) _ _
 exact ⟨rfl, N2, rfl⟩

theorem d16_5 : decode jdk_29_method_65_code 5 = .ok (.iload_n 0, 1) := by decide +kernel
theorem d16_6 : decode jdk_29_method_65_code 6 = .ok (.goto 4, 3) := by decide +kernel
def Q_mx_0_0 (Z : State)  (h0 : Heap) (n0 : Nat) (v : Option Value) (h : Heap) (L : List Loc) : Prop := v = some (.int (0 : Int32)) ∧ Fr n0 L ∧ h = h0
set_option maxRecDepth 65536 in
set_option maxHeartbeats 40000000 in
theorem rm_mx_0_0 (l : Launch) (Z : State) (a0 : Array Value) (hw : ∀ d ∈ tables_1, d.before a0 Z = true) (ws : List Jvm.Cond)  (h0 : Heap) (n0 : Nat) (Z0 : n0 ≤ h0.size) :
  MetFree l (⟨"java/lang/Math", "max", "(II)I"⟩ : MethodName) (head1 (Jvm.Cond.code (⟨"java/lang/Math", "max", "(II)I"⟩ : MethodName) jdk_29_method_65_code 2 (some .int) :: ws) ({ frames := 0, cells := 0, slots := 0, locals := 0 } : Room)) (fun aa_ U => aa_ = #[(.int (0 : Int32)), (.int (0 : Int32))] ∧ Z.Warmed39 U.vm ∧ U.heap = h0) (fun _ _ _ _ _ => True) (fun _ U o_ U' => RetG U (Q_mx_0_0 Z h0 n0) 0 0 U' o_) := by
 refine MetFree.of_bodySF (Jvm.Free.JP.mathPlain rfl (by decide +kernel)) hisR ?_
 intro p e s m args below meth c_ s₁ Bd hml0 hP hK
 obtain ⟨rfl, hZ, hh⟩ := hP
 have hx := Bd.exec
 have hby := Bd.bytes
 have hml : c_.maxLocals = 2 := hml0
 have hown : s.vm.findClass "java/lang/Math" = some m.cls := findClass_of_methodNamed Bd.named
 have hnm := (name_of_methodNamed Bd.named Bd.method).1
 have X0 : Stand p l e ({ frames := 0, cells := 0, slots := 0, locals := 0 } : Room) s m #[(.int (0 : Int32)), (.int (0 : Int32))] below meth c_ s₁ [] 0 0 := Stand.of_body Bd
 have e0 : s₁.heap = h0 := by rw [← hh, Bd.state]; rfl
 have N0 := Fr.nil n0
 show Go p e below (RetG s (Q_mx_0_0 Z h0 n0) 0 0) (s₁.setTop (entryFrame m #[(.int (0 : Int32)), (.int (0 : Int32))] 2))
 rw [show entryFrame m #[(.int (0 : Int32)), (.int (0 : Int32))] 2 = mkF m 0 #[.val (.int (0 : Int32)), .val (.int (0 : Int32))] [] from by first | (simp [entryFrame, mkF, argsToLocals, Value.category]; done) | rfl]
 refine g_iloadN X0 hx hby d16_0 rfl ?_
 refine g_iloadN X0 hx hby d16_1 rfl ?_
 refine g_icN X0 hx hby d16_2 (flt (by decide : ¬ ((0 : Int32) < (0 : Int32)))).1 ?_
 refine g_iloadN X0 hx hby d16_5 rfl ?_
 refine g_goto X0 hx hby 10 d16_6 (by decide) (by decide) ?_
 refine g_iret X0 hx hby Bd.returns Bd.notSynchronized d16_10 e0 (by decide) (by decide) ?_
 show (Q_mx_0_0 Z h0 n0) (some (.int (0 : Int32))) _ _
 exact ⟨rfl, N0, rfl⟩

theorem d14_28 : decode prog_2_method_12_code 28 = .ok (.aload_n 0, 1) := by decide +kernel
theorem d14_29 : decode prog_2_method_12_code 29 = .ok (.getfield 9, 3) := by decide +kernel
theorem d14_32 : decode prog_2_method_12_code 32 = .ok (.iload 7, 2) := by decide +kernel
theorem d14_34 : decode prog_2_method_12_code 34 = .ok (.laload, 1) := by decide +kernel
theorem d14_35 : decode prog_2_method_12_code 35 = .ok (.lload_n 3, 1) := by decide +kernel
theorem d14_36 : decode prog_2_method_12_code 36 = .ok (.lcmp, 1) := by decide +kernel
theorem d14_37 : decode prog_2_method_12_code 37 = .ok (.ifCond .le 25, 3) := by decide +kernel
theorem d14_40 : decode prog_2_method_12_code 40 = .ok (.iload 7, 2) := by decide +kernel
theorem d14_42 : decode prog_2_method_12_code 42 = .ok (.istore 5, 2) := by decide +kernel
theorem d14_44 : decode prog_2_method_12_code 44 = .ok (.iload 6, 2) := by decide +kernel
theorem d14_46 : decode prog_2_method_12_code 46 = .ok (.iconst 2, 1) := by decide +kernel
theorem d14_47 : decode prog_2_method_12_code 47 = .ok (.imul, 1) := by decide +kernel
theorem d14_48 : decode prog_2_method_12_code 48 = .ok (.istore 6, 2) := by decide +kernel
theorem d14_50 : decode prog_2_method_12_code 50 = .ok (.aload_n 0, 1) := by decide +kernel
theorem d14_51 : decode prog_2_method_12_code 51 = .ok (.getfield 38, 3) := by decide +kernel
theorem d14_54 : decode prog_2_method_12_code 54 = .ok (.iload 6, 2) := by decide +kernel
theorem d14_56 : decode prog_2_method_12_code 56 = .ok (.isub, 1) := by decide +kernel
theorem d14_57 : decode prog_2_method_12_code 57 = .ok (.istore 7, 2) := by decide +kernel
theorem d14_59 : decode prog_2_method_12_code 59 = .ok (.goto (-36), 3) := by decide +kernel
def Q_idx1 (Z : State) (a : Addr) (q : Int64) (sd : Addr) (t : Int64) (rk : Addr) (kr : ClassId) (vs : List Value) (r0 : Int64) (ba : Addr) (h0 : Heap) (n0 : Nat) (v : Option Value) (h : Heap) (L : List Loc) : Prop := v = some (.int (own_ix1 t r0)) ∧ Fr n0 L ∧ h = h0
set_option maxRecDepth 65536 in
set_option maxHeartbeats 40000000 in
theorem rm_idx1 (l : Launch) (Z : State) (a0 : Array Value) (hw : ∀ d ∈ tables_1, d.before a0 Z = true) (ws : List Jvm.Cond) (a : Addr) (q : Int64) (sd : Addr) (t : Int64) (rk : Addr) (kr : ClassId) (vs : List Value) (r0 : Int64) (ba : Addr) (h0 : Heap) (n0 : Nat) (Z0 : n0 ≤ h0.size) (SB : Sta Z Z.heap "com/example/tidegate/tidegate/engine/Side" "BUY" "Lcom/example/tidegate/tidegate/engine/Side;" (.ref ba)) (OLD : Old Z n0 h0) (EB : Exa Z h0 a "com/example/tidegate/tidegate/engine/BookSide") (FS : Fld Z h0 a "com/example/tidegate/tidegate/engine/BookSide" "side" "Lcom/example/tidegate/tidegate/engine/Side;" (.ref sd)) (FR : Fld Z h0 a "com/example/tidegate/tidegate/engine/BookSide" "ranks" "[J" (.ref rk)) (FN : Fld Z h0 a "com/example/tidegate/tidegate/engine/BookSide" "levelCount" "I" (.int (1 : Int32))) (ht : t = if sd = ba then q else -q) (VR : Arv Z h0 rk kr .long (16 : Int32) vs (.long (0 : Int64))) (gr0 : vs.getD 0 (.long (0 : Int64)) = .long r0) :
  MetFree l (⟨"com/example/tidegate/tidegate/engine/BookSide", "indexOf", "(J)I"⟩ : MethodName) (head1 (Jvm.Cond.code (⟨"com/example/tidegate/tidegate/engine/BookSide", "indexOf", "(J)I"⟩ : MethodName) prog_2_method_12_code 8 (some .int) :: ws) ({ frames := 4, cells := 0, slots := 0, locals := 120 } : Room)) (fun aa_ U => aa_ = #[(.ref a), (.long q)] ∧ Z.Warmed39 U.vm ∧ U.heap = h0) (fun _ _ _ _ _ => True) (fun _ U o_ U' => RetG U (Q_idx1 Z a q sd t rk kr vs r0 ba h0 n0) 0 0 U' o_) := by
 refine MetFree.of_bodySF (plainFor_of_name own_pn1) hisR ?_
 intro p e s m args below meth c_ s₁ Bd hml0 hP hK
 obtain ⟨rfl, hZ, hh⟩ := hP
 have hx := Bd.exec
 have hby := Bd.bytes
 have hml : c_.maxLocals = 8 := hml0
 have hown : s.vm.findClass "com/example/tidegate/tidegate/engine/BookSide" = some m.cls := findClass_of_methodNamed Bd.named
 have hnm := (name_of_methodNamed Bd.named Bd.method).1
 have X0 : Stand p l e ({ frames := 4, cells := 0, slots := 0, locals := 120 } : Room) s m #[(.ref a), (.long q)] below meth c_ s₁ [] 0 0 := Stand.of_body Bd
 have e0 : s₁.heap = h0 := by rw [← hh, Bd.state]; rfl
 have N0 := Fr.nil n0
 have w6_ := hw _ (List.mem_of_getElem? (i := 6) rfl)
 have w9_ := hw _ (List.mem_of_getElem? (i := 9) rfl)
 have w10_ := hw _ (List.mem_of_getElem? (i := 10) rfl)
 have w18_ := hw _ (List.mem_of_getElem? (i := 18) rfl)
 have w67_ := hw _ (List.mem_of_getElem? (i := 67) rfl)
 have w113_ := hw _ (List.mem_of_getElem? (i := 113) rfl)
 have w114_ := hw _ (List.mem_of_getElem? (i := 114) rfl)
 have w115_ := hw _ (List.mem_of_getElem? (i := 115) rfl)
 have w116_ := hw _ (List.mem_of_getElem? (i := 116) rfl)
 have w118_ := hw _ (List.mem_of_getElem? (i := 118) rfl)
 have w119_ := hw _ (List.mem_of_getElem? (i := 119) rfl)
 have w120_ := hw _ (List.mem_of_getElem? (i := 120) rfl)
 have w121_ := hw _ (List.mem_of_getElem? (i := 121) rfl)
 have w122_ := hw _ (List.mem_of_getElem? (i := 122) rfl)
 have w123_ := hw _ (List.mem_of_getElem? (i := 123) rfl)
 have w124_ := hw _ (List.mem_of_getElem? (i := 124) rfl)
 show Go p e below (RetG s (Q_idx1 Z a q sd t rk kr vs r0 ba h0 n0) 0 0) (s₁.setTop (entryFrame m #[(.ref a), (.long q)] 8))
 rw [show entryFrame m #[(.ref a), (.long q)] 8 = mkF m 0 #[.val (.ref a), .val (.long q), .second, .unset, .unset, .unset, .unset, .unset] [] from by first | (simp [entryFrame, mkF, argsToLocals, Value.category]; done) | rfl]
 refine g_aloadN X0 hx hby d14_0 rfl rfl ?_
 refine g_lloadN X0 hx hby d14_1 rfl ?_
 refine g_private X0 hx hby hZ hown (rm_rank l Z a0 hw [] a q sd t ba h0 n0 Z0 SB OLD FS ht) w113_ w114_ w9_ w115_ w10_ w116_ (by decide) e0 EB (by rw [hml]; rfl) [(.long q)] (lenOf own_pd4 rfl) rfl rfl (Nat.le_of_ble_eq_true rfl) (Nat.le_of_ble_eq_true rfl) (Nat.le_of_ble_eq_true rfl) (Nat.le_of_ble_eq_true rfl) d14_2 (fun v1 T1 L1 X1 hQ1 => ?_)
 obtain ⟨rfl, N1q, eh1⟩ := hQ1
 have N1 := Fr.app N0 N1q
 refine g_lstoreN X1 hx hby d14_5 (l' := #[.val (.ref a), .val (.long q), .second, .val (.long t), .second, .unset, .unset, .unset]) rfl ?_
 refine g_aloadN X1 hx hby d14_6 rfl rfl ?_
 refine g_getF X1 hx hby hZ hown (host := "") (Or.inl w67_) Via.refl eh1 FN d14_7 (fun T2 X2 e2 => ?_)
 refine g_istore X2 hx hby d14_10 (l' := #[.val (.ref a), .val (.long q), .second, .val (.long t), .second, .val (.int (1 : Int32)), .unset, .unset]) rfl ?_
 refine g_iconst X2 hx hby (1 : Int32) d14_12 rfl ?_
 refine g_istore X2 hx hby d14_13 (l' := #[.val (.ref a), .val (.long q), .second, .val (.long t), .second, .val (.int (1 : Int32)), .val (.int (1 : Int32)), .unset]) rfl ?_
 refine g_aloadN X2 hx hby d14_15 rfl rfl ?_
 refine g_getF X2 hx hby hZ hown (host := "") (Or.inl w67_) Via.refl e2 FN d14_16 (fun T3 X3 e3 => ?_)
 refine g_iconst X3 hx hby (1 : Int32) d14_19 rfl ?_
 refine g_isub X3 hx hby d14_20 ?_
 refine g_topI (0 : Int32) (by decide) ?_
 refine g_istore X3 hx hby d14_21 (l' := #[.val (.ref a), .val (.long q), .second, .val (.long t), .second, .val (.int (1 : Int32)), .val (.int (1 : Int32)), .val (.int (0 : Int32))]) rfl ?_
 refine g_iload X3 hx hby d14_23 rfl ?_
 refine g_ifN X3 hx hby d14_25 (flt (by decide : ¬ ((0 : Int32) < (0 : Int32)))).1 ?_
 refine g_aloadN X3 hx hby d14_28 rfl rfl ?_
 refine g_getF X3 hx hby hZ hown (host := "") (Or.inl w18_) Via.refl e3 FR d14_29 (fun T4 X4 e4 => ?_)
 refine g_iload X4 hx hby d14_32 rfl ?_
 refine g_laload X4 hx hby hZ e4 VR (.long r0) ⟨by decide, by decide⟩ (by exact gr0) d14_34 ?_
 refine g_at 35 rfl rfl rfl ?_
 refine g_lloadN X4 hx hby d14_35 rfl ?_
 refine g_lcmp X4 hx hby d14_36 ?_
 by_cases hc37_5 : t < r0
 ·skip
  refine g_ifN X4 hx hby d14_37 (tlt ((lw_gt r0 t).mpr hc37_5)).2.2.2 ?_
  refine g_iload X4 hx hby d14_40 rfl ?_
  refine g_istore X4 hx hby d14_42 (l' := #[.val (.ref a), .val (.long q), .second, .val (.long t), .second, .val (.int (0 : Int32)), .val (.int (1 : Int32)), .val (.int (0 : Int32))]) rfl ?_
  refine g_iload X4 hx hby d14_44 rfl ?_
  refine g_iconst X4 hx hby (2 : Int32) d14_46 rfl ?_
  refine g_imul X4 hx hby d14_47 ?_
  refine g_topI (2 : Int32) (by decide) ?_
  refine g_istore X4 hx hby d14_48 (l' := #[.val (.ref a), .val (.long q), .second, .val (.long t), .second, .val (.int (0 : Int32)), .val (.int (2 : Int32)), .val (.int (0 : Int32))]) rfl ?_
  refine g_aloadN X4 hx hby d14_50 rfl rfl ?_
  refine g_getF X4 hx hby hZ hown (host := "") (Or.inl w67_) Via.refl e4 FN d14_51 (fun T6 X6 e6 => ?_)
  refine g_iload X6 hx hby d14_54 rfl ?_
  refine g_isub X6 hx hby d14_56 ?_
  refine g_topI (-1 : Int32) (by decide) ?_
  refine g_istore X6 hx hby d14_57 (l' := #[.val (.ref a), .val (.long q), .second, .val (.long t), .second, .val (.int (0 : Int32)), .val (.int (2 : Int32)), .val (.int (-1 : Int32))]) rfl ?_
  refine g_goto X6 hx hby 23 d14_59 (by decide) (by decide) ?_
  refine g_iload X6 hx hby d14_23 rfl ?_
  refine g_ifY X6 hx hby 62 d14_25 (tlt (by decide : (-1 : Int32) < (0 : Int32))).1 (by decide) (by decide) ?_
  refine g_aloadN X6 hx hby d14_62 rfl rfl ?_
  refine g_getF X6 hx hby hZ hown (host := "") (Or.inl w18_) Via.refl e6 FR d14_63 (fun T7 X7 e7 => ?_)
  refine g_iload X7 hx hby d14_66 rfl ?_
  refine g_iconst X7 hx hby (0 : Int32) d14_68 rfl ?_
  refine g_static X7 hx hby hZ hown (rm_mx_m1_0 l Z a0 hw []  h0 n0 Z0 ) w118_ w119_ w6_ w120_ (by decide) e7 (by rw [hml]; rfl) [(.int (-1 : Int32)), (.int (0 : Int32))] (lenOf own_pd5 rfl) rfl rfl (Nat.le_of_ble_eq_true rfl) (Nat.le_of_ble_eq_true rfl) (Nat.le_of_ble_eq_true rfl) (Nat.le_of_ble_eq_true rfl) d14_69 (fun v8 T8 L8 X8 hQ8 => ?_)
  obtain ⟨rfl, N8q, eh8⟩ := hQ8
  have N8 := Fr.app N1 N8q
  refine g_iload X8 hx hby d14_72 rfl ?_
  refine g_lloadN X8 hx hby d14_74 rfl ?_
  refine g_static X8 hx hby hZ hown (rm_bs_0_0 l Z a0 hw [] rk kr vs t h0 n0 Z0 VR) w121_ w122_ w123_ w124_ (by decide) eh8 (by rw [hml]; rfl) [(.ref rk), (.int (0 : Int32)), (.int (0 : Int32)), (.long t)] (lenOf own_pd3 rfl) rfl rfl (Nat.le_of_ble_eq_true rfl) (Nat.le_of_ble_eq_true rfl) (Nat.le_of_ble_eq_true rfl) (Nat.le_of_ble_eq_true rfl) d14_75 (fun v9 T9 L9 X9 hQ9 => ?_)
  obtain ⟨rfl, N9q, eh9⟩ := hQ9
  have N9 := Fr.app N8 N9q
  refine g_iret X9 hx hby Bd.returns Bd.notSynchronized d14_78 eh9 (by decide) (by decide) ?_
  show (Q_idx1 Z a q sd t rk kr vs r0 ba h0 n0) (some (.int (-1 : Int32))) _ _
  exact ⟨by simp [own_ix1, hc37_5], N9, rfl⟩
 ·skip
  refine g_ifY X4 hx hby 62 d14_37 (flt (mt (lw_gt r0 t).mp hc37_5)).2.2.2 (by decide) (by decide) ?_
  refine g_aloadN X4 hx hby d14_62 rfl rfl ?_
  refine g_getF X4 hx hby hZ hown (host := "") (Or.inl w18_) Via.refl e4 FR d14_63 (fun T10 X10 e10 => ?_)
  refine g_iload X10 hx hby d14_66 rfl ?_
  refine g_iconst X10 hx hby (0 : Int32) d14_68 rfl ?_
  refine g_static X10 hx hby hZ hown (rm_mx_0_0 l Z a0 hw []  h0 n0 Z0 ) w118_ w119_ w6_ w120_ (by decide) e10 (by rw [hml]; rfl) [(.int (0 : Int32)), (.int (0 : Int32))] (lenOf own_pd5 rfl) rfl rfl (Nat.le_of_ble_eq_true rfl) (Nat.le_of_ble_eq_true rfl) (Nat.le_of_ble_eq_true rfl) (Nat.le_of_ble_eq_true rfl) d14_69 (fun v11 T11 L11 X11 hQ11 => ?_)
  obtain ⟨rfl, N11q, eh11⟩ := hQ11
  have N11 := Fr.app N1 N11q
  refine g_iload X11 hx hby d14_72 rfl ?_
  refine g_lloadN X11 hx hby d14_74 rfl ?_
  refine g_static X11 hx hby hZ hown (rm_bs_0_1 l Z a0 hw [] rk kr vs t r0 h0 n0 Z0 VR gr0) w121_ w122_ w123_ w124_ (by decide) eh11 (by rw [hml]; rfl) [(.ref rk), (.int (0 : Int32)), (.int (1 : Int32)), (.long t)] (lenOf own_pd3 rfl) rfl rfl (Nat.le_of_ble_eq_true rfl) (Nat.le_of_ble_eq_true rfl) (Nat.le_of_ble_eq_true rfl) (Nat.le_of_ble_eq_true rfl) d14_75 (fun v12 T12 L12 X12 hQ12 => ?_)
  obtain ⟨rfl, N12q, eh12⟩ := hQ12
  have N12 := Fr.app N11 N12q
  refine g_iret X12 hx hby Bd.returns Bd.notSynchronized d14_78 eh12 (by decide) (by decide) ?_
  show (Q_idx1 Z a q sd t rk kr vs r0 ba h0 n0) (some (.int (own_b (0 : Int32) t r0))) _ _
  exact ⟨by simp [own_ix1, hc37_5], N12, rfl⟩

def Q_rchk_1_2 (Z : State)  (h0 : Heap) (n0 : Nat) (v : Option Value) (h : Heap) (L : List Loc) : Prop := v = none ∧ Fr n0 L ∧ h = h0
set_option maxRecDepth 65536 in
set_option maxHeartbeats 40000000 in
theorem rm_rchk_1_2 (l : Launch) (Z : State) (a0 : Array Value) (hw : ∀ d ∈ tables_1, d.before a0 Z = true) (ws : List Jvm.Cond)  (h0 : Heap) (n0 : Nat) (Z0 : n0 ≤ h0.size) :
  MetFree l (⟨"java/util/Arrays", "rangeCheck", "(III)V"⟩ : MethodName) (head1 (Jvm.Cond.code (⟨"java/util/Arrays", "rangeCheck", "(III)V"⟩ : MethodName) jdk_65_method_30_code 3 none :: ws) ({ frames := 0, cells := 0, slots := 0, locals := 0 } : Room)) (fun aa_ U => aa_ = #[(.int (16 : Int32)), (.int (1 : Int32)), (.int (2 : Int32))] ∧ Z.Warmed39 U.vm ∧ U.heap = h0) (fun _ _ _ _ _ => True) (fun _ U o_ U' => RetG U (Q_rchk_1_2 Z h0 n0) 0 0 U' o_) := by
 refine MetFree.of_bodySF (plainFor_of_name own_pn4) hisR ?_
 intro p e s m args below meth c_ s₁ Bd hml0 hP hK
 obtain ⟨rfl, hZ, hh⟩ := hP
 have hx := Bd.exec
 have hby := Bd.bytes
 have hml : c_.maxLocals = 3 := hml0
 have hown : s.vm.findClass "java/util/Arrays" = some m.cls := findClass_of_methodNamed Bd.named
 have hnm := (name_of_methodNamed Bd.named Bd.method).1
 have X0 : Stand p l e ({ frames := 0, cells := 0, slots := 0, locals := 0 } : Room) s m #[(.int (16 : Int32)), (.int (1 : Int32)), (.int (2 : Int32))] below meth c_ s₁ [] 0 0 := Stand.of_body Bd
 have e0 : s₁.heap = h0 := by rw [← hh, Bd.state]; rfl
 have N0 := Fr.nil n0
 show Go p e below (RetG s (Q_rchk_1_2 Z h0 n0) 0 0) (s₁.setTop (entryFrame m #[(.int (16 : Int32)), (.int (1 : Int32)), (.int (2 : Int32))] 3))
 rw [show entryFrame m #[(.int (16 : Int32)), (.int (1 : Int32)), (.int (2 : Int32))] 3 = mkF m 0 #[.val (.int (16 : Int32)), .val (.int (1 : Int32)), .val (.int (2 : Int32))] [] from by first | (simp [entryFrame, mkF, argsToLocals, Value.category]; done) | rfl]
 refine g_iloadN X0 hx hby d18_0 rfl ?_
 refine g_iloadN X0 hx hby d18_1 rfl ?_
 refine g_icY X0 hx hby 46 d18_2 (flt (by decide : ¬ ((2 : Int32) < (1 : Int32)))).2.2.2 (by decide) (by decide) ?_
 refine g_iloadN X0 hx hby d18_46 rfl ?_
 refine g_ifY X0 hx hby 59 d18_47 (flt (by decide : ¬ ((1 : Int32) < (0 : Int32)))).2.1 (by decide) (by decide) ?_
 refine g_iloadN X0 hx hby d18_59 rfl ?_
 refine g_iloadN X0 hx hby d18_60 rfl ?_
 refine g_icY X0 hx hby 73 d18_61 (flt (by decide : ¬ ((16 : Int32) < (2 : Int32)))).2.2.2 (by decide) (by decide) ?_
 refine g_ret X0 hx hby Bd.returns Bd.notSynchronized d18_73 e0 (by decide) (by decide) ?_
 show (Q_rchk_1_2 Z h0 n0) none _ _
 exact ⟨rfl, N0, rfl⟩

def Q_bs0_1_2 (Z : State) (rk : Addr) (kr : ClassId) (vs : List Value) (t : Int64) (r : Int64) (h0 : Heap) (n0 : Nat) (v : Option Value) (h : Heap) (L : List Loc) : Prop := v = some (.int (own_b (1 : Int32) t r)) ∧ Fr n0 L ∧ h = h0
set_option maxRecDepth 65536 in
set_option maxHeartbeats 40000000 in
theorem rm_bs0_1_2 (l : Launch) (Z : State) (a0 : Array Value) (hw : ∀ d ∈ tables_1, d.before a0 Z = true) (ws : List Jvm.Cond) (rk : Addr) (kr : ClassId) (vs : List Value) (t : Int64) (r : Int64) (h0 : Heap) (n0 : Nat) (Z0 : n0 ≤ h0.size) (V : Arv Z h0 rk kr .long (16 : Int32) vs (.long (0 : Int64))) (gr : vs.getD 1 (.long (0 : Int64)) = .long r) :
  MetFree l (⟨"java/util/Arrays", "binarySearch0", "([JIIJ)I"⟩ : MethodName) (head1 (Jvm.Cond.code (⟨"java/util/Arrays", "binarySearch0", "([JIIJ)I"⟩ : MethodName) jdk_65_method_56_code 10 (some .int) :: ws) ({ frames := 0, cells := 0, slots := 0, locals := 0 } : Room)) (fun aa_ U => aa_ = #[(.ref rk), (.int (1 : Int32)), (.int (2 : Int32)), (.long t)] ∧ Z.Warmed39 U.vm ∧ U.heap = h0) (fun _ _ _ _ _ => True) (fun _ U o_ U' => RetG U (Q_bs0_1_2 Z rk kr vs t r h0 n0) 0 0 U' o_) := by
 refine MetFree.of_bodySF (plainFor_of_name own_pn4) hisR ?_
 intro p e s m args below meth c_ s₁ Bd hml0 hP hK
 obtain ⟨rfl, hZ, hh⟩ := hP
 have hx := Bd.exec
 have hby := Bd.bytes
 have hml : c_.maxLocals = 10 := hml0
 have hown : s.vm.findClass "java/util/Arrays" = some m.cls := findClass_of_methodNamed Bd.named
 have hnm := (name_of_methodNamed Bd.named Bd.method).1
 have X0 : Stand p l e ({ frames := 0, cells := 0, slots := 0, locals := 0 } : Room) s m #[(.ref rk), (.int (1 : Int32)), (.int (2 : Int32)), (.long t)] below meth c_ s₁ [] 0 0 := Stand.of_body Bd
 have e0 : s₁.heap = h0 := by rw [← hh, Bd.state]; rfl
 have N0 := Fr.nil n0
 show Go p e below (RetG s (Q_bs0_1_2 Z rk kr vs t r h0 n0) 0 0) (s₁.setTop (entryFrame m #[(.ref rk), (.int (1 : Int32)), (.int (2 : Int32)), (.long t)] 10))
 rw [show entryFrame m #[(.ref rk), (.int (1 : Int32)), (.int (2 : Int32)), (.long t)] 10 = mkF m 0 #[.val (.ref rk), .val (.int (1 : Int32)), .val (.int (2 : Int32)), .val (.long t), .second, .unset, .unset, .unset, .unset, .unset] [] from by first | (simp [entryFrame, mkF, argsToLocals, Value.category]; done) | rfl]
 refine g_iloadN X0 hx hby d19_0 rfl ?_
 refine g_istore X0 hx hby d19_1 (l' := #[.val (.ref rk), .val (.int (1 : Int32)), .val (.int (2 : Int32)), .val (.long t), .second, .val (.int (1 : Int32)), .unset, .unset, .unset, .unset]) rfl ?_
 refine g_iloadN X0 hx hby d19_3 rfl ?_
 refine g_iconst X0 hx hby (1 : Int32) d19_4 rfl ?_
 refine g_isub X0 hx hby d19_5 ?_
 refine g_topI (1 : Int32) (by decide) ?_
 refine g_istore X0 hx hby d19_6 (l' := #[.val (.ref rk), .val (.int (1 : Int32)), .val (.int (2 : Int32)), .val (.long t), .second, .val (.int (1 : Int32)), .val (.int (1 : Int32)), .unset, .unset, .unset]) rfl ?_
 refine g_iload X0 hx hby d19_8 rfl ?_
 refine g_iload X0 hx hby d19_10 rfl ?_
 refine g_icN X0 hx hby d19_12 (flt (by decide : ¬ ((1 : Int32) < (1 : Int32)))).2.2.1 ?_
 refine g_iload X0 hx hby d19_15 rfl ?_
 refine g_iload X0 hx hby d19_17 rfl ?_
 refine g_iadd X0 hx hby d19_19 ?_
 refine g_topI (2 : Int32) (by decide) ?_
 refine g_iconst X0 hx hby (1 : Int32) d19_20 rfl ?_
 refine g_iushr X0 hx hby d19_21 ?_
 refine g_topI (1 : Int32) (by decide) ?_
 refine g_istore X0 hx hby d19_22 (l' := #[.val (.ref rk), .val (.int (1 : Int32)), .val (.int (2 : Int32)), .val (.long t), .second, .val (.int (1 : Int32)), .val (.int (1 : Int32)), .val (.int (1 : Int32)), .unset, .unset]) rfl ?_
 refine g_aloadN X0 hx hby d19_24 rfl rfl ?_
 refine g_iload X0 hx hby d19_25 rfl ?_
 refine g_laload X0 hx hby hZ e0 V (.long r) ⟨by decide, by decide⟩ (by exact gr) d19_27 ?_
 refine g_lstore X0 hx hby d19_28 (l' := #[.val (.ref rk), .val (.int (1 : Int32)), .val (.int (2 : Int32)), .val (.long t), .second, .val (.int (1 : Int32)), .val (.int (1 : Int32)), .val (.int (1 : Int32)), .val (.long r), .second]) rfl ?_
 refine g_lload X0 hx hby d19_30 rfl ?_
 refine g_lloadN X0 hx hby d19_32 rfl ?_
 refine g_lcmp X0 hx hby d19_33 ?_
 by_cases hc34_1 : r < t
 ·skip
  refine g_ifN X0 hx hby d19_34 (tlt ((lw_lt r t).mpr hc34_1)).2.1 ?_
  refine g_iload X0 hx hby d19_37 rfl ?_
  refine g_iconst X0 hx hby (1 : Int32) d19_39 rfl ?_
  refine g_at 40 rfl rfl rfl ?_
  refine g_iadd X0 hx hby d19_40 ?_
  refine g_topI (2 : Int32) (by decide) ?_
  refine g_istore X0 hx hby d19_41 (l' := #[.val (.ref rk), .val (.int (1 : Int32)), .val (.int (2 : Int32)), .val (.long t), .second, .val (.int (2 : Int32)), .val (.int (1 : Int32)), .val (.int (1 : Int32)), .val (.long r), .second]) rfl ?_
  refine g_goto X0 hx hby 65 d19_43 (by decide) (by decide) ?_
  refine g_goto X0 hx hby 8 d19_65 (by decide) (by decide) ?_
  refine g_iload X0 hx hby d19_8 rfl ?_
  refine g_iload X0 hx hby d19_10 rfl ?_
  refine g_icY X0 hx hby 68 d19_12 (tlt (by decide : (1 : Int32) < (2 : Int32))).2.2.1 (by decide) (by decide) ?_
  refine g_iload X0 hx hby d19_68 rfl ?_
  refine g_iconst X0 hx hby (1 : Int32) d19_70 rfl ?_
  refine g_iadd X0 hx hby d19_71 ?_
  refine g_topI (3 : Int32) (by decide) ?_
  refine g_ineg X0 hx hby d19_72 ?_
  refine g_topI (-3 : Int32) (by decide) ?_
  refine g_iret X0 hx hby Bd.returns Bd.notSynchronized d19_73 e0 (by decide) (by decide) ?_
  show (Q_bs0_1_2 Z rk kr vs t r h0 n0) (some (.int (-3 : Int32))) _ _
  exact ⟨by simp [own_b, hc34_1], N0, rfl⟩
 ·skip
  refine g_ifY X0 hx hby 46 d19_34 (flt (mt (lw_lt r t).mp hc34_1)).2.1 (by decide) (by decide) ?_
  refine g_lload X0 hx hby d19_46 rfl ?_
  refine g_lloadN X0 hx hby d19_48 rfl ?_
  refine g_lcmp X0 hx hby d19_49 ?_
  by_cases hc50_2 : t < r
  ·skip
   refine g_ifN X0 hx hby d19_50 (tlt ((lw_gt r t).mpr hc50_2)).2.2.2 ?_
   refine g_iload X0 hx hby d19_53 rfl ?_
   refine g_iconst X0 hx hby (1 : Int32) d19_55 rfl ?_
   refine g_isub X0 hx hby d19_56 ?_
   refine g_topI (0 : Int32) (by decide) ?_
   refine g_istore X0 hx hby d19_57 (l' := #[.val (.ref rk), .val (.int (1 : Int32)), .val (.int (2 : Int32)), .val (.long t), .second, .val (.int (1 : Int32)), .val (.int (0 : Int32)), .val (.int (1 : Int32)), .val (.long r), .second]) rfl ?_
   refine g_goto X0 hx hby 65 d19_59 (by decide) (by decide) ?_
   refine g_goto X0 hx hby 8 d19_65 (by decide) (by decide) ?_
   refine g_iload X0 hx hby d19_8 rfl ?_
   refine g_iload X0 hx hby d19_10 rfl ?_
   refine g_icY X0 hx hby 68 d19_12 (tlt (by decide : (0 : Int32) < (1 : Int32))).2.2.1 (by decide) (by decide) ?_
   refine g_iload X0 hx hby d19_68 rfl ?_
   refine g_iconst X0 hx hby (1 : Int32) d19_70 rfl ?_
   refine g_iadd X0 hx hby d19_71 ?_
   refine g_topI (2 : Int32) (by decide) ?_
   refine g_ineg X0 hx hby d19_72 ?_
   refine g_topI (-2 : Int32) (by decide) ?_
   refine g_iret X0 hx hby Bd.returns Bd.notSynchronized d19_73 e0 (by decide) (by decide) ?_
   show (Q_bs0_1_2 Z rk kr vs t r h0 n0) (some (.int (-2 : Int32))) _ _
   exact ⟨by simp [own_b, hc34_1, hc50_2], N0, rfl⟩
  ·skip
   refine g_ifY X0 hx hby 62 d19_50 (flt (mt (lw_gt r t).mp hc50_2)).2.2.2 (by decide) (by decide) ?_
   refine g_iload X0 hx hby d19_62 rfl ?_
   refine g_iret X0 hx hby Bd.returns Bd.notSynchronized d19_64 e0 (by decide) (by decide) ?_
   show (Q_bs0_1_2 Z rk kr vs t r h0 n0) (some (.int (1 : Int32))) _ _
   exact ⟨by simp [own_b, hc34_1, hc50_2], N0, rfl⟩

def Q_bs_1_2 (Z : State) (rk : Addr) (kr : ClassId) (vs : List Value) (t : Int64) (r : Int64) (h0 : Heap) (n0 : Nat) (v : Option Value) (h : Heap) (L : List Loc) : Prop := v = some (.int (own_b (1 : Int32) t r)) ∧ Fr n0 L ∧ h = h0
set_option maxRecDepth 65536 in
set_option maxHeartbeats 40000000 in
theorem rm_bs_1_2 (l : Launch) (Z : State) (a0 : Array Value) (hw : ∀ d ∈ tables_1, d.before a0 Z = true) (ws : List Jvm.Cond) (rk : Addr) (kr : ClassId) (vs : List Value) (t : Int64) (r : Int64) (h0 : Heap) (n0 : Nat) (Z0 : n0 ≤ h0.size) (V : Arv Z h0 rk kr .long (16 : Int32) vs (.long (0 : Int64))) (gr : vs.getD 1 (.long (0 : Int64)) = .long r) :
  MetFree l (⟨"java/util/Arrays", "binarySearch", "([JIIJ)I"⟩ : MethodName) (head1 (Jvm.Cond.code (⟨"java/util/Arrays", "binarySearch", "([JIIJ)I"⟩ : MethodName) jdk_65_method_55_code 5 (some .int) :: ws) ({ frames := 1, cells := 0, slots := 0, locals := 21 } : Room)) (fun aa_ U => aa_ = #[(.ref rk), (.int (1 : Int32)), (.int (2 : Int32)), (.long t)] ∧ Z.Warmed39 U.vm ∧ U.heap = h0) (fun _ _ _ _ _ => True) (fun _ U o_ U' => RetG U (Q_bs_1_2 Z rk kr vs t r h0 n0) 0 0 U' o_) := by
 refine MetFree.of_bodySF (plainFor_of_name own_pn4) hisR ?_
 intro p e s m args below meth c_ s₁ Bd hml0 hP hK
 obtain ⟨rfl, hZ, hh⟩ := hP
 have hx := Bd.exec
 have hby := Bd.bytes
 have hml : c_.maxLocals = 5 := hml0
 have hown : s.vm.findClass "java/util/Arrays" = some m.cls := findClass_of_methodNamed Bd.named
 have hnm := (name_of_methodNamed Bd.named Bd.method).1
 have X0 : Stand p l e ({ frames := 1, cells := 0, slots := 0, locals := 21 } : Room) s m #[(.ref rk), (.int (1 : Int32)), (.int (2 : Int32)), (.long t)] below meth c_ s₁ [] 0 0 := Stand.of_body Bd
 have e0 : s₁.heap = h0 := by rw [← hh, Bd.state]; rfl
 have N0 := Fr.nil n0
 have w123_ := hw _ (List.mem_of_getElem? (i := 123) rfl)
 have w125_ := hw _ (List.mem_of_getElem? (i := 125) rfl)
 have w126_ := hw _ (List.mem_of_getElem? (i := 126) rfl)
 have w127_ := hw _ (List.mem_of_getElem? (i := 127) rfl)
 have w128_ := hw _ (List.mem_of_getElem? (i := 128) rfl)
 have w129_ := hw _ (List.mem_of_getElem? (i := 129) rfl)
 have w130_ := hw _ (List.mem_of_getElem? (i := 130) rfl)
 show Go p e below (RetG s (Q_bs_1_2 Z rk kr vs t r h0 n0) 0 0) (s₁.setTop (entryFrame m #[(.ref rk), (.int (1 : Int32)), (.int (2 : Int32)), (.long t)] 5))
 rw [show entryFrame m #[(.ref rk), (.int (1 : Int32)), (.int (2 : Int32)), (.long t)] 5 = mkF m 0 #[.val (.ref rk), .val (.int (1 : Int32)), .val (.int (2 : Int32)), .val (.long t), .second] [] from by first | (simp [entryFrame, mkF, argsToLocals, Value.category]; done) | rfl]
 refine g_aloadN X0 hx hby d17_0 rfl rfl ?_
 refine g_arraylength X0 hx hby hZ e0 V d17_1 ?_
 refine g_iloadN X0 hx hby d17_2 rfl ?_
 refine g_iloadN X0 hx hby d17_3 rfl ?_
 refine g_static X0 hx hby hZ hown (rm_rchk_1_2 l Z a0 hw []  h0 n0 Z0 ) w125_ w126_ w123_ w127_ (by decide) e0 (by rw [hml]; rfl) [(.int (16 : Int32)), (.int (1 : Int32)), (.int (2 : Int32))] (lenOf own_pd2 rfl) rfl rfl (Nat.le_of_ble_eq_true rfl) (Nat.le_of_ble_eq_true rfl) (Nat.le_of_ble_eq_true rfl) (Nat.le_of_ble_eq_true rfl) d17_4 (fun v1 T1 L1 X1 hQ1 => ?_)
 obtain ⟨rfl, N1q, eh1⟩ := hQ1
 have N1 := Fr.app N0 N1q
 refine g_aloadN X1 hx hby d17_7 rfl rfl ?_
 refine g_iloadN X1 hx hby d17_8 rfl ?_
 refine g_iloadN X1 hx hby d17_9 rfl ?_
 refine g_lloadN X1 hx hby d17_10 rfl ?_
 refine g_static X1 hx hby hZ hown (rm_bs0_1_2 l Z a0 hw [] rk kr vs t r h0 n0 Z0 V gr) w128_ w129_ w123_ w130_ (by decide) eh1 (by rw [hml]; rfl) [(.ref rk), (.int (1 : Int32)), (.int (2 : Int32)), (.long t)] (lenOf own_pd3 rfl) rfl rfl (Nat.le_of_ble_eq_true rfl) (Nat.le_of_ble_eq_true rfl) (Nat.le_of_ble_eq_true rfl) (Nat.le_of_ble_eq_true rfl) d17_11 (fun v2 T2 L2 X2 hQ2 => ?_)
 obtain ⟨rfl, N2q, eh2⟩ := hQ2
 have N2 := Fr.app N1 N2q
 refine g_iret X2 hx hby Bd.returns Bd.notSynchronized d17_14 eh2 (by decide) (by decide) ?_
 show (Q_bs_1_2 Z rk kr vs t r h0 n0) (some (.int (own_b (1 : Int32) t r))) _ _
 exact ⟨rfl, N2, rfl⟩

def Q_mx_m2_0 (Z : State)  (h0 : Heap) (n0 : Nat) (v : Option Value) (h : Heap) (L : List Loc) : Prop := v = some (.int (0 : Int32)) ∧ Fr n0 L ∧ h = h0
set_option maxRecDepth 65536 in
set_option maxHeartbeats 40000000 in
theorem rm_mx_m2_0 (l : Launch) (Z : State) (a0 : Array Value) (hw : ∀ d ∈ tables_1, d.before a0 Z = true) (ws : List Jvm.Cond)  (h0 : Heap) (n0 : Nat) (Z0 : n0 ≤ h0.size) :
  MetFree l (⟨"java/lang/Math", "max", "(II)I"⟩ : MethodName) (head1 (Jvm.Cond.code (⟨"java/lang/Math", "max", "(II)I"⟩ : MethodName) jdk_29_method_65_code 2 (some .int) :: ws) ({ frames := 0, cells := 0, slots := 0, locals := 0 } : Room)) (fun aa_ U => aa_ = #[(.int (-2 : Int32)), (.int (0 : Int32))] ∧ Z.Warmed39 U.vm ∧ U.heap = h0) (fun _ _ _ _ _ => True) (fun _ U o_ U' => RetG U (Q_mx_m2_0 Z h0 n0) 0 0 U' o_) := by
 refine MetFree.of_bodySF (Jvm.Free.JP.mathPlain rfl (by decide +kernel)) hisR ?_
 intro p e s m args below meth c_ s₁ Bd hml0 hP hK
 obtain ⟨rfl, hZ, hh⟩ := hP
 have hx := Bd.exec
 have hby := Bd.bytes
 have hml : c_.maxLocals = 2 := hml0
 have hown : s.vm.findClass "java/lang/Math" = some m.cls := findClass_of_methodNamed Bd.named
 have hnm := (name_of_methodNamed Bd.named Bd.method).1
 have X0 : Stand p l e ({ frames := 0, cells := 0, slots := 0, locals := 0 } : Room) s m #[(.int (-2 : Int32)), (.int (0 : Int32))] below meth c_ s₁ [] 0 0 := Stand.of_body Bd
 have e0 : s₁.heap = h0 := by rw [← hh, Bd.state]; rfl
 have N0 := Fr.nil n0
 show Go p e below (RetG s (Q_mx_m2_0 Z h0 n0) 0 0) (s₁.setTop (entryFrame m #[(.int (-2 : Int32)), (.int (0 : Int32))] 2))
 rw [show entryFrame m #[(.int (-2 : Int32)), (.int (0 : Int32))] 2 = mkF m 0 #[.val (.int (-2 : Int32)), .val (.int (0 : Int32))] [] from by first | (simp [entryFrame, mkF, argsToLocals, Value.category]; done) | rfl]
 refine g_iloadN X0 hx hby d16_0 rfl ?_
 refine g_iloadN X0 hx hby d16_1 rfl ?_
 refine g_icY X0 hx hby 9 d16_2 (tlt (by decide : (-2 : Int32) < (0 : Int32))).1 (by decide) (by decide) ?_
 refine g_iloadN X0 hx hby d16_9 rfl ?_
 refine g_iret X0 hx hby Bd.returns Bd.notSynchronized d16_10 e0 (by decide) (by decide) ?_
 show (Q_mx_m2_0 Z h0 n0) (some (.int (0 : Int32))) _ _
 exact ⟨rfl, N0, rfl⟩

def Q_mx_1_0 (Z : State)  (h0 : Heap) (n0 : Nat) (v : Option Value) (h : Heap) (L : List Loc) : Prop := v = some (.int (1 : Int32)) ∧ Fr n0 L ∧ h = h0
set_option maxRecDepth 65536 in
set_option maxHeartbeats 40000000 in
theorem rm_mx_1_0 (l : Launch) (Z : State) (a0 : Array Value) (hw : ∀ d ∈ tables_1, d.before a0 Z = true) (ws : List Jvm.Cond)  (h0 : Heap) (n0 : Nat) (Z0 : n0 ≤ h0.size) :
  MetFree l (⟨"java/lang/Math", "max", "(II)I"⟩ : MethodName) (head1 (Jvm.Cond.code (⟨"java/lang/Math", "max", "(II)I"⟩ : MethodName) jdk_29_method_65_code 2 (some .int) :: ws) ({ frames := 0, cells := 0, slots := 0, locals := 0 } : Room)) (fun aa_ U => aa_ = #[(.int (1 : Int32)), (.int (0 : Int32))] ∧ Z.Warmed39 U.vm ∧ U.heap = h0) (fun _ _ _ _ _ => True) (fun _ U o_ U' => RetG U (Q_mx_1_0 Z h0 n0) 0 0 U' o_) := by
 refine MetFree.of_bodySF (Jvm.Free.JP.mathPlain rfl (by decide +kernel)) hisR ?_
 intro p e s m args below meth c_ s₁ Bd hml0 hP hK
 obtain ⟨rfl, hZ, hh⟩ := hP
 have hx := Bd.exec
 have hby := Bd.bytes
 have hml : c_.maxLocals = 2 := hml0
 have hown : s.vm.findClass "java/lang/Math" = some m.cls := findClass_of_methodNamed Bd.named
 have hnm := (name_of_methodNamed Bd.named Bd.method).1
 have X0 : Stand p l e ({ frames := 0, cells := 0, slots := 0, locals := 0 } : Room) s m #[(.int (1 : Int32)), (.int (0 : Int32))] below meth c_ s₁ [] 0 0 := Stand.of_body Bd
 have e0 : s₁.heap = h0 := by rw [← hh, Bd.state]; rfl
 have N0 := Fr.nil n0
 show Go p e below (RetG s (Q_mx_1_0 Z h0 n0) 0 0) (s₁.setTop (entryFrame m #[(.int (1 : Int32)), (.int (0 : Int32))] 2))
 rw [show entryFrame m #[(.int (1 : Int32)), (.int (0 : Int32))] 2 = mkF m 0 #[.val (.int (1 : Int32)), .val (.int (0 : Int32))] [] from by first | (simp [entryFrame, mkF, argsToLocals, Value.category]; done) | rfl]
 refine g_iloadN X0 hx hby d16_0 rfl ?_
 refine g_iloadN X0 hx hby d16_1 rfl ?_
 refine g_icN X0 hx hby d16_2 (flt (by decide : ¬ ((1 : Int32) < (0 : Int32)))).1 ?_
 refine g_iloadN X0 hx hby d16_5 rfl ?_
 refine g_goto X0 hx hby 10 d16_6 (by decide) (by decide) ?_
 refine g_iret X0 hx hby Bd.returns Bd.notSynchronized d16_10 e0 (by decide) (by decide) ?_
 show (Q_mx_1_0 Z h0 n0) (some (.int (1 : Int32))) _ _
 exact ⟨rfl, N0, rfl⟩

def Q_idx2 (Z : State) (a : Addr) (q : Int64) (sd : Addr) (t : Int64) (rk : Addr) (kr : ClassId) (vs : List Value) (r0 : Int64) (r1 : Int64) (ba : Addr) (h0 : Heap) (n0 : Nat) (v : Option Value) (h : Heap) (L : List Loc) : Prop := v = some (.int (own_ix2 t r0 r1)) ∧ Fr n0 L ∧ h = h0
set_option maxRecDepth 65536 in
set_option maxHeartbeats 40000000 in
theorem rm_idx2 (l : Launch) (Z : State) (a0 : Array Value) (hw : ∀ d ∈ tables_1, d.before a0 Z = true) (ws : List Jvm.Cond) (a : Addr) (q : Int64) (sd : Addr) (t : Int64) (rk : Addr) (kr : ClassId) (vs : List Value) (r0 : Int64) (r1 : Int64) (ba : Addr) (h0 : Heap) (n0 : Nat) (Z0 : n0 ≤ h0.size) (SB : Sta Z Z.heap "com/example/tidegate/tidegate/engine/Side" "BUY" "Lcom/example/tidegate/tidegate/engine/Side;" (.ref ba)) (OLD : Old Z n0 h0) (EB : Exa Z h0 a "com/example/tidegate/tidegate/engine/BookSide") (FS : Fld Z h0 a "com/example/tidegate/tidegate/engine/BookSide" "side" "Lcom/example/tidegate/tidegate/engine/Side;" (.ref sd)) (FR : Fld Z h0 a "com/example/tidegate/tidegate/engine/BookSide" "ranks" "[J" (.ref rk)) (FN : Fld Z h0 a "com/example/tidegate/tidegate/engine/BookSide" "levelCount" "I" (.int (2 : Int32))) (ht : t = if sd = ba then q else -q) (VR : Arv Z h0 rk kr .long (16 : Int32) vs (.long (0 : Int64))) (gr0 : vs.getD 0 (.long (0 : Int64)) = .long r0) (gr1 : vs.getD 1 (.long (0 : Int64)) = .long r1) :
  MetFree l (⟨"com/example/tidegate/tidegate/engine/BookSide", "indexOf", "(J)I"⟩ : MethodName) (head1 (Jvm.Cond.code (⟨"com/example/tidegate/tidegate/engine/BookSide", "indexOf", "(J)I"⟩ : MethodName) prog_2_method_12_code 8 (some .int) :: ws) ({ frames := 4, cells := 0, slots := 0, locals := 120 } : Room)) (fun aa_ U => aa_ = #[(.ref a), (.long q)] ∧ Z.Warmed39 U.vm ∧ U.heap = h0) (fun _ _ _ _ _ => True) (fun _ U o_ U' => RetG U (Q_idx2 Z a q sd t rk kr vs r0 r1 ba h0 n0) 0 0 U' o_) := by
 refine MetFree.of_bodySF (plainFor_of_name own_pn1) hisR ?_
 intro p e s m args below meth c_ s₁ Bd hml0 hP hK
 obtain ⟨rfl, hZ, hh⟩ := hP
 have hx := Bd.exec
 have hby := Bd.bytes
 have hml : c_.maxLocals = 8 := hml0
 have hown : s.vm.findClass "com/example/tidegate/tidegate/engine/BookSide" = some m.cls := findClass_of_methodNamed Bd.named
 have hnm := (name_of_methodNamed Bd.named Bd.method).1
 have X0 : Stand p l e ({ frames := 4, cells := 0, slots := 0, locals := 120 } : Room) s m #[(.ref a), (.long q)] below meth c_ s₁ [] 0 0 := Stand.of_body Bd
 have e0 : s₁.heap = h0 := by rw [← hh, Bd.state]; rfl
 have N0 := Fr.nil n0
 have w6_ := hw _ (List.mem_of_getElem? (i := 6) rfl)
 have w9_ := hw _ (List.mem_of_getElem? (i := 9) rfl)
 have w10_ := hw _ (List.mem_of_getElem? (i := 10) rfl)
 have w18_ := hw _ (List.mem_of_getElem? (i := 18) rfl)
 have w67_ := hw _ (List.mem_of_getElem? (i := 67) rfl)
 have w113_ := hw _ (List.mem_of_getElem? (i := 113) rfl)
 have w114_ := hw _ (List.mem_of_getElem? (i := 114) rfl)
 have w115_ := hw _ (List.mem_of_getElem? (i := 115) rfl)
 have w116_ := hw _ (List.mem_of_getElem? (i := 116) rfl)
 have w118_ := hw _ (List.mem_of_getElem? (i := 118) rfl)
 have w119_ := hw _ (List.mem_of_getElem? (i := 119) rfl)
 have w120_ := hw _ (List.mem_of_getElem? (i := 120) rfl)
 have w121_ := hw _ (List.mem_of_getElem? (i := 121) rfl)
 have w122_ := hw _ (List.mem_of_getElem? (i := 122) rfl)
 have w123_ := hw _ (List.mem_of_getElem? (i := 123) rfl)
 have w124_ := hw _ (List.mem_of_getElem? (i := 124) rfl)
 show Go p e below (RetG s (Q_idx2 Z a q sd t rk kr vs r0 r1 ba h0 n0) 0 0) (s₁.setTop (entryFrame m #[(.ref a), (.long q)] 8))
 rw [show entryFrame m #[(.ref a), (.long q)] 8 = mkF m 0 #[.val (.ref a), .val (.long q), .second, .unset, .unset, .unset, .unset, .unset] [] from by first | (simp [entryFrame, mkF, argsToLocals, Value.category]; done) | rfl]
 refine g_aloadN X0 hx hby d14_0 rfl rfl ?_
 refine g_lloadN X0 hx hby d14_1 rfl ?_
 refine g_private X0 hx hby hZ hown (rm_rank l Z a0 hw [] a q sd t ba h0 n0 Z0 SB OLD FS ht) w113_ w114_ w9_ w115_ w10_ w116_ (by decide) e0 EB (by rw [hml]; rfl) [(.long q)] (lenOf own_pd4 rfl) rfl rfl (Nat.le_of_ble_eq_true rfl) (Nat.le_of_ble_eq_true rfl) (Nat.le_of_ble_eq_true rfl) (Nat.le_of_ble_eq_true rfl) d14_2 (fun v1 T1 L1 X1 hQ1 => ?_)
 obtain ⟨rfl, N1q, eh1⟩ := hQ1
 have N1 := Fr.app N0 N1q
 refine g_lstoreN X1 hx hby d14_5 (l' := #[.val (.ref a), .val (.long q), .second, .val (.long t), .second, .unset, .unset, .unset]) rfl ?_
 refine g_aloadN X1 hx hby d14_6 rfl rfl ?_
 refine g_getF X1 hx hby hZ hown (host := "") (Or.inl w67_) Via.refl eh1 FN d14_7 (fun T2 X2 e2 => ?_)
 refine g_istore X2 hx hby d14_10 (l' := #[.val (.ref a), .val (.long q), .second, .val (.long t), .second, .val (.int (2 : Int32)), .unset, .unset]) rfl ?_
 refine g_iconst X2 hx hby (1 : Int32) d14_12 rfl ?_
 refine g_istore X2 hx hby d14_13 (l' := #[.val (.ref a), .val (.long q), .second, .val (.long t), .second, .val (.int (2 : Int32)), .val (.int (1 : Int32)), .unset]) rfl ?_
 refine g_aloadN X2 hx hby d14_15 rfl rfl ?_
 refine g_getF X2 hx hby hZ hown (host := "") (Or.inl w67_) Via.refl e2 FN d14_16 (fun T3 X3 e3 => ?_)
 refine g_iconst X3 hx hby (1 : Int32) d14_19 rfl ?_
 refine g_isub X3 hx hby d14_20 ?_
 refine g_topI (1 : Int32) (by decide) ?_
 refine g_istore X3 hx hby d14_21 (l' := #[.val (.ref a), .val (.long q), .second, .val (.long t), .second, .val (.int (2 : Int32)), .val (.int (1 : Int32)), .val (.int (1 : Int32))]) rfl ?_
 refine g_iload X3 hx hby d14_23 rfl ?_
 refine g_ifN X3 hx hby d14_25 (flt (by decide : ¬ ((1 : Int32) < (0 : Int32)))).1 ?_
 refine g_aloadN X3 hx hby d14_28 rfl rfl ?_
 refine g_getF X3 hx hby hZ hown (host := "") (Or.inl w18_) Via.refl e3 FR d14_29 (fun T4 X4 e4 => ?_)
 refine g_iload X4 hx hby d14_32 rfl ?_
 refine g_laload X4 hx hby hZ e4 VR (.long r1) ⟨by decide, by decide⟩ (by exact gr1) d14_34 ?_
 refine g_at 35 rfl rfl rfl ?_
 refine g_lloadN X4 hx hby d14_35 rfl ?_
 refine g_lcmp X4 hx hby d14_36 ?_
 by_cases hc37_5 : t < r1
 ·skip
  refine g_ifN X4 hx hby d14_37 (tlt ((lw_gt r1 t).mpr hc37_5)).2.2.2 ?_
  refine g_iload X4 hx hby d14_40 rfl ?_
  refine g_istore X4 hx hby d14_42 (l' := #[.val (.ref a), .val (.long q), .second, .val (.long t), .second, .val (.int (1 : Int32)), .val (.int (1 : Int32)), .val (.int (1 : Int32))]) rfl ?_
  refine g_iload X4 hx hby d14_44 rfl ?_
  refine g_iconst X4 hx hby (2 : Int32) d14_46 rfl ?_
  refine g_imul X4 hx hby d14_47 ?_
  refine g_topI (2 : Int32) (by decide) ?_
  refine g_istore X4 hx hby d14_48 (l' := #[.val (.ref a), .val (.long q), .second, .val (.long t), .second, .val (.int (1 : Int32)), .val (.int (2 : Int32)), .val (.int (1 : Int32))]) rfl ?_
  refine g_aloadN X4 hx hby d14_50 rfl rfl ?_
  refine g_getF X4 hx hby hZ hown (host := "") (Or.inl w67_) Via.refl e4 FN d14_51 (fun T6 X6 e6 => ?_)
  refine g_iload X6 hx hby d14_54 rfl ?_
  refine g_isub X6 hx hby d14_56 ?_
  refine g_topI (0 : Int32) (by decide) ?_
  refine g_istore X6 hx hby d14_57 (l' := #[.val (.ref a), .val (.long q), .second, .val (.long t), .second, .val (.int (1 : Int32)), .val (.int (2 : Int32)), .val (.int (0 : Int32))]) rfl ?_
  refine g_goto X6 hx hby 23 d14_59 (by decide) (by decide) ?_
  refine g_iload X6 hx hby d14_23 rfl ?_
  refine g_ifN X6 hx hby d14_25 (flt (by decide : ¬ ((0 : Int32) < (0 : Int32)))).1 ?_
  refine g_aloadN X6 hx hby d14_28 rfl rfl ?_
  refine g_getF X6 hx hby hZ hown (host := "") (Or.inl w18_) Via.refl e6 FR d14_29 (fun T7 X7 e7 => ?_)
  refine g_iload X7 hx hby d14_32 rfl ?_
  refine g_laload X7 hx hby hZ e7 VR (.long r0) ⟨by decide, by decide⟩ (by exact gr0) d14_34 ?_
  refine g_lloadN X7 hx hby d14_35 rfl ?_
  refine g_lcmp X7 hx hby d14_36 ?_
  by_cases hc37_8 : t < r0
  ·skip
   refine g_ifN X7 hx hby d14_37 (tlt ((lw_gt r0 t).mpr hc37_8)).2.2.2 ?_
   refine g_iload X7 hx hby d14_40 rfl ?_
   refine g_istore X7 hx hby d14_42 (l' := #[.val (.ref a), .val (.long q), .second, .val (.long t), .second, .val (.int (0 : Int32)), .val (.int (2 : Int32)), .val (.int (0 : Int32))]) rfl ?_
   refine g_iload X7 hx hby d14_44 rfl ?_
   refine g_iconst X7 hx hby (2 : Int32) d14_46 rfl ?_
   refine g_imul X7 hx hby d14_47 ?_
   refine g_topI (4 : Int32) (by decide) ?_
   refine g_istore X7 hx hby d14_48 (l' := #[.val (.ref a), .val (.long q), .second, .val (.long t), .second, .val (.int (0 : Int32)), .val (.int (4 : Int32)), .val (.int (0 : Int32))]) rfl ?_
   refine g_aloadN X7 hx hby d14_50 rfl rfl ?_
   refine g_getF X7 hx hby hZ hown (host := "") (Or.inl w67_) Via.refl e7 FN d14_51 (fun T9 X9 e9 => ?_)
   refine g_iload X9 hx hby d14_54 rfl ?_
   refine g_isub X9 hx hby d14_56 ?_
   refine g_topI (-2 : Int32) (by decide) ?_
   refine g_istore X9 hx hby d14_57 (l' := #[.val (.ref a), .val (.long q), .second, .val (.long t), .second, .val (.int (0 : Int32)), .val (.int (4 : Int32)), .val (.int (-2 : Int32))]) rfl ?_
   refine g_goto X9 hx hby 23 d14_59 (by decide) (by decide) ?_
   refine g_iload X9 hx hby d14_23 rfl ?_
   refine g_ifY X9 hx hby 62 d14_25 (tlt (by decide : (-2 : Int32) < (0 : Int32))).1 (by decide) (by decide) ?_
   refine g_aloadN X9 hx hby d14_62 rfl rfl ?_
   refine g_getF X9 hx hby hZ hown (host := "") (Or.inl w18_) Via.refl e9 FR d14_63 (fun T10 X10 e10 => ?_)
   refine g_iload X10 hx hby d14_66 rfl ?_
   refine g_iconst X10 hx hby (0 : Int32) d14_68 rfl ?_
   refine g_static X10 hx hby hZ hown (rm_mx_m2_0 l Z a0 hw []  h0 n0 Z0 ) w118_ w119_ w6_ w120_ (by decide) e10 (by rw [hml]; rfl) [(.int (-2 : Int32)), (.int (0 : Int32))] (lenOf own_pd5 rfl) rfl rfl (Nat.le_of_ble_eq_true rfl) (Nat.le_of_ble_eq_true rfl) (Nat.le_of_ble_eq_true rfl) (Nat.le_of_ble_eq_true rfl) d14_69 (fun v11 T11 L11 X11 hQ11 => ?_)
   obtain ⟨rfl, N11q, eh11⟩ := hQ11
   have N11 := Fr.app N1 N11q
   refine g_iload X11 hx hby d14_72 rfl ?_
   refine g_lloadN X11 hx hby d14_74 rfl ?_
   refine g_static X11 hx hby hZ hown (rm_bs_0_0 l Z a0 hw [] rk kr vs t h0 n0 Z0 VR) w121_ w122_ w123_ w124_ (by decide) eh11 (by rw [hml]; rfl) [(.ref rk), (.int (0 : Int32)), (.int (0 : Int32)), (.long t)] (lenOf own_pd3 rfl) rfl rfl (Nat.le_of_ble_eq_true rfl) (Nat.le_of_ble_eq_true rfl) (Nat.le_of_ble_eq_true rfl) (Nat.le_of_ble_eq_true rfl) d14_75 (fun v12 T12 L12 X12 hQ12 => ?_)
   obtain ⟨rfl, N12q, eh12⟩ := hQ12
   have N12 := Fr.app N11 N12q
   refine g_iret X12 hx hby Bd.returns Bd.notSynchronized d14_78 eh12 (by decide) (by decide) ?_
   show (Q_idx2 Z a q sd t rk kr vs r0 r1 ba h0 n0) (some (.int (-1 : Int32))) _ _
   exact ⟨by simp [own_ix2, hc37_5, hc37_8], N12, rfl⟩
  ·skip
   refine g_ifY X7 hx hby 62 d14_37 (flt (mt (lw_gt r0 t).mp hc37_8)).2.2.2 (by decide) (by decide) ?_
   refine g_aloadN X7 hx hby d14_62 rfl rfl ?_
   refine g_getF X7 hx hby hZ hown (host := "") (Or.inl w18_) Via.refl e7 FR d14_63 (fun T13 X13 e13 => ?_)
   refine g_iload X13 hx hby d14_66 rfl ?_
   refine g_iconst X13 hx hby (0 : Int32) d14_68 rfl ?_
   refine g_static X13 hx hby hZ hown (rm_mx_0_0 l Z a0 hw []  h0 n0 Z0 ) w118_ w119_ w6_ w120_ (by decide) e13 (by rw [hml]; rfl) [(.int (0 : Int32)), (.int (0 : Int32))] (lenOf own_pd5 rfl) rfl rfl (Nat.le_of_ble_eq_true rfl) (Nat.le_of_ble_eq_true rfl) (Nat.le_of_ble_eq_true rfl) (Nat.le_of_ble_eq_true rfl) d14_69 (fun v14 T14 L14 X14 hQ14 => ?_)
   obtain ⟨rfl, N14q, eh14⟩ := hQ14
   have N14 := Fr.app N1 N14q
   refine g_iload X14 hx hby d14_72 rfl ?_
   refine g_lloadN X14 hx hby d14_74 rfl ?_
   refine g_static X14 hx hby hZ hown (rm_bs_0_1 l Z a0 hw [] rk kr vs t r0 h0 n0 Z0 VR gr0) w121_ w122_ w123_ w124_ (by decide) eh14 (by rw [hml]; rfl) [(.ref rk), (.int (0 : Int32)), (.int (1 : Int32)), (.long t)] (lenOf own_pd3 rfl) rfl rfl (Nat.le_of_ble_eq_true rfl) (Nat.le_of_ble_eq_true rfl) (Nat.le_of_ble_eq_true rfl) (Nat.le_of_ble_eq_true rfl) d14_75 (fun v15 T15 L15 X15 hQ15 => ?_)
   obtain ⟨rfl, N15q, eh15⟩ := hQ15
   have N15 := Fr.app N14 N15q
   refine g_iret X15 hx hby Bd.returns Bd.notSynchronized d14_78 eh15 (by decide) (by decide) ?_
   show (Q_idx2 Z a q sd t rk kr vs r0 r1 ba h0 n0) (some (.int (own_b (0 : Int32) t r0))) _ _
   exact ⟨by simp [own_ix2, hc37_5, hc37_8], N15, rfl⟩
 ·skip
  refine g_ifY X4 hx hby 62 d14_37 (flt (mt (lw_gt r1 t).mp hc37_5)).2.2.2 (by decide) (by decide) ?_
  refine g_aloadN X4 hx hby d14_62 rfl rfl ?_
  refine g_getF X4 hx hby hZ hown (host := "") (Or.inl w18_) Via.refl e4 FR d14_63 (fun T16 X16 e16 => ?_)
  refine g_iload X16 hx hby d14_66 rfl ?_
  refine g_iconst X16 hx hby (0 : Int32) d14_68 rfl ?_
  refine g_static X16 hx hby hZ hown (rm_mx_1_0 l Z a0 hw []  h0 n0 Z0 ) w118_ w119_ w6_ w120_ (by decide) e16 (by rw [hml]; rfl) [(.int (1 : Int32)), (.int (0 : Int32))] (lenOf own_pd5 rfl) rfl rfl (Nat.le_of_ble_eq_true rfl) (Nat.le_of_ble_eq_true rfl) (Nat.le_of_ble_eq_true rfl) (Nat.le_of_ble_eq_true rfl) d14_69 (fun v17 T17 L17 X17 hQ17 => ?_)
  obtain ⟨rfl, N17q, eh17⟩ := hQ17
  have N17 := Fr.app N1 N17q
  refine g_iload X17 hx hby d14_72 rfl ?_
  refine g_lloadN X17 hx hby d14_74 rfl ?_
  refine g_static X17 hx hby hZ hown (rm_bs_1_2 l Z a0 hw [] rk kr vs t r1 h0 n0 Z0 VR gr1) w121_ w122_ w123_ w124_ (by decide) eh17 (by rw [hml]; rfl) [(.ref rk), (.int (1 : Int32)), (.int (2 : Int32)), (.long t)] (lenOf own_pd3 rfl) rfl rfl (Nat.le_of_ble_eq_true rfl) (Nat.le_of_ble_eq_true rfl) (Nat.le_of_ble_eq_true rfl) (Nat.le_of_ble_eq_true rfl) d14_75 (fun v18 T18 L18 X18 hQ18 => ?_)
  obtain ⟨rfl, N18q, eh18⟩ := hQ18
  have N18 := Fr.app N17 N18q
  refine g_iret X18 hx hby Bd.returns Bd.notSynchronized d14_78 eh18 (by decide) (by decide) ?_
  show (Q_idx2 Z a q sd t rk kr vs r0 r1 ba h0 n0) (some (.int (own_b (1 : Int32) t r1))) _ _
  exact ⟨by simp [own_ix2, hc37_5], N18, rfl⟩

def Q_rchk_2_3 (Z : State)  (h0 : Heap) (n0 : Nat) (v : Option Value) (h : Heap) (L : List Loc) : Prop := v = none ∧ Fr n0 L ∧ h = h0
set_option maxRecDepth 65536 in
set_option maxHeartbeats 40000000 in
theorem rm_rchk_2_3 (l : Launch) (Z : State) (a0 : Array Value) (hw : ∀ d ∈ tables_1, d.before a0 Z = true) (ws : List Jvm.Cond)  (h0 : Heap) (n0 : Nat) (Z0 : n0 ≤ h0.size) :
  MetFree l (⟨"java/util/Arrays", "rangeCheck", "(III)V"⟩ : MethodName) (head1 (Jvm.Cond.code (⟨"java/util/Arrays", "rangeCheck", "(III)V"⟩ : MethodName) jdk_65_method_30_code 3 none :: ws) ({ frames := 0, cells := 0, slots := 0, locals := 0 } : Room)) (fun aa_ U => aa_ = #[(.int (16 : Int32)), (.int (2 : Int32)), (.int (3 : Int32))] ∧ Z.Warmed39 U.vm ∧ U.heap = h0) (fun _ _ _ _ _ => True) (fun _ U o_ U' => RetG U (Q_rchk_2_3 Z h0 n0) 0 0 U' o_) := by
 refine MetFree.of_bodySF (plainFor_of_name own_pn4) hisR ?_
 intro p e s m args below meth c_ s₁ Bd hml0 hP hK
 obtain ⟨rfl, hZ, hh⟩ := hP
 have hx := Bd.exec
 have hby := Bd.bytes
 have hml : c_.maxLocals = 3 := hml0
 have hown : s.vm.findClass "java/util/Arrays" = some m.cls := findClass_of_methodNamed Bd.named
 have hnm := (name_of_methodNamed Bd.named Bd.method).1
 have X0 : Stand p l e ({ frames := 0, cells := 0, slots := 0, locals := 0 } : Room) s m #[(.int (16 : Int32)), (.int (2 : Int32)), (.int (3 : Int32))] below meth c_ s₁ [] 0 0 := Stand.of_body Bd
 have e0 : s₁.heap = h0 := by rw [← hh, Bd.state]; rfl
 have N0 := Fr.nil n0
 show Go p e below (RetG s (Q_rchk_2_3 Z h0 n0) 0 0) (s₁.setTop (entryFrame m #[(.int (16 : Int32)), (.int (2 : Int32)), (.int (3 : Int32))] 3))
 rw [show entryFrame m #[(.int (16 : Int32)), (.int (2 : Int32)), (.int (3 : Int32))] 3 = mkF m 0 #[.val (.int (16 : Int32)), .val (.int (2 : Int32)), .val (.int (3 : Int32))] [] from by first | (simp [entryFrame, mkF, argsToLocals, Value.category]; done) | rfl]
 refine g_iloadN X0 hx hby d18_0 rfl ?_
 refine g_iloadN X0 hx hby d18_1 rfl ?_
 refine g_icY X0 hx hby 46 d18_2 (flt (by decide : ¬ ((3 : Int32) < (2 : Int32)))).2.2.2 (by decide) (by decide) ?_
 refine g_iloadN X0 hx hby d18_46 rfl ?_
 refine g_ifY X0 hx hby 59 d18_47 (flt (by decide : ¬ ((2 : Int32) < (0 : Int32)))).2.1 (by decide) (by decide) ?_
 refine g_iloadN X0 hx hby d18_59 rfl ?_
 refine g_iloadN X0 hx hby d18_60 rfl ?_
 refine g_icY X0 hx hby 73 d18_61 (flt (by decide : ¬ ((16 : Int32) < (3 : Int32)))).2.2.2 (by decide) (by decide) ?_
 refine g_ret X0 hx hby Bd.returns Bd.notSynchronized d18_73 e0 (by decide) (by decide) ?_
 show (Q_rchk_2_3 Z h0 n0) none _ _
 exact ⟨rfl, N0, rfl⟩

def Q_bs0_2_3 (Z : State) (rk : Addr) (kr : ClassId) (vs : List Value) (t : Int64) (r : Int64) (h0 : Heap) (n0 : Nat) (v : Option Value) (h : Heap) (L : List Loc) : Prop := v = some (.int (own_b (2 : Int32) t r)) ∧ Fr n0 L ∧ h = h0
set_option maxRecDepth 65536 in
set_option maxHeartbeats 40000000 in
theorem rm_bs0_2_3 (l : Launch) (Z : State) (a0 : Array Value) (hw : ∀ d ∈ tables_1, d.before a0 Z = true) (ws : List Jvm.Cond) (rk : Addr) (kr : ClassId) (vs : List Value) (t : Int64) (r : Int64) (h0 : Heap) (n0 : Nat) (Z0 : n0 ≤ h0.size) (V : Arv Z h0 rk kr .long (16 : Int32) vs (.long (0 : Int64))) (gr : vs.getD 2 (.long (0 : Int64)) = .long r) :
  MetFree l (⟨"java/util/Arrays", "binarySearch0", "([JIIJ)I"⟩ : MethodName) (head1 (Jvm.Cond.code (⟨"java/util/Arrays", "binarySearch0", "([JIIJ)I"⟩ : MethodName) jdk_65_method_56_code 10 (some .int) :: ws) ({ frames := 0, cells := 0, slots := 0, locals := 0 } : Room)) (fun aa_ U => aa_ = #[(.ref rk), (.int (2 : Int32)), (.int (3 : Int32)), (.long t)] ∧ Z.Warmed39 U.vm ∧ U.heap = h0) (fun _ _ _ _ _ => True) (fun _ U o_ U' => RetG U (Q_bs0_2_3 Z rk kr vs t r h0 n0) 0 0 U' o_) := by
 refine MetFree.of_bodySF (plainFor_of_name own_pn4) hisR ?_
 intro p e s m args below meth c_ s₁ Bd hml0 hP hK
 obtain ⟨rfl, hZ, hh⟩ := hP
 have hx := Bd.exec
 have hby := Bd.bytes
 have hml : c_.maxLocals = 10 := hml0
 have hown : s.vm.findClass "java/util/Arrays" = some m.cls := findClass_of_methodNamed Bd.named
 have hnm := (name_of_methodNamed Bd.named Bd.method).1
 have X0 : Stand p l e ({ frames := 0, cells := 0, slots := 0, locals := 0 } : Room) s m #[(.ref rk), (.int (2 : Int32)), (.int (3 : Int32)), (.long t)] below meth c_ s₁ [] 0 0 := Stand.of_body Bd
 have e0 : s₁.heap = h0 := by rw [← hh, Bd.state]; rfl
 have N0 := Fr.nil n0
 show Go p e below (RetG s (Q_bs0_2_3 Z rk kr vs t r h0 n0) 0 0) (s₁.setTop (entryFrame m #[(.ref rk), (.int (2 : Int32)), (.int (3 : Int32)), (.long t)] 10))
 rw [show entryFrame m #[(.ref rk), (.int (2 : Int32)), (.int (3 : Int32)), (.long t)] 10 = mkF m 0 #[.val (.ref rk), .val (.int (2 : Int32)), .val (.int (3 : Int32)), .val (.long t), .second, .unset, .unset, .unset, .unset, .unset] [] from by first | (simp [entryFrame, mkF, argsToLocals, Value.category]; done) | rfl]
 refine g_iloadN X0 hx hby d19_0 rfl ?_
 refine g_istore X0 hx hby d19_1 (l' := #[.val (.ref rk), .val (.int (2 : Int32)), .val (.int (3 : Int32)), .val (.long t), .second, .val (.int (2 : Int32)), .unset, .unset, .unset, .unset]) rfl ?_
 refine g_iloadN X0 hx hby d19_3 rfl ?_
 refine g_iconst X0 hx hby (1 : Int32) d19_4 rfl ?_
 refine g_isub X0 hx hby d19_5 ?_
 refine g_topI (2 : Int32) (by decide) ?_
 refine g_istore X0 hx hby d19_6 (l' := #[.val (.ref rk), .val (.int (2 : Int32)), .val (.int (3 : Int32)), .val (.long t), .second, .val (.int (2 : Int32)), .val (.int (2 : Int32)), .unset, .unset, .unset]) rfl ?_
 refine g_iload X0 hx hby d19_8 rfl ?_
 refine g_iload X0 hx hby d19_10 rfl ?_
 refine g_icN X0 hx hby d19_12 (flt (by decide : ¬ ((2 : Int32) < (2 : Int32)))).2.2.1 ?_
 refine g_iload X0 hx hby d19_15 rfl ?_
 refine g_iload X0 hx hby d19_17 rfl ?_
 refine g_iadd X0 hx hby d19_19 ?_
 refine g_topI (4 : Int32) (by decide) ?_
 refine g_iconst X0 hx hby (1 : Int32) d19_20 rfl ?_
 refine g_iushr X0 hx hby d19_21 ?_
 refine g_topI (2 : Int32) (by decide) ?_
 refine g_istore X0 hx hby d19_22 (l' := #[.val (.ref rk), .val (.int (2 : Int32)), .val (.int (3 : Int32)), .val (.long t), .second, .val (.int (2 : Int32)), .val (.int (2 : Int32)), .val (.int (2 : Int32)), .unset, .unset]) rfl ?_
 refine g_aloadN X0 hx hby d19_24 rfl rfl ?_
 refine g_iload X0 hx hby d19_25 rfl ?_
 refine g_laload X0 hx hby hZ e0 V (.long r) ⟨by decide, by decide⟩ (by exact gr) d19_27 ?_
 refine g_lstore X0 hx hby d19_28 (l' := #[.val (.ref rk), .val (.int (2 : Int32)), .val (.int (3 : Int32)), .val (.long t), .second, .val (.int (2 : Int32)), .val (.int (2 : Int32)), .val (.int (2 : Int32)), .val (.long r), .second]) rfl ?_
 refine g_lload X0 hx hby d19_30 rfl ?_
 refine g_lloadN X0 hx hby d19_32 rfl ?_
 refine g_lcmp X0 hx hby d19_33 ?_
 by_cases hc34_1 : r < t
 ·skip
  refine g_ifN X0 hx hby d19_34 (tlt ((lw_lt r t).mpr hc34_1)).2.1 ?_
  refine g_iload X0 hx hby d19_37 rfl ?_
  refine g_iconst X0 hx hby (1 : Int32) d19_39 rfl ?_
  refine g_at 40 rfl rfl rfl ?_
  refine g_iadd X0 hx hby d19_40 ?_
  refine g_topI (3 : Int32) (by decide) ?_
  refine g_istore X0 hx hby d19_41 (l' := #[.val (.ref rk), .val (.int (2 : Int32)), .val (.int (3 : Int32)), .val (.long t), .second, .val (.int (3 : Int32)), .val (.int (2 : Int32)), .val (.int (2 : Int32)), .val (.long r), .second]) rfl ?_
  refine g_goto X0 hx hby 65 d19_43 (by decide) (by decide) ?_
  refine g_goto X0 hx hby 8 d19_65 (by decide) (by decide) ?_
  refine g_iload X0 hx hby d19_8 rfl ?_
  refine g_iload X0 hx hby d19_10 rfl ?_
  refine g_icY X0 hx hby 68 d19_12 (tlt (by decide : (2 : Int32) < (3 : Int32))).2.2.1 (by decide) (by decide) ?_
  refine g_iload X0 hx hby d19_68 rfl ?_
  refine g_iconst X0 hx hby (1 : Int32) d19_70 rfl ?_
  refine g_iadd X0 hx hby d19_71 ?_
  refine g_topI (4 : Int32) (by decide) ?_
  refine g_ineg X0 hx hby d19_72 ?_
  refine g_topI (-4 : Int32) (by decide) ?_
  refine g_iret X0 hx hby Bd.returns Bd.notSynchronized d19_73 e0 (by decide) (by decide) ?_
  show (Q_bs0_2_3 Z rk kr vs t r h0 n0) (some (.int (-4 : Int32))) _ _
  exact ⟨by simp [own_b, hc34_1], N0, rfl⟩
 ·skip
  refine g_ifY X0 hx hby 46 d19_34 (flt (mt (lw_lt r t).mp hc34_1)).2.1 (by decide) (by decide) ?_
  refine g_lload X0 hx hby d19_46 rfl ?_
  refine g_lloadN X0 hx hby d19_48 rfl ?_
  refine g_lcmp X0 hx hby d19_49 ?_
  by_cases hc50_2 : t < r
  ·skip
   refine g_ifN X0 hx hby d19_50 (tlt ((lw_gt r t).mpr hc50_2)).2.2.2 ?_
   refine g_iload X0 hx hby d19_53 rfl ?_
   refine g_iconst X0 hx hby (1 : Int32) d19_55 rfl ?_
   refine g_isub X0 hx hby d19_56 ?_
   refine g_topI (1 : Int32) (by decide) ?_
   refine g_istore X0 hx hby d19_57 (l' := #[.val (.ref rk), .val (.int (2 : Int32)), .val (.int (3 : Int32)), .val (.long t), .second, .val (.int (2 : Int32)), .val (.int (1 : Int32)), .val (.int (2 : Int32)), .val (.long r), .second]) rfl ?_
   refine g_goto X0 hx hby 65 d19_59 (by decide) (by decide) ?_
   refine g_goto X0 hx hby 8 d19_65 (by decide) (by decide) ?_
   refine g_iload X0 hx hby d19_8 rfl ?_
   refine g_iload X0 hx hby d19_10 rfl ?_
   refine g_icY X0 hx hby 68 d19_12 (tlt (by decide : (1 : Int32) < (2 : Int32))).2.2.1 (by decide) (by decide) ?_
   refine g_iload X0 hx hby d19_68 rfl ?_
   refine g_iconst X0 hx hby (1 : Int32) d19_70 rfl ?_
   refine g_iadd X0 hx hby d19_71 ?_
   refine g_topI (3 : Int32) (by decide) ?_
   refine g_ineg X0 hx hby d19_72 ?_
   refine g_topI (-3 : Int32) (by decide) ?_
   refine g_iret X0 hx hby Bd.returns Bd.notSynchronized d19_73 e0 (by decide) (by decide) ?_
   show (Q_bs0_2_3 Z rk kr vs t r h0 n0) (some (.int (-3 : Int32))) _ _
   exact ⟨by simp [own_b, hc34_1, hc50_2], N0, rfl⟩
  ·skip
   refine g_ifY X0 hx hby 62 d19_50 (flt (mt (lw_gt r t).mp hc50_2)).2.2.2 (by decide) (by decide) ?_
   refine g_iload X0 hx hby d19_62 rfl ?_
   refine g_iret X0 hx hby Bd.returns Bd.notSynchronized d19_64 e0 (by decide) (by decide) ?_
   show (Q_bs0_2_3 Z rk kr vs t r h0 n0) (some (.int (2 : Int32))) _ _
   exact ⟨by simp [own_b, hc34_1, hc50_2], N0, rfl⟩

def Q_bs_2_3 (Z : State) (rk : Addr) (kr : ClassId) (vs : List Value) (t : Int64) (r : Int64) (h0 : Heap) (n0 : Nat) (v : Option Value) (h : Heap) (L : List Loc) : Prop := v = some (.int (own_b (2 : Int32) t r)) ∧ Fr n0 L ∧ h = h0
set_option maxRecDepth 65536 in
set_option maxHeartbeats 40000000 in
theorem rm_bs_2_3 (l : Launch) (Z : State) (a0 : Array Value) (hw : ∀ d ∈ tables_1, d.before a0 Z = true) (ws : List Jvm.Cond) (rk : Addr) (kr : ClassId) (vs : List Value) (t : Int64) (r : Int64) (h0 : Heap) (n0 : Nat) (Z0 : n0 ≤ h0.size) (V : Arv Z h0 rk kr .long (16 : Int32) vs (.long (0 : Int64))) (gr : vs.getD 2 (.long (0 : Int64)) = .long r) :
  MetFree l (⟨"java/util/Arrays", "binarySearch", "([JIIJ)I"⟩ : MethodName) (head1 (Jvm.Cond.code (⟨"java/util/Arrays", "binarySearch", "([JIIJ)I"⟩ : MethodName) jdk_65_method_55_code 5 (some .int) :: ws) ({ frames := 1, cells := 0, slots := 0, locals := 21 } : Room)) (fun aa_ U => aa_ = #[(.ref rk), (.int (2 : Int32)), (.int (3 : Int32)), (.long t)] ∧ Z.Warmed39 U.vm ∧ U.heap = h0) (fun _ _ _ _ _ => True) (fun _ U o_ U' => RetG U (Q_bs_2_3 Z rk kr vs t r h0 n0) 0 0 U' o_) := by
 refine MetFree.of_bodySF (plainFor_of_name own_pn4) hisR ?_
 intro p e s m args below meth c_ s₁ Bd hml0 hP hK
 obtain ⟨rfl, hZ, hh⟩ := hP
 have hx := Bd.exec
 have hby := Bd.bytes
 have hml : c_.maxLocals = 5 := hml0
 have hown : s.vm.findClass "java/util/Arrays" = some m.cls := findClass_of_methodNamed Bd.named
 have hnm := (name_of_methodNamed Bd.named Bd.method).1
 have X0 : Stand p l e ({ frames := 1, cells := 0, slots := 0, locals := 21 } : Room) s m #[(.ref rk), (.int (2 : Int32)), (.int (3 : Int32)), (.long t)] below meth c_ s₁ [] 0 0 := Stand.of_body Bd
 have e0 : s₁.heap = h0 := by rw [← hh, Bd.state]; rfl
 have N0 := Fr.nil n0
 have w123_ := hw _ (List.mem_of_getElem? (i := 123) rfl)
 have w125_ := hw _ (List.mem_of_getElem? (i := 125) rfl)
 have w126_ := hw _ (List.mem_of_getElem? (i := 126) rfl)
 have w127_ := hw _ (List.mem_of_getElem? (i := 127) rfl)
 have w128_ := hw _ (List.mem_of_getElem? (i := 128) rfl)
 have w129_ := hw _ (List.mem_of_getElem? (i := 129) rfl)
 have w130_ := hw _ (List.mem_of_getElem? (i := 130) rfl)
 show Go p e below (RetG s (Q_bs_2_3 Z rk kr vs t r h0 n0) 0 0) (s₁.setTop (entryFrame m #[(.ref rk), (.int (2 : Int32)), (.int (3 : Int32)), (.long t)] 5))
 rw [show entryFrame m #[(.ref rk), (.int (2 : Int32)), (.int (3 : Int32)), (.long t)] 5 = mkF m 0 #[.val (.ref rk), .val (.int (2 : Int32)), .val (.int (3 : Int32)), .val (.long t), .second] [] from by first | (simp [entryFrame, mkF, argsToLocals, Value.category]; done) | rfl]
 refine g_aloadN X0 hx hby d17_0 rfl rfl ?_
 refine g_arraylength X0 hx hby hZ e0 V d17_1 ?_
 refine g_iloadN X0 hx hby d17_2 rfl ?_
 refine g_iloadN X0 hx hby d17_3 rfl ?_
 refine g_static X0 hx hby hZ hown (rm_rchk_2_3 l Z a0 hw []  h0 n0 Z0 ) w125_ w126_ w123_ w127_ (by decide) e0 (by rw [hml]; rfl) [(.int (16 : Int32)), (.int (2 : Int32)), (.int (3 : Int32))] (lenOf own_pd2 rfl) rfl rfl (Nat.le_of_ble_eq_true rfl) (Nat.le_of_ble_eq_true rfl) (Nat.le_of_ble_eq_true rfl) (Nat.le_of_ble_eq_true rfl) d17_4 (fun v1 T1 L1 X1 hQ1 => ?_)
 obtain ⟨rfl, N1q, eh1⟩ := hQ1
 have N1 := Fr.app N0 N1q
 refine g_aloadN X1 hx hby d17_7 rfl rfl ?_
 refine g_iloadN X1 hx hby d17_8 rfl ?_
 refine g_iloadN X1 hx hby d17_9 rfl ?_
 refine g_lloadN X1 hx hby d17_10 rfl ?_
 refine g_static X1 hx hby hZ hown (rm_bs0_2_3 l Z a0 hw [] rk kr vs t r h0 n0 Z0 V gr) w128_ w129_ w123_ w130_ (by decide) eh1 (by rw [hml]; rfl) [(.ref rk), (.int (2 : Int32)), (.int (3 : Int32)), (.long t)] (lenOf own_pd3 rfl) rfl rfl (Nat.le_of_ble_eq_true rfl) (Nat.le_of_ble_eq_true rfl) (Nat.le_of_ble_eq_true rfl) (Nat.le_of_ble_eq_true rfl) d17_11 (fun v2 T2 L2 X2 hQ2 => ?_)
 obtain ⟨rfl, N2q, eh2⟩ := hQ2
 have N2 := Fr.app N1 N2q
 refine g_iret X2 hx hby Bd.returns Bd.notSynchronized d17_14 eh2 (by decide) (by decide) ?_
 show (Q_bs_2_3 Z rk kr vs t r h0 n0) (some (.int (own_b (2 : Int32) t r))) _ _
 exact ⟨rfl, N2, rfl⟩

def Q_mx_2_0 (Z : State)  (h0 : Heap) (n0 : Nat) (v : Option Value) (h : Heap) (L : List Loc) : Prop := v = some (.int (2 : Int32)) ∧ Fr n0 L ∧ h = h0
set_option maxRecDepth 65536 in
set_option maxHeartbeats 40000000 in
theorem rm_mx_2_0 (l : Launch) (Z : State) (a0 : Array Value) (hw : ∀ d ∈ tables_1, d.before a0 Z = true) (ws : List Jvm.Cond)  (h0 : Heap) (n0 : Nat) (Z0 : n0 ≤ h0.size) :
  MetFree l (⟨"java/lang/Math", "max", "(II)I"⟩ : MethodName) (head1 (Jvm.Cond.code (⟨"java/lang/Math", "max", "(II)I"⟩ : MethodName) jdk_29_method_65_code 2 (some .int) :: ws) ({ frames := 0, cells := 0, slots := 0, locals := 0 } : Room)) (fun aa_ U => aa_ = #[(.int (2 : Int32)), (.int (0 : Int32))] ∧ Z.Warmed39 U.vm ∧ U.heap = h0) (fun _ _ _ _ _ => True) (fun _ U o_ U' => RetG U (Q_mx_2_0 Z h0 n0) 0 0 U' o_) := by
 refine MetFree.of_bodySF (Jvm.Free.JP.mathPlain rfl (by decide +kernel)) hisR ?_
 intro p e s m args below meth c_ s₁ Bd hml0 hP hK
 obtain ⟨rfl, hZ, hh⟩ := hP
 have hx := Bd.exec
 have hby := Bd.bytes
 have hml : c_.maxLocals = 2 := hml0
 have hown : s.vm.findClass "java/lang/Math" = some m.cls := findClass_of_methodNamed Bd.named
 have hnm := (name_of_methodNamed Bd.named Bd.method).1
 have X0 : Stand p l e ({ frames := 0, cells := 0, slots := 0, locals := 0 } : Room) s m #[(.int (2 : Int32)), (.int (0 : Int32))] below meth c_ s₁ [] 0 0 := Stand.of_body Bd
 have e0 : s₁.heap = h0 := by rw [← hh, Bd.state]; rfl
 have N0 := Fr.nil n0
 show Go p e below (RetG s (Q_mx_2_0 Z h0 n0) 0 0) (s₁.setTop (entryFrame m #[(.int (2 : Int32)), (.int (0 : Int32))] 2))
 rw [show entryFrame m #[(.int (2 : Int32)), (.int (0 : Int32))] 2 = mkF m 0 #[.val (.int (2 : Int32)), .val (.int (0 : Int32))] [] from by first | (simp [entryFrame, mkF, argsToLocals, Value.category]; done) | rfl]
 refine g_iloadN X0 hx hby d16_0 rfl ?_
 refine g_iloadN X0 hx hby d16_1 rfl ?_
 refine g_icN X0 hx hby d16_2 (flt (by decide : ¬ ((2 : Int32) < (0 : Int32)))).1 ?_
 refine g_iloadN X0 hx hby d16_5 rfl ?_
 refine g_goto X0 hx hby 10 d16_6 (by decide) (by decide) ?_
 refine g_iret X0 hx hby Bd.returns Bd.notSynchronized d16_10 e0 (by decide) (by decide) ?_
 show (Q_mx_2_0 Z h0 n0) (some (.int (2 : Int32))) _ _
 exact ⟨rfl, N0, rfl⟩

def Q_idx3 (Z : State) (a : Addr) (q : Int64) (sd : Addr) (t : Int64) (rk : Addr) (kr : ClassId) (vs : List Value) (r0 : Int64) (r1 : Int64) (r2 : Int64) (ba : Addr) (h0 : Heap) (n0 : Nat) (v : Option Value) (h : Heap) (L : List Loc) : Prop := v = some (.int (own_ix3 t r0 r1 r2)) ∧ Fr n0 L ∧ h = h0
set_option maxRecDepth 65536 in
set_option maxHeartbeats 40000000 in
theorem rm_idx3 (l : Launch) (Z : State) (a0 : Array Value) (hw : ∀ d ∈ tables_1, d.before a0 Z = true) (ws : List Jvm.Cond) (a : Addr) (q : Int64) (sd : Addr) (t : Int64) (rk : Addr) (kr : ClassId) (vs : List Value) (r0 : Int64) (r1 : Int64) (r2 : Int64) (ba : Addr) (h0 : Heap) (n0 : Nat) (Z0 : n0 ≤ h0.size) (SB : Sta Z Z.heap "com/example/tidegate/tidegate/engine/Side" "BUY" "Lcom/example/tidegate/tidegate/engine/Side;" (.ref ba)) (OLD : Old Z n0 h0) (EB : Exa Z h0 a "com/example/tidegate/tidegate/engine/BookSide") (FS : Fld Z h0 a "com/example/tidegate/tidegate/engine/BookSide" "side" "Lcom/example/tidegate/tidegate/engine/Side;" (.ref sd)) (FR : Fld Z h0 a "com/example/tidegate/tidegate/engine/BookSide" "ranks" "[J" (.ref rk)) (FN : Fld Z h0 a "com/example/tidegate/tidegate/engine/BookSide" "levelCount" "I" (.int (3 : Int32))) (ht : t = if sd = ba then q else -q) (VR : Arv Z h0 rk kr .long (16 : Int32) vs (.long (0 : Int64))) (gr0 : vs.getD 0 (.long (0 : Int64)) = .long r0) (gr1 : vs.getD 1 (.long (0 : Int64)) = .long r1) (gr2 : vs.getD 2 (.long (0 : Int64)) = .long r2) :
  MetFree l (⟨"com/example/tidegate/tidegate/engine/BookSide", "indexOf", "(J)I"⟩ : MethodName) (head1 (Jvm.Cond.code (⟨"com/example/tidegate/tidegate/engine/BookSide", "indexOf", "(J)I"⟩ : MethodName) prog_2_method_12_code 8 (some .int) :: ws) ({ frames := 4, cells := 0, slots := 0, locals := 120 } : Room)) (fun aa_ U => aa_ = #[(.ref a), (.long q)] ∧ Z.Warmed39 U.vm ∧ U.heap = h0) (fun _ _ _ _ _ => True) (fun _ U o_ U' => RetG U (Q_idx3 Z a q sd t rk kr vs r0 r1 r2 ba h0 n0) 0 0 U' o_) := by
 refine MetFree.of_bodySF (plainFor_of_name own_pn1) hisR ?_
 intro p e s m args below meth c_ s₁ Bd hml0 hP hK
 obtain ⟨rfl, hZ, hh⟩ := hP
 have hx := Bd.exec
 have hby := Bd.bytes
 have hml : c_.maxLocals = 8 := hml0
 have hown : s.vm.findClass "com/example/tidegate/tidegate/engine/BookSide" = some m.cls := findClass_of_methodNamed Bd.named
 have hnm := (name_of_methodNamed Bd.named Bd.method).1
 have X0 : Stand p l e ({ frames := 4, cells := 0, slots := 0, locals := 120 } : Room) s m #[(.ref a), (.long q)] below meth c_ s₁ [] 0 0 := Stand.of_body Bd
 have e0 : s₁.heap = h0 := by rw [← hh, Bd.state]; rfl
 have N0 := Fr.nil n0
 have w6_ := hw _ (List.mem_of_getElem? (i := 6) rfl)
 have w9_ := hw _ (List.mem_of_getElem? (i := 9) rfl)
 have w10_ := hw _ (List.mem_of_getElem? (i := 10) rfl)
 have w18_ := hw _ (List.mem_of_getElem? (i := 18) rfl)
 have w67_ := hw _ (List.mem_of_getElem? (i := 67) rfl)
 have w113_ := hw _ (List.mem_of_getElem? (i := 113) rfl)
 have w114_ := hw _ (List.mem_of_getElem? (i := 114) rfl)
 have w115_ := hw _ (List.mem_of_getElem? (i := 115) rfl)
 have w116_ := hw _ (List.mem_of_getElem? (i := 116) rfl)
 have w118_ := hw _ (List.mem_of_getElem? (i := 118) rfl)
 have w119_ := hw _ (List.mem_of_getElem? (i := 119) rfl)
 have w120_ := hw _ (List.mem_of_getElem? (i := 120) rfl)
 have w121_ := hw _ (List.mem_of_getElem? (i := 121) rfl)
 have w122_ := hw _ (List.mem_of_getElem? (i := 122) rfl)
 have w123_ := hw _ (List.mem_of_getElem? (i := 123) rfl)
 have w124_ := hw _ (List.mem_of_getElem? (i := 124) rfl)
 show Go p e below (RetG s (Q_idx3 Z a q sd t rk kr vs r0 r1 r2 ba h0 n0) 0 0) (s₁.setTop (entryFrame m #[(.ref a), (.long q)] 8))
 rw [show entryFrame m #[(.ref a), (.long q)] 8 = mkF m 0 #[.val (.ref a), .val (.long q), .second, .unset, .unset, .unset, .unset, .unset] [] from by first | (simp [entryFrame, mkF, argsToLocals, Value.category]; done) | rfl]
 refine g_aloadN X0 hx hby d14_0 rfl rfl ?_
 refine g_lloadN X0 hx hby d14_1 rfl ?_
 refine g_private X0 hx hby hZ hown (rm_rank l Z a0 hw [] a q sd t ba h0 n0 Z0 SB OLD FS ht) w113_ w114_ w9_ w115_ w10_ w116_ (by decide) e0 EB (by rw [hml]; rfl) [(.long q)] (lenOf own_pd4 rfl) rfl rfl (Nat.le_of_ble_eq_true rfl) (Nat.le_of_ble_eq_true rfl) (Nat.le_of_ble_eq_true rfl) (Nat.le_of_ble_eq_true rfl) d14_2 (fun v1 T1 L1 X1 hQ1 => ?_)
 obtain ⟨rfl, N1q, eh1⟩ := hQ1
 have N1 := Fr.app N0 N1q
 refine g_lstoreN X1 hx hby d14_5 (l' := #[.val (.ref a), .val (.long q), .second, .val (.long t), .second, .unset, .unset, .unset]) rfl ?_
 refine g_aloadN X1 hx hby d14_6 rfl rfl ?_
 refine g_getF X1 hx hby hZ hown (host := "") (Or.inl w67_) Via.refl eh1 FN d14_7 (fun T2 X2 e2 => ?_)
 refine g_istore X2 hx hby d14_10 (l' := #[.val (.ref a), .val (.long q), .second, .val (.long t), .second, .val (.int (3 : Int32)), .unset, .unset]) rfl ?_
 refine g_iconst X2 hx hby (1 : Int32) d14_12 rfl ?_
 refine g_istore X2 hx hby d14_13 (l' := #[.val (.ref a), .val (.long q), .second, .val (.long t), .second, .val (.int (3 : Int32)), .val (.int (1 : Int32)), .unset]) rfl ?_
 refine g_aloadN X2 hx hby d14_15 rfl rfl ?_
 refine g_getF X2 hx hby hZ hown (host := "") (Or.inl w67_) Via.refl e2 FN d14_16 (fun T3 X3 e3 => ?_)
 refine g_iconst X3 hx hby (1 : Int32) d14_19 rfl ?_
 refine g_isub X3 hx hby d14_20 ?_
 refine g_topI (2 : Int32) (by decide) ?_
 refine g_istore X3 hx hby d14_21 (l' := #[.val (.ref a), .val (.long q), .second, .val (.long t), .second, .val (.int (3 : Int32)), .val (.int (1 : Int32)), .val (.int (2 : Int32))]) rfl ?_
 refine g_iload X3 hx hby d14_23 rfl ?_
 refine g_ifN X3 hx hby d14_25 (flt (by decide : ¬ ((2 : Int32) < (0 : Int32)))).1 ?_
 refine g_aloadN X3 hx hby d14_28 rfl rfl ?_
 refine g_getF X3 hx hby hZ hown (host := "") (Or.inl w18_) Via.refl e3 FR d14_29 (fun T4 X4 e4 => ?_)
 refine g_iload X4 hx hby d14_32 rfl ?_
 refine g_laload X4 hx hby hZ e4 VR (.long r2) ⟨by decide, by decide⟩ (by exact gr2) d14_34 ?_
 refine g_at 35 rfl rfl rfl ?_
 refine g_lloadN X4 hx hby d14_35 rfl ?_
 refine g_lcmp X4 hx hby d14_36 ?_
 by_cases hc37_5 : t < r2
 ·skip
  refine g_ifN X4 hx hby d14_37 (tlt ((lw_gt r2 t).mpr hc37_5)).2.2.2 ?_
  refine g_iload X4 hx hby d14_40 rfl ?_
  refine g_istore X4 hx hby d14_42 (l' := #[.val (.ref a), .val (.long q), .second, .val (.long t), .second, .val (.int (2 : Int32)), .val (.int (1 : Int32)), .val (.int (2 : Int32))]) rfl ?_
  refine g_iload X4 hx hby d14_44 rfl ?_
  refine g_iconst X4 hx hby (2 : Int32) d14_46 rfl ?_
  refine g_imul X4 hx hby d14_47 ?_
  refine g_topI (2 : Int32) (by decide) ?_
  refine g_istore X4 hx hby d14_48 (l' := #[.val (.ref a), .val (.long q), .second, .val (.long t), .second, .val (.int (2 : Int32)), .val (.int (2 : Int32)), .val (.int (2 : Int32))]) rfl ?_
  refine g_aloadN X4 hx hby d14_50 rfl rfl ?_
  refine g_getF X4 hx hby hZ hown (host := "") (Or.inl w67_) Via.refl e4 FN d14_51 (fun T6 X6 e6 => ?_)
  refine g_iload X6 hx hby d14_54 rfl ?_
  refine g_isub X6 hx hby d14_56 ?_
  refine g_topI (1 : Int32) (by decide) ?_
  refine g_istore X6 hx hby d14_57 (l' := #[.val (.ref a), .val (.long q), .second, .val (.long t), .second, .val (.int (2 : Int32)), .val (.int (2 : Int32)), .val (.int (1 : Int32))]) rfl ?_
  refine g_goto X6 hx hby 23 d14_59 (by decide) (by decide) ?_
  refine g_iload X6 hx hby d14_23 rfl ?_
  refine g_ifN X6 hx hby d14_25 (flt (by decide : ¬ ((1 : Int32) < (0 : Int32)))).1 ?_
  refine g_aloadN X6 hx hby d14_28 rfl rfl ?_
  refine g_getF X6 hx hby hZ hown (host := "") (Or.inl w18_) Via.refl e6 FR d14_29 (fun T7 X7 e7 => ?_)
  refine g_iload X7 hx hby d14_32 rfl ?_
  refine g_laload X7 hx hby hZ e7 VR (.long r1) ⟨by decide, by decide⟩ (by exact gr1) d14_34 ?_
  refine g_lloadN X7 hx hby d14_35 rfl ?_
  refine g_lcmp X7 hx hby d14_36 ?_
  by_cases hc37_8 : t < r1
  ·skip
   refine g_ifN X7 hx hby d14_37 (tlt ((lw_gt r1 t).mpr hc37_8)).2.2.2 ?_
   refine g_iload X7 hx hby d14_40 rfl ?_
   refine g_istore X7 hx hby d14_42 (l' := #[.val (.ref a), .val (.long q), .second, .val (.long t), .second, .val (.int (1 : Int32)), .val (.int (2 : Int32)), .val (.int (1 : Int32))]) rfl ?_
   refine g_iload X7 hx hby d14_44 rfl ?_
   refine g_iconst X7 hx hby (2 : Int32) d14_46 rfl ?_
   refine g_imul X7 hx hby d14_47 ?_
   refine g_topI (4 : Int32) (by decide) ?_
   refine g_istore X7 hx hby d14_48 (l' := #[.val (.ref a), .val (.long q), .second, .val (.long t), .second, .val (.int (1 : Int32)), .val (.int (4 : Int32)), .val (.int (1 : Int32))]) rfl ?_
   refine g_aloadN X7 hx hby d14_50 rfl rfl ?_
   refine g_getF X7 hx hby hZ hown (host := "") (Or.inl w67_) Via.refl e7 FN d14_51 (fun T9 X9 e9 => ?_)
   refine g_iload X9 hx hby d14_54 rfl ?_
   refine g_isub X9 hx hby d14_56 ?_
   refine g_topI (-1 : Int32) (by decide) ?_
   refine g_istore X9 hx hby d14_57 (l' := #[.val (.ref a), .val (.long q), .second, .val (.long t), .second, .val (.int (1 : Int32)), .val (.int (4 : Int32)), .val (.int (-1 : Int32))]) rfl ?_
   refine g_goto X9 hx hby 23 d14_59 (by decide) (by decide) ?_
   refine g_iload X9 hx hby d14_23 rfl ?_
   refine g_ifY X9 hx hby 62 d14_25 (tlt (by decide : (-1 : Int32) < (0 : Int32))).1 (by decide) (by decide) ?_
   refine g_aloadN X9 hx hby d14_62 rfl rfl ?_
   refine g_getF X9 hx hby hZ hown (host := "") (Or.inl w18_) Via.refl e9 FR d14_63 (fun T10 X10 e10 => ?_)
   refine g_iload X10 hx hby d14_66 rfl ?_
   refine g_iconst X10 hx hby (0 : Int32) d14_68 rfl ?_
   refine g_static X10 hx hby hZ hown (rm_mx_m1_0 l Z a0 hw []  h0 n0 Z0 ) w118_ w119_ w6_ w120_ (by decide) e10 (by rw [hml]; rfl) [(.int (-1 : Int32)), (.int (0 : Int32))] (lenOf own_pd5 rfl) rfl rfl (Nat.le_of_ble_eq_true rfl) (Nat.le_of_ble_eq_true rfl) (Nat.le_of_ble_eq_true rfl) (Nat.le_of_ble_eq_true rfl) d14_69 (fun v11 T11 L11 X11 hQ11 => ?_)
   obtain ⟨rfl, N11q, eh11⟩ := hQ11
   have N11 := Fr.app N1 N11q
   refine g_iload X11 hx hby d14_72 rfl ?_
   refine g_lloadN X11 hx hby d14_74 rfl ?_
   refine g_static X11 hx hby hZ hown (rm_bs_0_1 l Z a0 hw [] rk kr vs t r0 h0 n0 Z0 VR gr0) w121_ w122_ w123_ w124_ (by decide) eh11 (by rw [hml]; rfl) [(.ref rk), (.int (0 : Int32)), (.int (1 : Int32)), (.long t)] (lenOf own_pd3 rfl) rfl rfl (Nat.le_of_ble_eq_true rfl) (Nat.le_of_ble_eq_true rfl) (Nat.le_of_ble_eq_true rfl) (Nat.le_of_ble_eq_true rfl) d14_75 (fun v12 T12 L12 X12 hQ12 => ?_)
   obtain ⟨rfl, N12q, eh12⟩ := hQ12
   have N12 := Fr.app N11 N12q
   refine g_iret X12 hx hby Bd.returns Bd.notSynchronized d14_78 eh12 (by decide) (by decide) ?_
   show (Q_idx3 Z a q sd t rk kr vs r0 r1 r2 ba h0 n0) (some (.int (own_b (0 : Int32) t r0))) _ _
   exact ⟨by simp [own_ix3, hc37_5, hc37_8], N12, rfl⟩
  ·skip
   refine g_ifY X7 hx hby 62 d14_37 (flt (mt (lw_gt r1 t).mp hc37_8)).2.2.2 (by decide) (by decide) ?_
   refine g_aloadN X7 hx hby d14_62 rfl rfl ?_
   refine g_getF X7 hx hby hZ hown (host := "") (Or.inl w18_) Via.refl e7 FR d14_63 (fun T13 X13 e13 => ?_)
   refine g_iload X13 hx hby d14_66 rfl ?_
   refine g_iconst X13 hx hby (0 : Int32) d14_68 rfl ?_
   refine g_static X13 hx hby hZ hown (rm_mx_1_0 l Z a0 hw []  h0 n0 Z0 ) w118_ w119_ w6_ w120_ (by decide) e13 (by rw [hml]; rfl) [(.int (1 : Int32)), (.int (0 : Int32))] (lenOf own_pd5 rfl) rfl rfl (Nat.le_of_ble_eq_true rfl) (Nat.le_of_ble_eq_true rfl) (Nat.le_of_ble_eq_true rfl) (Nat.le_of_ble_eq_true rfl) d14_69 (fun v14 T14 L14 X14 hQ14 => ?_)
   obtain ⟨rfl, N14q, eh14⟩ := hQ14
   have N14 := Fr.app N1 N14q
   refine g_iload X14 hx hby d14_72 rfl ?_
   refine g_lloadN X14 hx hby d14_74 rfl ?_
   refine g_static X14 hx hby hZ hown (rm_bs_1_2 l Z a0 hw [] rk kr vs t r1 h0 n0 Z0 VR gr1) w121_ w122_ w123_ w124_ (by decide) eh14 (by rw [hml]; rfl) [(.ref rk), (.int (1 : Int32)), (.int (2 : Int32)), (.long t)] (lenOf own_pd3 rfl) rfl rfl (Nat.le_of_ble_eq_true rfl) (Nat.le_of_ble_eq_true rfl) (Nat.le_of_ble_eq_true rfl) (Nat.le_of_ble_eq_true rfl) d14_75 (fun v15 T15 L15 X15 hQ15 => ?_)
   obtain ⟨rfl, N15q, eh15⟩ := hQ15
   have N15 := Fr.app N14 N15q
   refine g_iret X15 hx hby Bd.returns Bd.notSynchronized d14_78 eh15 (by decide) (by decide) ?_
   show (Q_idx3 Z a q sd t rk kr vs r0 r1 r2 ba h0 n0) (some (.int (own_b (1 : Int32) t r1))) _ _
   exact ⟨by simp [own_ix3, hc37_5, hc37_8], N15, rfl⟩
 ·skip
  refine g_ifY X4 hx hby 62 d14_37 (flt (mt (lw_gt r2 t).mp hc37_5)).2.2.2 (by decide) (by decide) ?_
  refine g_aloadN X4 hx hby d14_62 rfl rfl ?_
  refine g_getF X4 hx hby hZ hown (host := "") (Or.inl w18_) Via.refl e4 FR d14_63 (fun T16 X16 e16 => ?_)
  refine g_iload X16 hx hby d14_66 rfl ?_
  refine g_iconst X16 hx hby (0 : Int32) d14_68 rfl ?_
  refine g_static X16 hx hby hZ hown (rm_mx_2_0 l Z a0 hw []  h0 n0 Z0 ) w118_ w119_ w6_ w120_ (by decide) e16 (by rw [hml]; rfl) [(.int (2 : Int32)), (.int (0 : Int32))] (lenOf own_pd5 rfl) rfl rfl (Nat.le_of_ble_eq_true rfl) (Nat.le_of_ble_eq_true rfl) (Nat.le_of_ble_eq_true rfl) (Nat.le_of_ble_eq_true rfl) d14_69 (fun v17 T17 L17 X17 hQ17 => ?_)
  obtain ⟨rfl, N17q, eh17⟩ := hQ17
  have N17 := Fr.app N1 N17q
  refine g_iload X17 hx hby d14_72 rfl ?_
  refine g_lloadN X17 hx hby d14_74 rfl ?_
  refine g_static X17 hx hby hZ hown (rm_bs_2_3 l Z a0 hw [] rk kr vs t r2 h0 n0 Z0 VR gr2) w121_ w122_ w123_ w124_ (by decide) eh17 (by rw [hml]; rfl) [(.ref rk), (.int (2 : Int32)), (.int (3 : Int32)), (.long t)] (lenOf own_pd3 rfl) rfl rfl (Nat.le_of_ble_eq_true rfl) (Nat.le_of_ble_eq_true rfl) (Nat.le_of_ble_eq_true rfl) (Nat.le_of_ble_eq_true rfl) d14_75 (fun v18 T18 L18 X18 hQ18 => ?_)
  obtain ⟨rfl, N18q, eh18⟩ := hQ18
  have N18 := Fr.app N17 N18q
  refine g_iret X18 hx hby Bd.returns Bd.notSynchronized d14_78 eh18 (by decide) (by decide) ?_
  show (Q_idx3 Z a q sd t rk kr vs r0 r1 r2 ba h0 n0) (some (.int (own_b (2 : Int32) t r2))) _ _
  exact ⟨by simp [own_ix3, hc37_5], N18, rfl⟩

def Q_idxG (Z : State) (a : Addr) (q : Int64) (sd : Addr) (t : Int64) (rk : Addr) (kr : ClassId) (vs : List Value) (rs : List Int64) (ba : Addr) (h0 : Heap) (n0 : Nat) (v : Option Value) (h : Heap) (L : List Loc) : Prop := v = some (.int (own_gix rs t)) ∧ Fr n0 L ∧ h = h0
theorem rm_idxG (l : Launch) (Z : State) (a0 : Array Value) (hw : ∀ d ∈ tables_1, d.before a0 Z = true) (ws : List Jvm.Cond) (a : Addr) (q : Int64) (sd : Addr) (t : Int64) (rk : Addr) (kr : ClassId) (vs : List Value) (rs : List Int64) (ba : Addr) (h0 : Heap) (n0 : Nat) (Z0 : n0 ≤ h0.size) (SB : Sta Z Z.heap "com/example/tidegate/tidegate/engine/Side" "BUY" "Lcom/example/tidegate/tidegate/engine/Side;" (.ref ba)) (OLD : Old Z n0 h0) (EB : Exa Z h0 a "com/example/tidegate/tidegate/engine/BookSide") (FS : Fld Z h0 a "com/example/tidegate/tidegate/engine/BookSide" "side" "Lcom/example/tidegate/tidegate/engine/Side;" (.ref sd)) (FR : Fld Z h0 a "com/example/tidegate/tidegate/engine/BookSide" "ranks" "[J" (.ref rk)) (FN : Fld Z h0 a "com/example/tidegate/tidegate/engine/BookSide" "levelCount" "I" (.int (Int32.ofNat rs.length))) (ht : t = if sd = ba then q else -q) (VR : Arv Z h0 rk kr .long (16 : Int32) vs (.long (0 : Int64))) (gr : ∀ k, k < rs.length → vs.getD k (.long (0 : Int64)) = .long (rs.getD k 0)) (h3 : rs.length ≤ 3) :
  MetFree l (⟨"com/example/tidegate/tidegate/engine/BookSide", "indexOf", "(J)I"⟩ : MethodName) (head1 (Jvm.Cond.code (⟨"com/example/tidegate/tidegate/engine/BookSide", "indexOf", "(J)I"⟩ : MethodName) prog_2_method_12_code 8 (some .int) :: ws) ({ frames := 4, cells := 0, slots := 0, locals := 120 } : Room)) (fun aa_ U => aa_ = #[(.ref a), (.long q)] ∧ Z.Warmed39 U.vm ∧ U.heap = h0) (fun _ _ _ _ _ => True) (fun _ U o_ U' => RetG U (Q_idxG Z a q sd t rk kr vs rs ba h0 n0) 0 0 U' o_) := by
 match rs, FN, gr, h3 with
 | [], FN, gr, _ => exact rm_idx0 l Z a0 hw ws a q sd t rk kr vs  ba h0 n0 Z0 SB OLD EB FS FR FN ht VR 
 | [r0], FN, gr, _ => exact rm_idx1 l Z a0 hw ws a q sd t rk kr vs r0 ba h0 n0 Z0 SB OLD EB FS FR FN ht VR (gr 0 (by simp))
 | [r0, r1], FN, gr, _ => exact rm_idx2 l Z a0 hw ws a q sd t rk kr vs r0 r1 ba h0 n0 Z0 SB OLD EB FS FR FN ht VR (gr 0 (by simp)) (gr 1 (by simp))
 | [r0, r1, r2], FN, gr, _ => exact rm_idx3 l Z a0 hw ws a q sd t rk kr vs r0 r1 r2 ba h0 n0 Z0 SB OLD EB FS FR FN ht VR (gr 0 (by simp)) (gr 1 (by simp)) (gr 2 (by simp))
 | _ :: _ :: _ :: _ :: _, _, _, h3 => exact absurd h3 (by simp)

theorem d13_0 : decode prog_2_method_13_code 0 = .ok (.aload_n 0, 1) := by decide +kernel
theorem d13_1 : decode prog_2_method_13_code 1 = .ok (.lload_n 1, 1) := by decide +kernel
theorem d13_2 : decode prog_2_method_13_code 2 = .ok (.invokevirtual 92, 3) := by decide +kernel
theorem own_pd6 : parseMethodDescriptor "(J)I" = some ⟨[.long], some .int⟩ := by decide +kernel
theorem d13_5 : decode prog_2_method_13_code 5 = .ok (.istore_n 3, 1) := by decide +kernel
theorem d13_6 : decode prog_2_method_13_code 6 = .ok (.iload_n 3, 1) := by decide +kernel
theorem d13_7 : decode prog_2_method_13_code 7 = .ok (.ifCond .lt 10, 3) := by decide +kernel
theorem d13_10 : decode prog_2_method_13_code 10 = .ok (.aload_n 0, 1) := by decide +kernel
theorem d13_11 : decode prog_2_method_13_code 11 = .ok (.getfield 15, 3) := by decide +kernel
theorem d13_14 : decode prog_2_method_13_code 14 = .ok (.iload_n 3, 1) := by decide +kernel
theorem d13_15 : decode prog_2_method_13_code 15 = .ok (.aaload, 1) := by decide +kernel
theorem d13_16 : decode prog_2_method_13_code 16 = .ok (.areturn, 1) := by decide +kernel
def Q_lfG (Z : State) (a : Addr) (q : Int64) (sd : Addr) (t : Int64) (rk : Addr) (la : Addr) (up : Addr) (qy : Int64) (kr : ClassId) (kl : ClassId) (rs : List Int64) (As : List Addr) (i : Nat) (ba : Addr) (h0 : Heap) (n0 : Nat) (v : Option Value) (h : Heap) (L : List Loc) : Prop := v = some (.ref (As.getD i 0)) ∧ Fr n0 L ∧ h = h0
set_option maxRecDepth 65536 in
set_option maxHeartbeats 40000000 in
theorem rm_lfG (l : Launch) (Z : State) (a0 : Array Value) (hw : ∀ d ∈ tables_1, d.before a0 Z = true) (ws : List Jvm.Cond) (a : Addr) (q : Int64) (sd : Addr) (t : Int64) (rk : Addr) (la : Addr) (up : Addr) (qy : Int64) (kr : ClassId) (kl : ClassId) (rs : List Int64) (As : List Addr) (i : Nat) (ba : Addr) (h0 : Heap) (n0 : Nat) (Z0 : n0 ≤ h0.size) (SB : Sta Z Z.heap "com/example/tidegate/tidegate/engine/Side" "BUY" "Lcom/example/tidegate/tidegate/engine/Side;" (.ref ba)) (OLD : Old Z n0 h0) (BBp : own_BB Z h0 a rk la up sd (Int32.ofNat rs.length) qy) (ARp : own_AR Z h0 rk la kr kl rs As) (ht : t = if sd = ba then q else -q) (hi : i < rs.length) (hix : own_gix rs t = Int32.ofNat i) :
  MetFree l (⟨"com/example/tidegate/tidegate/engine/BookSide", "levelAt", "(J)Lcom/example/tidegate/tidegate/engine/BookSide$Level;"⟩ : MethodName) (head1 (Jvm.Cond.code (⟨"com/example/tidegate/tidegate/engine/BookSide", "levelAt", "(J)Lcom/example/tidegate/tidegate/engine/BookSide$Level;"⟩ : MethodName) prog_2_method_13_code 5 (some (.object "com/example/tidegate/tidegate/engine/BookSide$Level")) :: ws) ({ frames := 5, cells := 0, slots := 0, locals := 139 } : Room)) (fun aa_ U => aa_ = #[(.ref a), (.long q)] ∧ Z.Warmed39 U.vm ∧ U.heap = h0) (fun _ _ _ _ _ => True) (fun _ U o_ U' => RetG U (Q_lfG Z a q sd t rk la up qy kr kl rs As i ba h0 n0) 0 0 U' o_) := by
 refine MetFree.of_bodySF (plainFor_of_name own_pn1) hisR ?_
 intro p e s m args below meth c_ s₁ Bd hml0 hP hK
 obtain ⟨rfl, hZ, hh⟩ := hP
 have hx := Bd.exec
 have hby := Bd.bytes
 have hml : c_.maxLocals = 5 := hml0
 have hown : s.vm.findClass "com/example/tidegate/tidegate/engine/BookSide" = some m.cls := findClass_of_methodNamed Bd.named
 have hnm := (name_of_methodNamed Bd.named Bd.method).1
 have X0 : Stand p l e ({ frames := 5, cells := 0, slots := 0, locals := 139 } : Room) s m #[(.ref a), (.long q)] below meth c_ s₁ [] 0 0 := Stand.of_body Bd
 have e0 : s₁.heap = h0 := by rw [← hh, Bd.state]; rfl
 have N0 := Fr.nil n0
 have w9_ := hw _ (List.mem_of_getElem? (i := 9) rfl)
 have w10_ := hw _ (List.mem_of_getElem? (i := 10) rfl)
 have w22_ := hw _ (List.mem_of_getElem? (i := 22) rfl)
 have w109_ := hw _ (List.mem_of_getElem? (i := 109) rfl)
 have w110_ := hw _ (List.mem_of_getElem? (i := 110) rfl)
 have w111_ := hw _ (List.mem_of_getElem? (i := 111) rfl)
 have w112_ := hw _ (List.mem_of_getElem? (i := 112) rfl)
 obtain ⟨EB, FR, FL, FU, FS, FN, FQ⟩ := BBp
 obtain ⟨⟨vs, VR, hvl, gr⟩, ⟨wl, VL, hwl, gl⟩, hra, hl3⟩ := ARp
 show Go p e below (RetG s (Q_lfG Z a q sd t rk la up qy kr kl rs As i ba h0 n0) 0 0) (s₁.setTop (entryFrame m #[(.ref a), (.long q)] 5))
 rw [show entryFrame m #[(.ref a), (.long q)] 5 = mkF m 0 #[.val (.ref a), .val (.long q), .second, .unset, .unset] [] from by first | (simp [entryFrame, mkF, argsToLocals, Value.category]; done) | rfl]
 refine g_aloadN X0 hx hby d13_0 rfl rfl ?_
 refine g_lloadN X0 hx hby d13_1 rfl ?_
 refine g_private X0 hx hby hZ hown (rm_idxG l Z a0 hw [] a q sd t rk kr vs rs ba h0 n0 Z0 SB OLD EB FS FR FN ht VR gr hl3) w109_ w110_ w9_ w111_ w10_ w112_ (by decide) e0 EB (by rw [hml]; rfl) [(.long q)] (lenOf own_pd6 rfl) rfl rfl (Nat.le_of_ble_eq_true rfl) (Nat.le_of_ble_eq_true rfl) (Nat.le_of_ble_eq_true rfl) (Nat.le_of_ble_eq_true rfl) d13_2 (fun v1 T1 L1 X1 hQ1 => ?_)
 obtain ⟨rfl, N1q, eh1⟩ := hQ1
 have N1 := Fr.app N0 N1q
 refine g_topI (T := T1) (Int32.ofNat i) hix ?_
 refine g_istoreN X1 hx hby d13_5 (l' := #[.val (.ref a), .val (.long q), .second, .val (.int (Int32.ofNat i)), .unset]) rfl ?_
 refine g_iloadN X1 hx hby d13_6 rfl ?_
 refine g_ifN X1 hx hby d13_7 (flt ((own_nneg (by omega)) : ¬ ((Int32.ofNat i) < (0 : Int32)))).1 ?_
 refine g_aloadN X1 hx hby d13_10 rfl rfl ?_
 refine g_getF X1 hx hby hZ hown (host := "") (Or.inl w22_) Via.refl eh1 FL d13_11 (fun T2 X2 e2 => ?_)
 refine g_iloadN X2 hx hby d13_14 rfl ?_
 refine g_aaload X2 hx hby hZ e2 VL rfl (.ref (As.getD i 0)) (own_in2 (by omega)) (by rw [own_tn2 (by omega)]; exact gl i (by omega)) d13_15 ?_
 refine g_aret X2 hx hby (t := (.object "com/example/tidegate/tidegate/engine/BookSide$Level")) rfl rfl rfl Bd.returns Bd.notSynchronized d13_16 e2 (by decide) (by decide) ?_
 show (Q_lfG Z a q sd t rk la up qy kr kl rs As i ba h0 n0) (some (.ref (As.getD i 0))) _ _
 exact ⟨rfl, N1, rfl⟩

theorem d13_17 : decode prog_2_method_13_code 17 = .ok (.iload_n 3, 1) := by decide +kernel
theorem d13_18 : decode prog_2_method_13_code 18 = .ok (.ineg, 1) := by decide +kernel
theorem d13_19 : decode prog_2_method_13_code 19 = .ok (.iconst 1, 1) := by decide +kernel
theorem d13_20 : decode prog_2_method_13_code 20 = .ok (.isub, 1) := by decide +kernel
theorem d13_21 : decode prog_2_method_13_code 21 = .ok (.istore 4, 2) := by decide +kernel
theorem d13_23 : decode prog_2_method_13_code 23 = .ok (.aload_n 0, 1) := by decide +kernel
theorem d13_24 : decode prog_2_method_13_code 24 = .ok (.getfield 38, 3) := by decide +kernel
theorem d13_27 : decode prog_2_method_13_code 27 = .ok (.aload_n 0, 1) := by decide +kernel
theorem d13_28 : decode prog_2_method_13_code 28 = .ok (.getfield 15, 3) := by decide +kernel
theorem d13_31 : decode prog_2_method_13_code 31 = .ok (.arraylength, 1) := by decide +kernel
theorem d13_32 : decode prog_2_method_13_code 32 = .ok (.if_icmp .ne 40, 3) := by decide +kernel
theorem d13_72 : decode prog_2_method_13_code 72 = .ok (.aload_n 0, 1) := by decide +kernel
theorem d13_73 : decode prog_2_method_13_code 73 = .ok (.getfield 9, 3) := by decide +kernel
theorem d13_76 : decode prog_2_method_13_code 76 = .ok (.iload 4, 2) := by decide +kernel
theorem d13_78 : decode prog_2_method_13_code 78 = .ok (.aload_n 0, 1) := by decide +kernel
theorem d13_79 : decode prog_2_method_13_code 79 = .ok (.getfield 9, 3) := by decide +kernel
theorem d13_82 : decode prog_2_method_13_code 82 = .ok (.iload 4, 2) := by decide +kernel
theorem d13_84 : decode prog_2_method_13_code 84 = .ok (.iconst 1, 1) := by decide +kernel
theorem d13_85 : decode prog_2_method_13_code 85 = .ok (.iadd, 1) := by decide +kernel
theorem d13_86 : decode prog_2_method_13_code 86 = .ok (.aload_n 0, 1) := by decide +kernel
theorem d13_87 : decode prog_2_method_13_code 87 = .ok (.getfield 38, 3) := by decide +kernel
theorem d13_90 : decode prog_2_method_13_code 90 = .ok (.iload 4, 2) := by decide +kernel
theorem d13_92 : decode prog_2_method_13_code 92 = .ok (.isub, 1) := by decide +kernel
theorem d13_93 : decode prog_2_method_13_code 93 = .ok (.invokestatic 96, 3) := by decide +kernel
theorem d13_96 : decode prog_2_method_13_code 96 = .ok (.aload_n 0, 1) := by decide +kernel
theorem d13_97 : decode prog_2_method_13_code 97 = .ok (.getfield 15, 3) := by decide +kernel
theorem d13_100 : decode prog_2_method_13_code 100 = .ok (.iload 4, 2) := by decide +kernel
theorem d13_102 : decode prog_2_method_13_code 102 = .ok (.aload_n 0, 1) := by decide +kernel
theorem d13_103 : decode prog_2_method_13_code 103 = .ok (.getfield 15, 3) := by decide +kernel
theorem d13_106 : decode prog_2_method_13_code 106 = .ok (.iload 4, 2) := by decide +kernel
theorem d13_108 : decode prog_2_method_13_code 108 = .ok (.iconst 1, 1) := by decide +kernel
theorem d13_109 : decode prog_2_method_13_code 109 = .ok (.iadd, 1) := by decide +kernel
theorem d13_110 : decode prog_2_method_13_code 110 = .ok (.aload_n 0, 1) := by decide +kernel
theorem d13_111 : decode prog_2_method_13_code 111 = .ok (.getfield 38, 3) := by decide +kernel
theorem d13_114 : decode prog_2_method_13_code 114 = .ok (.iload 4, 2) := by decide +kernel
theorem d13_116 : decode prog_2_method_13_code 116 = .ok (.isub, 1) := by decide +kernel
theorem d13_117 : decode prog_2_method_13_code 117 = .ok (.invokestatic 96, 3) := by decide +kernel
theorem d13_120 : decode prog_2_method_13_code 120 = .ok (.aload_n 0, 1) := by decide +kernel
theorem d13_121 : decode prog_2_method_13_code 121 = .ok (.getfield 9, 3) := by decide +kernel
theorem d13_124 : decode prog_2_method_13_code 124 = .ok (.iload 4, 2) := by decide +kernel
theorem d13_126 : decode prog_2_method_13_code 126 = .ok (.aload_n 0, 1) := by decide +kernel
theorem d13_127 : decode prog_2_method_13_code 127 = .ok (.lload_n 1, 1) := by decide +kernel
theorem d13_128 : decode prog_2_method_13_code 128 = .ok (.invokevirtual 109, 3) := by decide +kernel
theorem d13_131 : decode prog_2_method_13_code 131 = .ok (.lastore, 1) := by decide +kernel
theorem d13_132 : decode prog_2_method_13_code 132 = .ok (.aload_n 0, 1) := by decide +kernel
theorem d13_133 : decode prog_2_method_13_code 133 = .ok (.getfield 15, 3) := by decide +kernel
theorem d13_136 : decode prog_2_method_13_code 136 = .ok (.iload 4, 2) := by decide +kernel
theorem d13_138 : decode prog_2_method_13_code 138 = .ok (.new 13, 3) := by decide +kernel
theorem d13_141 : decode prog_2_method_13_code 141 = .ok (.dup, 1) := by decide +kernel
theorem d13_142 : decode prog_2_method_13_code 142 = .ok (.lload_n 1, 1) := by decide +kernel
theorem d13_143 : decode prog_2_method_13_code 143 = .ok (.invokespecial 23, 3) := by decide +kernel
theorem d13_146 : decode prog_2_method_13_code 146 = .ok (.aastore, 1) := by decide +kernel
theorem d13_147 : decode prog_2_method_13_code 147 = .ok (.aload_n 0, 1) := by decide +kernel
theorem d13_148 : decode prog_2_method_13_code 148 = .ok (.dup, 1) := by decide +kernel
theorem d13_149 : decode prog_2_method_13_code 149 = .ok (.getfield 38, 3) := by decide +kernel
theorem d13_152 : decode prog_2_method_13_code 152 = .ok (.iconst 1, 1) := by decide +kernel
theorem d13_153 : decode prog_2_method_13_code 153 = .ok (.iadd, 1) := by decide +kernel
theorem d13_154 : decode prog_2_method_13_code 154 = .ok (.putfield 38, 3) := by decide +kernel
theorem d13_157 : decode prog_2_method_13_code 157 = .ok (.aload_n 0, 1) := by decide +kernel
theorem d13_158 : decode prog_2_method_13_code 158 = .ok (.getfield 15, 3) := by decide +kernel
theorem d13_161 : decode prog_2_method_13_code 161 = .ok (.iload 4, 2) := by decide +kernel
theorem d13_163 : decode prog_2_method_13_code 163 = .ok (.aaload, 1) := by decide +kernel
theorem d13_164 : decode prog_2_method_13_code 164 = .ok (.areturn, 1) := by decide +kernel
def Q_lnG (Z : State) (a : Addr) (q : Int64) (sd : Addr) (t : Int64) (rk : Addr) (la : Addr) (up : Addr) (qy : Int64) (kr : ClassId) (kl : ClassId) (rs : List Int64) (As : List Addr) (i : Nat) (ba : Addr) (h0 : Heap) (n0 : Nat) (v : Option Value) (h : Heap) (L : List Loc) : Prop := Fr n0 L ∧ Keep h0 h [a, rk, la] ∧ ∃ B : Addr, v = some (.ref B) ∧ h0.size ≤ B ∧ own_BB Z h a rk la up sd (Int32.ofNat (rs.insertIdx i t).length) qy ∧ own_AR Z h rk la kr kl (rs.insertIdx i t) (As.insertIdx i B) ∧ own_LL Z h B .null .null
set_option maxRecDepth 65536 in
set_option maxHeartbeats 40000000 in
theorem rm_lnG (l : Launch) (Z : State) (a0 : Array Value) (hw : ∀ d ∈ tables_1, d.before a0 Z = true) (ws : List Jvm.Cond) (a : Addr) (q : Int64) (sd : Addr) (t : Int64) (rk : Addr) (la : Addr) (up : Addr) (qy : Int64) (kr : ClassId) (kl : ClassId) (rs : List Int64) (As : List Addr) (i : Nat) (ba : Addr) (h0 : Heap) (n0 : Nat) (Z0 : n0 ≤ h0.size) (SB : Sta Z Z.heap "com/example/tidegate/tidegate/engine/Side" "BUY" "Lcom/example/tidegate/tidegate/engine/Side;" (.ref ba)) (OLD : Old Z n0 h0) (BBp : own_BB Z h0 a rk la up sd (Int32.ofNat rs.length) qy) (ARp : own_AR Z h0 rk la kr kl rs As) (ht : t = if sd = ba then q else -q) (hi : i ≤ rs.length) (gh2 : rs.length ≤ 2) (hix : own_gix rs t = -(Int32.ofNat (i + 1))) (ga : n0 ≤ a) (grk : n0 ≤ rk) (gla : n0 ≤ la) (nrl : rk ≠ la) (OV : Ovr Z kl "com/example/tidegate/tidegate/engine/BookSide$Level") (EAs : ∀ x ∈ As, Exa Z h0 x "com/example/tidegate/tidegate/engine/BookSide$Level") :
  MetFree l (⟨"com/example/tidegate/tidegate/engine/BookSide", "levelAt", "(J)Lcom/example/tidegate/tidegate/engine/BookSide$Level;"⟩ : MethodName) (head1 (Jvm.Cond.code (⟨"com/example/tidegate/tidegate/engine/BookSide", "levelAt", "(J)Lcom/example/tidegate/tidegate/engine/BookSide$Level;"⟩ : MethodName) prog_2_method_13_code 5 (some (.object "com/example/tidegate/tidegate/engine/BookSide$Level")) :: ws) ({ frames := 5, cells := 1, slots := 3, locals := 139 } : Room)) (fun aa_ U => aa_ = #[(.ref a), (.long q)] ∧ Z.Warmed39 U.vm ∧ U.heap = h0) (fun _ _ _ _ _ => True) (fun _ U o_ U' => RetG U (Q_lnG Z a q sd t rk la up qy kr kl rs As i ba h0 n0) 1 3 U' o_) := by
 refine MetFree.of_bodySF (plainFor_of_name own_pn1) hisR ?_
 intro p e s m args below meth c_ s₁ Bd hml0 hP hK
 obtain ⟨rfl, hZ, hh⟩ := hP
 have hx := Bd.exec
 have hby := Bd.bytes
 have hml : c_.maxLocals = 5 := hml0
 have hown : s.vm.findClass "com/example/tidegate/tidegate/engine/BookSide" = some m.cls := findClass_of_methodNamed Bd.named
 have hnm := (name_of_methodNamed Bd.named Bd.method).1
 have X0 : Stand p l e ({ frames := 5, cells := 1, slots := 3, locals := 139 } : Room) s m #[(.ref a), (.long q)] below meth c_ s₁ [] 0 0 := Stand.of_body Bd
 have e0 : s₁.heap = h0 := by rw [← hh, Bd.state]; rfl
 have N0 := Fr.nil n0
 have w9_ := hw _ (List.mem_of_getElem? (i := 9) rfl)
 have w10_ := hw _ (List.mem_of_getElem? (i := 10) rfl)
 have w18_ := hw _ (List.mem_of_getElem? (i := 18) rfl)
 have w19_ := hw _ (List.mem_of_getElem? (i := 19) rfl)
 have w20_ := hw _ (List.mem_of_getElem? (i := 20) rfl)
 have w22_ := hw _ (List.mem_of_getElem? (i := 22) rfl)
 have w23_ := hw _ (List.mem_of_getElem? (i := 23) rfl)
 have w24_ := hw _ (List.mem_of_getElem? (i := 24) rfl)
 have w25_ := hw _ (List.mem_of_getElem? (i := 25) rfl)
 have w27_ := hw _ (List.mem_of_getElem? (i := 27) rfl)
 have w28_ := hw _ (List.mem_of_getElem? (i := 28) rfl)
 have w29_ := hw _ (List.mem_of_getElem? (i := 29) rfl)
 have w32_ := hw _ (List.mem_of_getElem? (i := 32) rfl)
 have w34_ := hw _ (List.mem_of_getElem? (i := 34) rfl)
 have w36_ := hw _ (List.mem_of_getElem? (i := 36) rfl)
 have w66_ := hw _ (List.mem_of_getElem? (i := 66) rfl)
 have w67_ := hw _ (List.mem_of_getElem? (i := 67) rfl)
 have w68_ := hw _ (List.mem_of_getElem? (i := 68) rfl)
 have w78_ := hw _ (List.mem_of_getElem? (i := 78) rfl)
 have w109_ := hw _ (List.mem_of_getElem? (i := 109) rfl)
 have w110_ := hw _ (List.mem_of_getElem? (i := 110) rfl)
 have w111_ := hw _ (List.mem_of_getElem? (i := 111) rfl)
 have w112_ := hw _ (List.mem_of_getElem? (i := 112) rfl)
 have w113_ := hw _ (List.mem_of_getElem? (i := 113) rfl)
 have w114_ := hw _ (List.mem_of_getElem? (i := 114) rfl)
 have w115_ := hw _ (List.mem_of_getElem? (i := 115) rfl)
 have w116_ := hw _ (List.mem_of_getElem? (i := 116) rfl)
 have w131_ := hw _ (List.mem_of_getElem? (i := 131) rfl)
 have w132_ := hw _ (List.mem_of_getElem? (i := 132) rfl)
 have w133_ := hw _ (List.mem_of_getElem? (i := 133) rfl)
 have w134_ := hw _ (List.mem_of_getElem? (i := 134) rfl)
 have w139_ := hw _ (List.mem_of_getElem? (i := 139) rfl)
 obtain ⟨EB, FR, FL, FU, FS, FN, FQ⟩ := BBp
 obtain ⟨⟨vs, VR, hvl, gr⟩, ⟨wl, VL, hwl, gl⟩, hra, hl3⟩ := ARp
 show Go p e below (RetG s (Q_lnG Z a q sd t rk la up qy kr kl rs As i ba h0 n0) 1 3) (s₁.setTop (entryFrame m #[(.ref a), (.long q)] 5))
 rw [show entryFrame m #[(.ref a), (.long q)] 5 = mkF m 0 #[.val (.ref a), .val (.long q), .second, .unset, .unset] [] from by first | (simp [entryFrame, mkF, argsToLocals, Value.category]; done) | rfl]
 refine g_aloadN X0 hx hby d13_0 rfl rfl ?_
 refine g_lloadN X0 hx hby d13_1 rfl ?_
 refine g_private X0 hx hby hZ hown (rm_idxG l Z a0 hw [] a q sd t rk kr vs rs ba h0 n0 Z0 SB OLD EB FS FR FN ht VR gr hl3) w109_ w110_ w9_ w111_ w10_ w112_ (by decide) e0 EB (by rw [hml]; rfl) [(.long q)] (lenOf own_pd6 rfl) rfl rfl (Nat.le_of_ble_eq_true rfl) (Nat.le_of_ble_eq_true rfl) (Nat.le_of_ble_eq_true rfl) (Nat.le_of_ble_eq_true rfl) d13_2 (fun v1 T1 L1 X1 hQ1 => ?_)
 obtain ⟨rfl, N1q, eh1⟩ := hQ1
 have N1 := Fr.app N0 N1q
 refine g_topI (T := T1) (-(Int32.ofNat (i + 1))) hix ?_
 refine g_istoreN X1 hx hby d13_5 (l' := #[.val (.ref a), .val (.long q), .second, .val (.int (-(Int32.ofNat (i + 1)))), .unset]) rfl ?_
 refine g_iloadN X1 hx hby d13_6 rfl ?_
 refine g_ifY X1 hx hby 17 d13_7 (tlt ((own_negi (by omega)) : (-(Int32.ofNat (i + 1))) < (0 : Int32))).1 (by decide) (by decide) ?_
 refine g_iloadN X1 hx hby d13_17 rfl ?_
 refine g_ineg X1 hx hby d13_18 ?_
 refine g_iconst X1 hx hby (1 : Int32) d13_19 rfl ?_
 refine g_isub X1 hx hby d13_20 ?_
 refine g_topI (Int32.ofNat i) own_ni ?_
 refine g_istore X1 hx hby d13_21 (l' := #[.val (.ref a), .val (.long q), .second, .val (.int (-(Int32.ofNat (i + 1)))), .val (.int (Int32.ofNat i))]) rfl ?_
 refine g_aloadN X1 hx hby d13_23 rfl rfl ?_
 refine g_getF X1 hx hby hZ hown (host := "") (Or.inl w67_) Via.refl eh1 FN d13_24 (fun T2 X2 e2 => ?_)
 refine g_aloadN X2 hx hby d13_27 rfl rfl ?_
 refine g_getF X2 hx hby hZ hown (host := "") (Or.inl w22_) Via.refl e2 FL d13_28 (fun T3 X3 e3 => ?_)
 refine g_arraylength X3 hx hby hZ e3 VL d13_31 ?_
 refine g_icY X3 hx hby 72 d13_32 (feq ((own_ne16 (by omega)) : ¬ ((Int32.ofNat rs.length) = (16 : Int32)))).2 (by decide) (by decide) ?_
 refine g_aloadN X3 hx hby d13_72 rfl rfl ?_
 refine g_getF X3 hx hby hZ hown (host := "") (Or.inl w18_) Via.refl e3 FR d13_73 (fun T4 X4 e4 => ?_)
 refine g_iload X4 hx hby d13_76 rfl ?_
 refine g_aloadN X4 hx hby d13_78 rfl rfl ?_
 refine g_getF X4 hx hby hZ hown (host := "") (Or.inl w18_) Via.refl e4 FR d13_79 (fun T5 X5 e5 => ?_)
 refine g_iload X5 hx hby d13_82 rfl ?_
 refine g_iconst X5 hx hby (1 : Int32) d13_84 rfl ?_
 refine g_iadd X5 hx hby d13_85 ?_
 refine g_topI (Int32.ofNat (i + 1)) (own_up i) ?_
 refine g_aloadN X5 hx hby d13_86 rfl rfl ?_
 refine g_getF X5 hx hby hZ hown (host := "") (Or.inl w67_) Via.refl e5 FN d13_87 (fun T6 X6 e6 => ?_)
 refine g_iload X6 hx hby d13_90 rfl ?_
 refine g_isub X6 hx hby d13_92 ?_
 refine g_topI (Int32.ofNat (rs.length - i)) (own_subN hi (by omega)) ?_
 refine g_arraycopyE X6 hx hby hZ hown w131_ w134_ w132_ w133_ e6 VR VR (Or.inl ⟨rfl, rfl⟩) (own_nneg (by omega)) (own_nneg (by omega)) (own_nneg (by omega)) (by rw [own_tn2 (by omega), own_tn2 (by omega)]; show _ ≤ 16; omega) (by rw [own_tn2 (by omega), own_tn2 (by omega)]; show _ ≤ 16; omega) rfl (by rw [own_tn2 (by omega), own_tn2 (by omega)]; omega) N1 grk (by rw [hml]; rfl) d13_93 (Nat.le_of_ble_eq_true rfl) (Nat.le_of_ble_eq_true rfl) (fun T7 h7 L7 vs7 evs7 X7 e7 N7 K7 V7 => ?_)
 rw [own_tn2 (i := i + 1) (by omega), own_tn2 (i := rs.length - i) (by omega), own_tn2 (i := i) (by omega)] at evs7
 have hv7 : 16 ≤ vs7.length := by rw [evs7, own_cplen (by omega)]; exact hvl
 refine g_aloadN X7 hx hby d13_96 rfl rfl ?_
 have ne8 : a ≠ rk := (Exa.neArv (EB.keep K7) V7 w9_)
 have f9 := (FL.keep K7 (ninS ne8 nin0))
 refine g_getF X7 hx hby hZ hown (host := "") (Or.inl w22_) Via.refl e7 f9 d13_97 (fun T10 X10 e10 => ?_)
 refine g_iload X10 hx hby d13_100 rfl ?_
 refine g_aloadN X10 hx hby d13_102 rfl rfl ?_
 refine g_getF X10 hx hby hZ hown (host := "") (Or.inl w22_) Via.refl e10 f9 d13_103 (fun T11 X11 e11 => ?_)
 refine g_iload X11 hx hby d13_106 rfl ?_
 refine g_iconst X11 hx hby (1 : Int32) d13_108 rfl ?_
 refine g_iadd X11 hx hby d13_109 ?_
 refine g_topI (Int32.ofNat (i + 1)) (own_up i) ?_
 refine g_aloadN X11 hx hby d13_110 rfl rfl ?_
 have f12 := (FN.keep K7 (ninS ne8 nin0))
 refine g_getF X11 hx hby hZ hown (host := "") (Or.inl w67_) Via.refl e11 f12 d13_111 (fun T13 X13 e13 => ?_)
 refine g_iload X13 hx hby d13_114 rfl ?_
 refine g_isub X13 hx hby d13_116 ?_
 refine g_topI (Int32.ofNat (rs.length - i)) (own_subN hi (by omega)) ?_
 refine g_at 117 rfl rfl rfl ?_
 have f14 := (VL.keep K7 (ninS (Ne.symm nrl) nin0))
 refine g_arraycopyE X13 hx hby hZ hown w131_ w134_ w132_ w133_ e13 f14 f14 (Or.inr ⟨rfl, rfl, own_stoR f14 OV (fun k hk => by
    rw [own_tn2 (by omega)] at hk
    refine Or.inr ⟨As.getD (i + k) 0, ?_, Ins.self ((EAs _ (own_mem (by omega))).keep ((Keep.refl h0 [a, rk, la]).trans K7 (allS (Or.inl (List.mem_of_getElem? (i := 1) rfl)) all0)))⟩
    rw [own_tn2 (by omega)]; exact gl (i + k) (by omega))⟩) (own_nneg (by omega)) (own_nneg (by omega)) (own_nneg (by omega)) (by rw [own_tn2 (by omega), own_tn2 (by omega)]; show _ ≤ 16; omega) (by rw [own_tn2 (by omega), own_tn2 (by omega)]; show _ ≤ 16; omega) rfl (by rw [own_tn2 (by omega), own_tn2 (by omega)]; omega) N7 gla (by rw [hml]; rfl) d13_117 (Nat.le_of_ble_eq_true rfl) (Nat.le_of_ble_eq_true rfl) (fun T15 h15 L15 vs15 evs15 X15 e15 N15 K15 V15 => ?_)
 rw [own_tn2 (i := i + 1) (by omega), own_tn2 (i := rs.length - i) (by omega), own_tn2 (i := i) (by omega)] at evs15
 have hv15 : 16 ≤ vs15.length := by rw [evs15, own_cplen (by omega)]; exact hwl
 refine g_aloadN X15 hx hby d13_120 rfl rfl ?_
 have ne16 : a ≠ la := (Exa.neArv ((EB.keep K7).keep K15) V15 w9_)
 have f17 := ((FR.keep K7 (ninS ne8 nin0)).keep K15 (ninS ne16 nin0))
 refine g_getF X15 hx hby hZ hown (host := "") (Or.inl w18_) Via.refl e15 f17 d13_121 (fun T18 X18 e18 => ?_)
 refine g_iload X18 hx hby d13_124 rfl ?_
 refine g_aloadN X18 hx hby d13_126 rfl rfl ?_
 refine g_lloadN X18 hx hby d13_127 rfl ?_
 have f20 := ((OLD.keep K7 (allS grk all0)).keep K15 (allS gla all0))
 have f21 := ((FS.keep K7 (ninS ne8 nin0)).keep K15 (ninS ne16 nin0))
 have z22 := (Nat.le_trans Z0 (Nat.le_trans K7.1 K15.1))
 have f23 := ((EB.keep K7).keep K15)
 refine g_private X18 hx hby hZ hown (rm_rank l Z a0 hw [] a q sd t ba h15 n0 z22 SB f20 f21 ht) w113_ w114_ w9_ w115_ w10_ w116_ (by decide) e18 f23 (by rw [hml]; rfl) [(.long q)] (lenOf own_pd4 rfl) rfl rfl (Nat.le_of_ble_eq_true rfl) (Nat.le_of_ble_eq_true rfl) (Nat.le_of_ble_eq_true rfl) (Nat.le_of_ble_eq_true rfl) d13_128 (fun v19 T19 L19 X19 hQ19 => ?_)
 obtain ⟨rfl, N19q, eh19⟩ := hQ19
 have N19 := Fr.app N15 N19q
 have f24 := (V7.keep K15 (ninS nrl nin0))
 refine g_lastore X19 hx hby hZ eh19 f24 i (vs7.set i (.long t)) rfl (own_in2 (by omega)) (own_tn2 (by omega)) (by omega) N19 grk d13_131 (fun T25 h25 X25 e25 W25 V25 N25 => ?_)
 refine g_aloadN X25 hx hby d13_132 rfl rfl ?_
 have f26 := ((f9.keep K15 (ninS ne16 nin0)).other W25 (Or.inl ne8))
 refine g_getF X25 hx hby hZ hown (host := "") (Or.inl w22_) Via.refl e25 f26 d13_133 (fun T27 X27 e27 => ?_)
 refine g_iload X27 hx hby d13_136 rfl ?_
 refine g_new X27 hx hby hZ hown w20_ w24_ w25_ e27 (by decide) (by decide) d13_138 (fun T28 h28 b28 g28 X28 e28 E28 A28 D28 => ?_)
 have F_price_b28 : Fld Z h28 b28 "com/example/tidegate/tidegate/engine/BookSide$Level" "price" "J" (.long (0 : Int64)) := D28 (Or.inr w32_) (ty := .long) (by decide)
 have F_first_b28 : Fld Z h28 b28 "com/example/tidegate/tidegate/engine/BookSide$Level" "first" "Lcom/example/tidegate/tidegate/engine/Order;" .null := D28 (Or.inl w66_) (ty := (.object "com/example/tidegate/tidegate/engine/Order")) (by decide)
 have F_last_b28 : Fld Z h28 b28 "com/example/tidegate/tidegate/engine/BookSide$Level" "last" "Lcom/example/tidegate/tidegate/engine/Order;" .null := D28 (Or.inl w139_) (ty := (.object "com/example/tidegate/tidegate/engine/Order")) (by decide)
 refine g_dup X28 hx hby d13_141 rfl ?_
 refine g_lloadN X28 hx hby d13_142 rfl ?_
 have g_b28 : n0 ≤ b28 := Nat.le_trans (Nat.le_trans z22 (Keep.of_wr W25).1) (Nat.le_of_eq g28)
 have z30 := (Nat.le_trans z22 (Nat.le_trans (Keep.of_wr W25).1 E28.1))
 refine g_special X28 hx hby hZ hown (rm_lvini l Z a0 hw [] b28 q h28 n0 z30 A28 F_price_b28 F_first_b28 F_last_b28 g_b28) rfl rfl w27_ w28_ w25_ w29_ (by decide) e28 (by rw [hml]; rfl) [(.long q)] (lenOf own_pd0 rfl) rfl rfl (Nat.le_of_ble_eq_true rfl) (Nat.le_of_ble_eq_true rfl) (Nat.le_of_ble_eq_true rfl) (Nat.le_of_ble_eq_true rfl) d13_143 (fun v29 T29 L29 X29 hQ29 => ?_)
 obtain ⟨rfl, N29q, K29, lE29, lF29, lL29⟩ := hQ29
 have N29 := Fr.app N25 N29q
 have f31 := (A28.keep K29)
 have ne32 : la ≠ b28 := (Nat.ne_of_lt (Nat.lt_of_lt_of_le VL.lt (Nat.le_trans (Nat.le_trans (Nat.le_trans K7.1 K15.1) (Keep.of_wr W25).1) (Nat.le_of_eq g28))))
 have f33 := (((V15.other W25 (Ne.symm nrl)).ext E28).keep K29 (ninS ne32 nin0))
 refine g_aastore X29 hx hby hZ rfl f33 OV (Or.inr ⟨_, rfl, Ins.self f31⟩) i (vs15.set i (.ref b28)) rfl (own_in2 (by omega)) (own_tn2 (by omega)) (by omega) N29 gla d13_146 (fun T34 h34 X34 e34 W34 V34 N34 => ?_)
 refine g_at 147 rfl rfl rfl ?_
 refine g_aloadN X34 hx hby d13_147 rfl rfl ?_
 refine g_dup X34 hx hby d13_148 rfl ?_
 have ne35 : a ≠ b28 := (Nat.ne_of_lt (Nat.lt_of_lt_of_le EB.lt (Nat.le_trans (Nat.le_trans (Nat.le_trans K7.1 K15.1) (Keep.of_wr W25).1) (Nat.le_of_eq g28))))
 have f36 := (((((f12.keep K15 (ninS ne16 nin0)).other W25 (Or.inl ne8)).ext E28).keep K29 (ninS ne35 nin0)).other W34 (Or.inl ne16))
 refine g_getF X34 hx hby hZ hown (host := "") (Or.inl w67_) Via.refl e34 f36 d13_149 (fun T37 X37 e37 => ?_)
 refine g_iconst X37 hx hby (1 : Int32) d13_152 rfl ?_
 refine g_iadd X37 hx hby d13_153 ?_
 have f38 := ((((f23.wr W25).ext E28).keep K29).wr W34)
 refine g_putF X37 hx hby hZ hown (host := "") (Or.inl w67_) Via.refl e37 f36 f38 (Or.inl w68_) w9_ .int (by decide) rfl rfl N34 ga d13_154 (fun T39 h39 X39 e39 W39 F39 N39 => ?_)
 refine g_aloadN X39 hx hby d13_157 rfl rfl ?_
 have f40 := ((((f26.ext E28).keep K29 (ninS ne35 nin0)).other W34 (Or.inl ne16)).other W39 (Or.inr (slot_ne (Or.inl w23_) (Or.inl w68_) (by decide) (t := (.array (.object "com/example/tidegate/tidegate/engine/BookSide$Level"))) (t' := .int) (by decide) (by decide))))
 refine g_getF X39 hx hby hZ hown (host := "") (Or.inl w22_) Via.refl e39 f40 d13_158 (fun T41 X41 e41 => ?_)
 refine g_iload X41 hx hby d13_161 rfl ?_
 have f42 := (V34.other W39 (Ne.symm ne16))
 refine g_aaload X41 hx hby hZ e41 f42 rfl (.ref b28) (own_in2 (by omega)) (by rw [own_tn2 (by omega)]; exact own_setD (by omega)) d13_163 ?_
 have iR := own_insD (f := Value.long) (t := t) hi hvl hl3 gr evs7
 have iL := own_insD (f := Value.ref) (i := i) (vs' := vs15) (t := b28) (z := 0) (rs := As) (by omega) hwl (by omega) gl (by rw [← hra]; exact evs15)
 have f43 := (f38.wr W39)
 have f44 := (((((f17.other W25 (Or.inl ne8)).ext E28).keep K29 (ninS ne35 nin0)).other W34 (Or.inl ne16)).other W39 (Or.inr (slot_ne (Or.inl w19_) (Or.inl w68_) (by decide) (t := (.array .long)) (t' := .int) (by decide) (by decide))))
 have f45 := (((((((FU.keep K7 (ninS ne8 nin0)).keep K15 (ninS ne16 nin0)).other W25 (Or.inl ne8)).ext E28).keep K29 (ninS ne35 nin0)).other W34 (Or.inl ne16)).other W39 (Or.inr (slot_ne (Or.inr w34_) (Or.inl w68_) (by decide) (t := (.object "com/example/tidegate/tidegate/engine/BookSide$Level")) (t' := .int) (by decide) (by decide))))
 have f46 := (((((f21.other W25 (Or.inl ne8)).ext E28).keep K29 (ninS ne35 nin0)).other W34 (Or.inl ne16)).other W39 (Or.inr (slot_ne (Or.inr w36_) (Or.inl w68_) (by decide) (t := (.object "com/example/tidegate/tidegate/engine/Side")) (t' := .int) (by decide) (by decide))))
 have f47 := (((((((FQ.keep K7 (ninS ne8 nin0)).keep K15 (ninS ne16 nin0)).other W25 (Or.inl ne8)).ext E28).keep K29 (ninS ne35 nin0)).other W34 (Or.inl ne16)).other W39 (Or.inr (slot_ne (Or.inl w78_) (Or.inl w68_) (by decide) (t := .long) (t' := .int) (by decide) (by decide))))
 have ne48 : rk ≠ b28 := (Nat.ne_of_lt (Nat.lt_of_lt_of_le VR.lt (Nat.le_trans (Nat.le_trans (Nat.le_trans K7.1 K15.1) (Keep.of_wr W25).1) (Nat.le_of_eq g28))))
 have f49 := ((((V25.ext E28).keep K29 (ninS ne48 nin0)).other W34 nrl).other W39 (Ne.symm ne8))
 have f50 := ((f31.wr W34).wr W39)
 have f51 := ((lF29.other W34 (Or.inl (Ne.symm ne32))).other W39 (Or.inl (Ne.symm ne35)))
 have f52 := ((lL29.other W34 (Or.inl (Ne.symm ne32))).other W39 (Or.inl (Ne.symm ne35)))
 refine g_aret X41 hx hby (t := (.object "com/example/tidegate/tidegate/engine/BookSide$Level")) rfl rfl rfl Bd.returns Bd.notSynchronized d13_164 e41 (by decide) (by decide) ?_
 show (Q_lnG Z a q sd t rk la up qy kr kl rs As i ba h0 n0) (some (.ref b28)) _ _
 exact ⟨N39, ((((((((Keep.refl h0 [a, rk, la]).trans K7 (allS (Or.inl (List.mem_of_getElem? (i := 1) rfl)) all0)).trans K15 (allS (Or.inl (List.mem_of_getElem? (i := 2) rfl)) all0)).wr W25 (Or.inl (List.mem_of_getElem? (i := 1) rfl))).ext E28).trans K29 (allS (Or.inr (Nat.le_trans (Nat.le_trans (Nat.le_trans K7.1 K15.1) (Keep.of_wr W25).1) (Nat.le_of_eq g28))) all0)).wr W34 (Or.inl (List.mem_of_getElem? (i := 2) rfl))).wr W39 (Or.inl (List.mem_of_getElem? (i := 0) rfl))), b28, rfl, (Nat.le_trans (Nat.le_trans (Nat.le_trans K7.1 K15.1) (Keep.of_wr W25).1) (Nat.le_of_eq g28)), ⟨f43, f44, f40, f45, f46, (by rw [List.length_insertIdx_of_le_length hi, ← own_up]; exact F39), f47⟩, ⟨⟨_, f49, iR.1, iR.2⟩, ⟨_, f42, iL.1, iL.2⟩, by rw [List.length_insertIdx_of_le_length hi, List.length_insertIdx_of_le_length (by omega), hra], by rw [List.length_insertIdx_of_le_length hi]; omega⟩, f50, f51, f52⟩

theorem d7_0 : decode prog_2_method_7_code 0 = .ok (.aload_n 0, 1) := by decide +kernel
theorem d7_1 : decode prog_2_method_7_code 1 = .ok (.dup, 1) := by decide +kernel
theorem d7_2 : decode prog_2_method_7_code 2 = .ok (.getfield 59, 3) := by decide +kernel
theorem d7_5 : decode prog_2_method_7_code 5 = .ok (.aload_n 1, 1) := by decide +kernel
theorem d7_6 : decode prog_2_method_7_code 6 = .ok (.invokevirtual 52, 3) := by decide +kernel
theorem own_pd7 : parseMethodDescriptor "()J" = some ⟨[], some .long⟩ := by decide +kernel
theorem d7_9 : decode prog_2_method_7_code 9 = .ok (.ladd, 1) := by decide +kernel
theorem d7_10 : decode prog_2_method_7_code 10 = .ok (.putfield 59, 3) := by decide +kernel
theorem d7_13 : decode prog_2_method_7_code 13 = .ok (.aload_n 1, 1) := by decide +kernel
theorem d7_14 : decode prog_2_method_7_code 14 = .ok (.invokevirtual 62, 3) := by decide +kernel
theorem own_pd8 : parseMethodDescriptor "()V" = some ⟨[], none⟩ := by decide +kernel
theorem d7_17 : decode prog_2_method_7_code 17 = .ok (.aload_n 1, 1) := by decide +kernel
theorem d7_18 : decode prog_2_method_7_code 18 = .ok (.invokevirtual 65, 3) := by decide +kernel
theorem own_pd9 : parseMethodDescriptor "()Z" = some ⟨[], some .boolean⟩ := by decide +kernel
theorem d7_21 : decode prog_2_method_7_code 21 = .ok (.ifCond .eq 14, 3) := by decide +kernel
theorem d7_35 : decode prog_2_method_7_code 35 = .ok (.aload_n 0, 1) := by decide +kernel
theorem d7_36 : decode prog_2_method_7_code 36 = .ok (.getfield 26, 3) := by decide +kernel
theorem d7_39 : decode prog_2_method_7_code 39 = .ok (.astore_n 2, 1) := by decide +kernel
theorem d7_40 : decode prog_2_method_7_code 40 = .ok (.aload_n 1, 1) := by decide +kernel
theorem d7_41 : decode prog_2_method_7_code 41 = .ok (.aload_n 0, 1) := by decide +kernel
theorem d7_42 : decode prog_2_method_7_code 42 = .ok (.putfield 76, 3) := by decide +kernel
theorem d7_45 : decode prog_2_method_7_code 45 = .ok (.aload_n 1, 1) := by decide +kernel
theorem d7_46 : decode prog_2_method_7_code 46 = .ok (.aload_n 2, 1) := by decide +kernel
theorem d7_47 : decode prog_2_method_7_code 47 = .ok (.getfield 80, 3) := by decide +kernel
theorem d7_50 : decode prog_2_method_7_code 50 = .ok (.putfield 83, 3) := by decide +kernel
theorem d7_53 : decode prog_2_method_7_code 53 = .ok (.aload_n 1, 1) := by decide +kernel
theorem d7_54 : decode prog_2_method_7_code 54 = .ok (.aconst_null, 1) := by decide +kernel
theorem d7_55 : decode prog_2_method_7_code 55 = .ok (.putfield 56, 3) := by decide +kernel
theorem d7_58 : decode prog_2_method_7_code 58 = .ok (.aload_n 2, 1) := by decide +kernel
theorem d7_59 : decode prog_2_method_7_code 59 = .ok (.getfield 80, 3) := by decide +kernel
theorem d7_62 : decode prog_2_method_7_code 62 = .ok (.ifnonnull 11, 3) := by decide +kernel
theorem d7_65 : decode prog_2_method_7_code 65 = .ok (.aload_n 2, 1) := by decide +kernel
theorem d7_66 : decode prog_2_method_7_code 66 = .ok (.aload_n 1, 1) := by decide +kernel
theorem d7_67 : decode prog_2_method_7_code 67 = .ok (.putfield 34, 3) := by decide +kernel
theorem d7_70 : decode prog_2_method_7_code 70 = .ok (.goto 11, 3) := by decide +kernel
theorem d7_81 : decode prog_2_method_7_code 81 = .ok (.aload_n 2, 1) := by decide +kernel
theorem d7_82 : decode prog_2_method_7_code 82 = .ok (.aload_n 1, 1) := by decide +kernel
theorem d7_83 : decode prog_2_method_7_code 83 = .ok (.putfield 80, 3) := by decide +kernel
theorem d7_86 : decode prog_2_method_7_code 86 = .ok (.return_, 1) := by decide +kernel
def Q_addU (Z : State) (a : Addr) (q : Int64) (sd : Addr) (rk : Addr) (la : Addr) (up : Addr) (qy : Int64) (o : Addr) (cn : Int32) (ba : Addr) (h0 : Heap) (n0 : Nat) (v : Option Value) (h : Heap) (L : List Loc) : Prop := v = none ∧ Fr n0 L ∧ Keep h0 h [a, o, up] ∧ own_BB Z h a rk la up sd cn (qy + (1 : Int64)) ∧ own_OO Z h o q .null .null (.ref a) ∧ own_LL Z h up (.ref o) (.ref o)
set_option maxRecDepth 65536 in
set_option maxHeartbeats 40000000 in
theorem rm_addU (l : Launch) (Z : State) (a0 : Array Value) (hw : ∀ d ∈ tables_1, d.before a0 Z = true) (ws : List Jvm.Cond) (a : Addr) (q : Int64) (sd : Addr) (rk : Addr) (la : Addr) (up : Addr) (qy : Int64) (o : Addr) (cn : Int32) (ba : Addr) (h0 : Heap) (n0 : Nat) (Z0 : n0 ≤ h0.size) (SB : Sta Z Z.heap "com/example/tidegate/tidegate/engine/Side" "BUY" "Lcom/example/tidegate/tidegate/engine/Side;" (.ref ba)) (OLD : Old Z n0 h0) (BBp : own_BB Z h0 a rk la up sd cn qy) (ORp : own_OO Z h0 o q .null .null .null) (ga : n0 ≤ a) (go : n0 ≤ o) (hq : q = (-9223372036854775808 : Int64)) (LLp : own_LL Z h0 up .null .null) (glv : n0 ≤ up) :
  MetFree l (⟨"com/example/tidegate/tidegate/engine/BookSide", "add", "(Lcom/example/tidegate/tidegate/engine/Order;)V"⟩ : MethodName) (head1 (Jvm.Cond.code (⟨"com/example/tidegate/tidegate/engine/BookSide", "add", "(Lcom/example/tidegate/tidegate/engine/Order;)V"⟩ : MethodName) prog_2_method_7_code 3 none :: ws) ({ frames := 6, cells := 1, slots := 3, locals := 155 } : Room)) (fun aa_ U => aa_ = #[(.ref a), (.ref o)] ∧ Z.Warmed39 U.vm ∧ U.heap = h0) (fun _ _ _ _ _ => True) (fun _ U o_ U' => RetG U (Q_addU Z a q sd rk la up qy o cn ba h0 n0) 1 3 U' o_) := by
 refine MetFree.of_bodySF (plainFor_of_name own_pn1) hisR ?_
 intro p e s m args below meth c_ s₁ Bd hml0 hP hK
 obtain ⟨rfl, hZ, hh⟩ := hP
 have hx := Bd.exec
 have hby := Bd.bytes
 have hml : c_.maxLocals = 3 := hml0
 have hown : s.vm.findClass "com/example/tidegate/tidegate/engine/BookSide" = some m.cls := findClass_of_methodNamed Bd.named
 have hnm := (name_of_methodNamed Bd.named Bd.method).1
 have X0 : Stand p l e ({ frames := 6, cells := 1, slots := 3, locals := 155 } : Room) s m #[(.ref a), (.ref o)] below meth c_ s₁ [] 0 0 := Stand.of_body Bd
 have e0 : s₁.heap = h0 := by rw [← hh, Bd.state]; rfl
 have N0 := Fr.nil n0
 have w9_ := hw _ (List.mem_of_getElem? (i := 9) rfl)
 have w19_ := hw _ (List.mem_of_getElem? (i := 19) rfl)
 have w23_ := hw _ (List.mem_of_getElem? (i := 23) rfl)
 have w24_ := hw _ (List.mem_of_getElem? (i := 24) rfl)
 have w33_ := hw _ (List.mem_of_getElem? (i := 33) rfl)
 have w34_ := hw _ (List.mem_of_getElem? (i := 34) rfl)
 have w36_ := hw _ (List.mem_of_getElem? (i := 36) rfl)
 have w38_ := hw _ (List.mem_of_getElem? (i := 38) rfl)
 have w39_ := hw _ (List.mem_of_getElem? (i := 39) rfl)
 have w55_ := hw _ (List.mem_of_getElem? (i := 55) rfl)
 have w57_ := hw _ (List.mem_of_getElem? (i := 57) rfl)
 have w59_ := hw _ (List.mem_of_getElem? (i := 59) rfl)
 have w65_ := hw _ (List.mem_of_getElem? (i := 65) rfl)
 have w66_ := hw _ (List.mem_of_getElem? (i := 66) rfl)
 have w68_ := hw _ (List.mem_of_getElem? (i := 68) rfl)
 have w77_ := hw _ (List.mem_of_getElem? (i := 77) rfl)
 have w78_ := hw _ (List.mem_of_getElem? (i := 78) rfl)
 have w79_ := hw _ (List.mem_of_getElem? (i := 79) rfl)
 have w80_ := hw _ (List.mem_of_getElem? (i := 80) rfl)
 have w81_ := hw _ (List.mem_of_getElem? (i := 81) rfl)
 have w82_ := hw _ (List.mem_of_getElem? (i := 82) rfl)
 have w83_ := hw _ (List.mem_of_getElem? (i := 83) rfl)
 have w84_ := hw _ (List.mem_of_getElem? (i := 84) rfl)
 have w85_ := hw _ (List.mem_of_getElem? (i := 85) rfl)
 have w86_ := hw _ (List.mem_of_getElem? (i := 86) rfl)
 have w87_ := hw _ (List.mem_of_getElem? (i := 87) rfl)
 have w88_ := hw _ (List.mem_of_getElem? (i := 88) rfl)
 have w93_ := hw _ (List.mem_of_getElem? (i := 93) rfl)
 have w94_ := hw _ (List.mem_of_getElem? (i := 94) rfl)
 have w95_ := hw _ (List.mem_of_getElem? (i := 95) rfl)
 have w96_ := hw _ (List.mem_of_getElem? (i := 96) rfl)
 have w97_ := hw _ (List.mem_of_getElem? (i := 97) rfl)
 have w98_ := hw _ (List.mem_of_getElem? (i := 98) rfl)
 have w136_ := hw _ (List.mem_of_getElem? (i := 136) rfl)
 have w137_ := hw _ (List.mem_of_getElem? (i := 137) rfl)
 have w138_ := hw _ (List.mem_of_getElem? (i := 138) rfl)
 have w139_ := hw _ (List.mem_of_getElem? (i := 139) rfl)
 have w140_ := hw _ (List.mem_of_getElem? (i := 140) rfl)
 have w141_ := hw _ (List.mem_of_getElem? (i := 141) rfl)
 have w142_ := hw _ (List.mem_of_getElem? (i := 142) rfl)
 have w143_ := hw _ (List.mem_of_getElem? (i := 143) rfl)
 obtain ⟨EB, FR, FL, FU, FS, FN, FQ⟩ := BBp
 obtain ⟨oE, o1, o2, o3, o4, o5, o6, o7⟩ := ORp
 obtain ⟨lE, lF, lL⟩ := LLp
 show Go p e below (RetG s (Q_addU Z a q sd rk la up qy o cn ba h0 n0) 1 3) (s₁.setTop (entryFrame m #[(.ref a), (.ref o)] 3))
 rw [show entryFrame m #[(.ref a), (.ref o)] 3 = mkF m 0 #[.val (.ref a), .val (.ref o), .unset] [] from by first | (simp [entryFrame, mkF, argsToLocals, Value.category]; done) | rfl]
 refine g_aloadN X0 hx hby d7_0 rfl rfl ?_
 refine g_dup X0 hx hby d7_1 rfl ?_
 refine g_getF X0 hx hby hZ hown (host := "") (Or.inl w77_) Via.refl e0 FQ d7_2 (fun T1 X1 e1 => ?_)
 refine g_aloadN X1 hx hby d7_5 rfl rfl ?_
 refine g_virtual X1 hx hby hZ hown (rm_grem l Z a0 hw [] o (1 : Int64) h0 n0 Z0 o3) w79_ w80_ (notFace_of_selects (args := #[]) (mvT hZ w82_)) w82_ w81_ w39_ w83_ (by decide) e1 oE (by rw [hml]; rfl) [] (lenOf own_pd7 rfl) rfl rfl (Nat.le_of_ble_eq_true rfl) (Nat.le_of_ble_eq_true rfl) (Nat.le_of_ble_eq_true rfl) (Nat.le_of_ble_eq_true rfl) d7_6 (fun v2 T2 L2 X2 hQ2 => ?_)
 obtain ⟨rfl, N2q, eh2⟩ := hQ2
 have N2 := Fr.app N0 N2q
 refine g_ladd X2 hx hby d7_9 ?_
 refine g_putF X2 hx hby hZ hown (host := "") (Or.inl w77_) Via.refl eh2 FQ EB (Or.inl w78_) w9_ .long (by decide) rfl rfl N2 ga d7_10 (fun T3 h3 X3 e3 W3 F3 N3 => ?_)
 refine g_aloadN X3 hx hby d7_13 rfl rfl ?_
 have f5 := (oE.wr W3)
 have ne6 : o ≠ a := (Exa.ne oE EB (by decide))
 have f7 := (o1.other W3 (Or.inl ne6))
 have f8 := (o2.other W3 (Or.inl ne6))
 have f9 := (o3.other W3 (Or.inl ne6))
 have f10 := (o4.other W3 (Or.inl ne6))
 have f11 := (o5.other W3 (Or.inl ne6))
 have f12 := (o6.other W3 (Or.inl ne6))
 have f13 := (o7.other W3 (Or.inl ne6))
 have z14 := (Nat.le_trans Z0 (Keep.of_wr W3).1)
 refine g_virtual X3 hx hby hZ hown (rm_ssl l Z a0 hw [] o q .null .null .null h3 n0 z14 ⟨f5, f7, f8, f9, f10, f11, f12, f13⟩ go) w84_ w85_ (notFace_of_selects (args := #[]) (mvT hZ w87_)) w87_ w86_ w39_ w88_ (by decide) e3 f5 (by rw [hml]; rfl) [] (lenOf own_pd8 rfl) rfl rfl (Nat.le_of_ble_eq_true rfl) (Nat.le_of_ble_eq_true rfl) (Nat.le_of_ble_eq_true rfl) (Nat.le_of_ble_eq_true rfl) d7_14 (fun v4 T4 L4 X4 hQ4 => ?_)
 obtain ⟨rfl, N4q, K4, s0_4, s1_4, s2_4, s3_4, s4_4, s5_4, s6_4, s7_4⟩ := hQ4
 have N4 := Fr.app N3 N4q
 refine g_aloadN X4 hx hby d7_17 rfl rfl ?_
 have z16 := (Nat.le_trans z14 K4.1)
 have f17 := (f5.keep K4)
 refine g_virtual X4 hx hby hZ hown (rm_hasp l Z a0 hw [] o q T4.heap n0 z16 s1_4) w94_ w95_ (notFace_of_selects (args := #[]) (mvT hZ w97_)) w97_ w96_ w39_ w98_ (by decide) rfl f17 (by rw [hml]; rfl) [] (lenOf own_pd9 rfl) rfl rfl (Nat.le_of_ble_eq_true rfl) (Nat.le_of_ble_eq_true rfl) (Nat.le_of_ble_eq_true rfl) (Nat.le_of_ble_eq_true rfl) d7_18 (fun v15 T15 L15 X15 hQ15 => ?_)
 obtain ⟨rfl, N15q, eh15⟩ := hQ15
 have N15 := Fr.app N4 N15q
 refine g_topI (T := T15) (0 : Int32) (if_pos hq) ?_
 refine g_at 21 rfl rfl rfl ?_
 refine g_ifY X15 hx hby 35 d7_21 (teq (by decide : (0 : Int32) = (0 : Int32))).1 (by decide) (by decide) ?_
 refine g_aloadN X15 hx hby d7_35 rfl rfl ?_
 have f18 := ((FU.other W3 (Or.inr (slot_ne (Or.inr w34_) (Or.inl w78_) (by decide) (t := (.object "com/example/tidegate/tidegate/engine/BookSide$Level")) (t' := .long) (by decide) (by decide)))).keep K4 (ninS (Ne.symm ne6) nin0))
 refine g_getF X15 hx hby hZ hown (host := "") (Or.inl w33_) Via.refl eh15 f18 d7_36 (fun T19 X19 e19 => ?_)
 refine g_astoreN X19 hx hby d7_39 rfl (l' := #[.val (.ref a), .val (.ref o), .val (.ref up)]) rfl ?_
 refine g_aloadN X19 hx hby d7_40 rfl rfl ?_
 refine g_aloadN X19 hx hby d7_41 rfl rfl ?_
 refine g_putF X19 hx hby hZ hown (host := "") (Or.inl w136_) Via.refl e19 s7_4 f17 (Or.inl w137_) w38_ (.object "com/example/tidegate/tidegate/engine/BookSide") (by decide) rfl rfl N15 go d7_42 (fun T20 h20 X20 e20 W20 F20 N20 => ?_)
 refine g_aloadN X20 hx hby d7_45 rfl rfl ?_
 refine g_aloadN X20 hx hby d7_46 rfl rfl ?_
 have ne21 : up ≠ a := (Exa.ne lE EB (by decide))
 have ne22 : up ≠ o := (Exa.ne lE oE (by decide))
 have f23 := (((lL.other W3 (Or.inl ne21)).keep K4 (ninS ne22 nin0)).other W20 (Or.inl ne22))
 refine g_getFR X20 hx hby hZ hown w138_ e20 f23 d7_47 (fun T24 X24 e24 => ?_)
 have f25 := (f17.wr W20)
 have f26 := (s5_4.other W20 (Or.inr (slot_ne (Or.inl w141_) (Or.inl w137_) (by decide) (t := (.object "com/example/tidegate/tidegate/engine/Order")) (t' := (.object "com/example/tidegate/tidegate/engine/BookSide")) (by decide) (by decide))))
 refine g_putF X24 hx hby hZ hown (host := "") (Or.inl w140_) Via.refl e24 f26 f25 (Or.inl w141_) w38_ (.object "com/example/tidegate/tidegate/engine/Order") (by decide) rfl rfl N20 go d7_50 (fun T27 h27 X27 e27 W27 F27 N27 => ?_)
 refine g_aloadN X27 hx hby d7_53 rfl rfl ?_
 refine g_aconst_null X27 hx hby d7_54 ?_
 have f28 := (f25.wr W27)
 have f29 := ((s6_4.other W20 (Or.inr (slot_ne (Or.inl w143_) (Or.inl w137_) (by decide) (t := (.object "com/example/tidegate/tidegate/engine/Order")) (t' := (.object "com/example/tidegate/tidegate/engine/BookSide")) (by decide) (by decide)))).other W27 (Or.inr (slot_ne (Or.inl w143_) (Or.inl w141_) (by decide) (t := (.object "com/example/tidegate/tidegate/engine/Order")) (t' := (.object "com/example/tidegate/tidegate/engine/Order")) (by decide) (by decide))))
 refine g_putF X27 hx hby hZ hown (host := "") (Or.inl w142_) Via.refl e27 f29 f28 (Or.inl w143_) w38_ (.object "com/example/tidegate/tidegate/engine/Order") (by decide) rfl rfl N27 go d7_55 (fun T30 h30 X30 e30 W30 F30 N30 => ?_)
 refine g_aloadN X30 hx hby d7_58 rfl rfl ?_
 have f31 := ((f23.other W27 (Or.inl ne22)).other W30 (Or.inl ne22))
 refine g_getFR X30 hx hby hZ hown w138_ e30 f31 d7_59 (fun T32 X32 e32 => ?_)
 refine g_ifnonnullN X32 hx hby d7_62 ?_
 refine g_aloadN X32 hx hby d7_65 rfl rfl ?_
 refine g_aloadN X32 hx hby d7_66 rfl rfl ?_
 have f33 := (((((lE.wr W3).keep K4).wr W20).wr W27).wr W30)
 have f34 := (((((lF.other W3 (Or.inl ne21)).keep K4 (ninS ne22 nin0)).other W20 (Or.inl ne22)).other W27 (Or.inl ne22)).other W30 (Or.inl ne22))
 refine g_putFR X32 hx hby hZ hown w65_ e32 f34 f33 w66_ w24_ (.object "com/example/tidegate/tidegate/engine/Order") (by decide) rfl rfl N30 glv d7_67 (fun T35 h35 X35 e35 W35 F35 N35 => ?_)
 refine g_goto X35 hx hby 81 d7_70 (by decide) (by decide) ?_
 refine g_aloadN X35 hx hby d7_81 rfl rfl ?_
 refine g_aloadN X35 hx hby d7_82 rfl rfl ?_
 have f36 := (f33.wr W35)
 have f37 := (f31.other W35 (Or.inr (slot_ne (Or.inl w139_) (Or.inl w66_) (by decide) (t := (.object "com/example/tidegate/tidegate/engine/Order")) (t' := (.object "com/example/tidegate/tidegate/engine/Order")) (by decide) (by decide))))
 refine g_putFR X35 hx hby hZ hown w138_ e35 f37 f36 w139_ w24_ (.object "com/example/tidegate/tidegate/engine/Order") (by decide) rfl rfl N35 glv d7_83 (fun T38 h38 X38 e38 W38 F38 N38 => ?_)
 have f39 := (((((((EB.wr W3).keep K4).wr W20).wr W27).wr W30).wr W35).wr W38)
 have f40 := (((((((FR.other W3 (Or.inr (slot_ne (Or.inl w19_) (Or.inl w78_) (by decide) (t := (.array .long)) (t' := .long) (by decide) (by decide)))).keep K4 (ninS (Ne.symm ne6) nin0)).other W20 (Or.inl (Ne.symm ne6))).other W27 (Or.inl (Ne.symm ne6))).other W30 (Or.inl (Ne.symm ne6))).other W35 (Or.inl (Ne.symm ne21))).other W38 (Or.inl (Ne.symm ne21)))
 have f41 := (((((((FL.other W3 (Or.inr (slot_ne (Or.inl w23_) (Or.inl w78_) (by decide) (t := (.array (.object "com/example/tidegate/tidegate/engine/BookSide$Level"))) (t' := .long) (by decide) (by decide)))).keep K4 (ninS (Ne.symm ne6) nin0)).other W20 (Or.inl (Ne.symm ne6))).other W27 (Or.inl (Ne.symm ne6))).other W30 (Or.inl (Ne.symm ne6))).other W35 (Or.inl (Ne.symm ne21))).other W38 (Or.inl (Ne.symm ne21)))
 have f42 := (((((f18.other W20 (Or.inl (Ne.symm ne6))).other W27 (Or.inl (Ne.symm ne6))).other W30 (Or.inl (Ne.symm ne6))).other W35 (Or.inl (Ne.symm ne21))).other W38 (Or.inl (Ne.symm ne21)))
 have f43 := (((((((FS.other W3 (Or.inr (slot_ne (Or.inr w36_) (Or.inl w78_) (by decide) (t := (.object "com/example/tidegate/tidegate/engine/Side")) (t' := .long) (by decide) (by decide)))).keep K4 (ninS (Ne.symm ne6) nin0)).other W20 (Or.inl (Ne.symm ne6))).other W27 (Or.inl (Ne.symm ne6))).other W30 (Or.inl (Ne.symm ne6))).other W35 (Or.inl (Ne.symm ne21))).other W38 (Or.inl (Ne.symm ne21)))
 have f44 := (((((((FN.other W3 (Or.inr (slot_ne (Or.inl w68_) (Or.inl w78_) (by decide) (t := .int) (t' := .long) (by decide) (by decide)))).keep K4 (ninS (Ne.symm ne6) nin0)).other W20 (Or.inl (Ne.symm ne6))).other W27 (Or.inl (Ne.symm ne6))).other W30 (Or.inl (Ne.symm ne6))).other W35 (Or.inl (Ne.symm ne21))).other W38 (Or.inl (Ne.symm ne21)))
 have f45 := ((((((F3.keep K4 (ninS (Ne.symm ne6) nin0)).other W20 (Or.inl (Ne.symm ne6))).other W27 (Or.inl (Ne.symm ne6))).other W30 (Or.inl (Ne.symm ne6))).other W35 (Or.inl (Ne.symm ne21))).other W38 (Or.inl (Ne.symm ne21)))
 have f46 := (((f28.wr W30).wr W35).wr W38)
 have f47 := (((((s1_4.other W20 (Or.inr (slot_ne (Or.inl w55_) (Or.inl w137_) (by decide) (t := .long) (t' := (.object "com/example/tidegate/tidegate/engine/BookSide")) (by decide) (by decide)))).other W27 (Or.inr (slot_ne (Or.inl w55_) (Or.inl w141_) (by decide) (t := .long) (t' := (.object "com/example/tidegate/tidegate/engine/Order")) (by decide) (by decide)))).other W30 (Or.inr (slot_ne (Or.inl w55_) (Or.inl w143_) (by decide) (t := .long) (t' := (.object "com/example/tidegate/tidegate/engine/Order")) (by decide) (by decide)))).other W35 (Or.inl (Ne.symm ne22))).other W38 (Or.inl (Ne.symm ne22)))
 have f48 := (((((s2_4.other W20 (Or.inr (slot_ne (Or.inr w57_) (Or.inl w137_) (by decide) (t := .long) (t' := (.object "com/example/tidegate/tidegate/engine/BookSide")) (by decide) (by decide)))).other W27 (Or.inr (slot_ne (Or.inr w57_) (Or.inl w141_) (by decide) (t := .long) (t' := (.object "com/example/tidegate/tidegate/engine/Order")) (by decide) (by decide)))).other W30 (Or.inr (slot_ne (Or.inr w57_) (Or.inl w143_) (by decide) (t := .long) (t' := (.object "com/example/tidegate/tidegate/engine/Order")) (by decide) (by decide)))).other W35 (Or.inl (Ne.symm ne22))).other W38 (Or.inl (Ne.symm ne22)))
 have f49 := (((((s3_4.other W20 (Or.inr (slot_ne (Or.inl w59_) (Or.inl w137_) (by decide) (t := .long) (t' := (.object "com/example/tidegate/tidegate/engine/BookSide")) (by decide) (by decide)))).other W27 (Or.inr (slot_ne (Or.inl w59_) (Or.inl w141_) (by decide) (t := .long) (t' := (.object "com/example/tidegate/tidegate/engine/Order")) (by decide) (by decide)))).other W30 (Or.inr (slot_ne (Or.inl w59_) (Or.inl w143_) (by decide) (t := .long) (t' := (.object "com/example/tidegate/tidegate/engine/Order")) (by decide) (by decide)))).other W35 (Or.inl (Ne.symm ne22))).other W38 (Or.inl (Ne.symm ne22)))
 have f50 := (((((s4_4.other W20 (Or.inr (slot_ne (Or.inl w93_) (Or.inl w137_) (by decide) (t := .long) (t' := (.object "com/example/tidegate/tidegate/engine/BookSide")) (by decide) (by decide)))).other W27 (Or.inr (slot_ne (Or.inl w93_) (Or.inl w141_) (by decide) (t := .long) (t' := (.object "com/example/tidegate/tidegate/engine/Order")) (by decide) (by decide)))).other W30 (Or.inr (slot_ne (Or.inl w93_) (Or.inl w143_) (by decide) (t := .long) (t' := (.object "com/example/tidegate/tidegate/engine/Order")) (by decide) (by decide)))).other W35 (Or.inl (Ne.symm ne22))).other W38 (Or.inl (Ne.symm ne22)))
 have f51 := (((F27.other W30 (Or.inr (slot_ne (Or.inl w141_) (Or.inl w143_) (by decide) (t := (.object "com/example/tidegate/tidegate/engine/Order")) (t' := (.object "com/example/tidegate/tidegate/engine/Order")) (by decide) (by decide)))).other W35 (Or.inl (Ne.symm ne22))).other W38 (Or.inl (Ne.symm ne22)))
 have f52 := ((F30.other W35 (Or.inl (Ne.symm ne22))).other W38 (Or.inl (Ne.symm ne22)))
 have f53 := ((((F20.other W27 (Or.inr (slot_ne (Or.inl w137_) (Or.inl w141_) (by decide) (t := (.object "com/example/tidegate/tidegate/engine/BookSide")) (t' := (.object "com/example/tidegate/tidegate/engine/Order")) (by decide) (by decide)))).other W30 (Or.inr (slot_ne (Or.inl w137_) (Or.inl w143_) (by decide) (t := (.object "com/example/tidegate/tidegate/engine/BookSide")) (t' := (.object "com/example/tidegate/tidegate/engine/Order")) (by decide) (by decide)))).other W35 (Or.inl (Ne.symm ne22))).other W38 (Or.inl (Ne.symm ne22)))
 have f54 := (f36.wr W38)
 have f55 := (F35.other W38 (Or.inr (slot_ne (Or.inl w66_) (Or.inl w139_) (by decide) (t := (.object "com/example/tidegate/tidegate/engine/Order")) (t' := (.object "com/example/tidegate/tidegate/engine/Order")) (by decide) (by decide))))
 refine g_ret X38 hx hby Bd.returns Bd.notSynchronized d7_86 e38 (by decide) (by decide) ?_
 show (Q_addU Z a q sd rk la up qy o cn ba h0 n0) none _ _
 exact ⟨rfl, N38, ((((((((Keep.refl h0 [a, o, up]).wr W3 (Or.inl (List.mem_of_getElem? (i := 0) rfl))).trans K4 (allS (Or.inl (List.mem_of_getElem? (i := 1) rfl)) all0)).wr W20 (Or.inl (List.mem_of_getElem? (i := 1) rfl))).wr W27 (Or.inl (List.mem_of_getElem? (i := 1) rfl))).wr W30 (Or.inl (List.mem_of_getElem? (i := 1) rfl))).wr W35 (Or.inl (List.mem_of_getElem? (i := 2) rfl))).wr W38 (Or.inl (List.mem_of_getElem? (i := 2) rfl))), ⟨f39, f40, f41, f42, f43, f44, f45⟩, ⟨f46, f47, f48, f49, f50, f51, f52, f53⟩, ⟨f54, f55, F38⟩⟩

theorem d7_73 : decode prog_2_method_7_code 73 = .ok (.aload_n 2, 1) := by decide +kernel
theorem d7_74 : decode prog_2_method_7_code 74 = .ok (.getfield 80, 3) := by decide +kernel
theorem d7_77 : decode prog_2_method_7_code 77 = .ok (.aload_n 1, 1) := by decide +kernel
theorem d7_78 : decode prog_2_method_7_code 78 = .ok (.putfield 56, 3) := by decide +kernel
def Q_addUn (Z : State) (a : Addr) (q : Int64) (sd : Addr) (rk : Addr) (la : Addr) (up : Addr) (qy : Int64) (o : Addr) (cn : Int32) (y : Addr) (yq : Int64) (ypv : Value) (yro : Value) (fv : Value) (ba : Addr) (h0 : Heap) (n0 : Nat) (v : Option Value) (h : Heap) (L : List Loc) : Prop := v = none ∧ Fr n0 L ∧ Keep h0 h [a, o, up, y] ∧ own_BB Z h a rk la up sd cn (qy + (1 : Int64)) ∧ own_OO Z h o q (.ref y) .null (.ref a) ∧ own_LL Z h up fv (.ref o) ∧ own_OO Z h y yq ypv (.ref o) yro
set_option maxRecDepth 65536 in
set_option maxHeartbeats 40000000 in
theorem rm_addUn (l : Launch) (Z : State) (a0 : Array Value) (hw : ∀ d ∈ tables_1, d.before a0 Z = true) (ws : List Jvm.Cond) (a : Addr) (q : Int64) (sd : Addr) (rk : Addr) (la : Addr) (up : Addr) (qy : Int64) (o : Addr) (cn : Int32) (y : Addr) (yq : Int64) (ypv : Value) (yro : Value) (fv : Value) (ba : Addr) (h0 : Heap) (n0 : Nat) (Z0 : n0 ≤ h0.size) (SB : Sta Z Z.heap "com/example/tidegate/tidegate/engine/Side" "BUY" "Lcom/example/tidegate/tidegate/engine/Side;" (.ref ba)) (OLD : Old Z n0 h0) (BBp : own_BB Z h0 a rk la up sd cn qy) (ORp : own_OO Z h0 o q .null .null .null) (ga : n0 ≤ a) (go : n0 ≤ o) (hq : q = (-9223372036854775808 : Int64)) (LLp : own_LL Z h0 up fv (.ref y)) (glv : n0 ≤ up) (YRp : own_OO Z h0 y yq ypv .null yro) (gy : n0 ≤ y) (noy : o ≠ y) :
  MetFree l (⟨"com/example/tidegate/tidegate/engine/BookSide", "add", "(Lcom/example/tidegate/tidegate/engine/Order;)V"⟩ : MethodName) (head1 (Jvm.Cond.code (⟨"com/example/tidegate/tidegate/engine/BookSide", "add", "(Lcom/example/tidegate/tidegate/engine/Order;)V"⟩ : MethodName) prog_2_method_7_code 3 none :: ws) ({ frames := 6, cells := 1, slots := 3, locals := 155 } : Room)) (fun aa_ U => aa_ = #[(.ref a), (.ref o)] ∧ Z.Warmed39 U.vm ∧ U.heap = h0) (fun _ _ _ _ _ => True) (fun _ U o_ U' => RetG U (Q_addUn Z a q sd rk la up qy o cn y yq ypv yro fv ba h0 n0) 1 3 U' o_) := by
 refine MetFree.of_bodySF (plainFor_of_name own_pn1) hisR ?_
 intro p e s m args below meth c_ s₁ Bd hml0 hP hK
 obtain ⟨rfl, hZ, hh⟩ := hP
 have hx := Bd.exec
 have hby := Bd.bytes
 have hml : c_.maxLocals = 3 := hml0
 have hown : s.vm.findClass "com/example/tidegate/tidegate/engine/BookSide" = some m.cls := findClass_of_methodNamed Bd.named
 have hnm := (name_of_methodNamed Bd.named Bd.method).1
 have X0 : Stand p l e ({ frames := 6, cells := 1, slots := 3, locals := 155 } : Room) s m #[(.ref a), (.ref o)] below meth c_ s₁ [] 0 0 := Stand.of_body Bd
 have e0 : s₁.heap = h0 := by rw [← hh, Bd.state]; rfl
 have N0 := Fr.nil n0
 have w9_ := hw _ (List.mem_of_getElem? (i := 9) rfl)
 have w19_ := hw _ (List.mem_of_getElem? (i := 19) rfl)
 have w23_ := hw _ (List.mem_of_getElem? (i := 23) rfl)
 have w24_ := hw _ (List.mem_of_getElem? (i := 24) rfl)
 have w33_ := hw _ (List.mem_of_getElem? (i := 33) rfl)
 have w34_ := hw _ (List.mem_of_getElem? (i := 34) rfl)
 have w36_ := hw _ (List.mem_of_getElem? (i := 36) rfl)
 have w38_ := hw _ (List.mem_of_getElem? (i := 38) rfl)
 have w39_ := hw _ (List.mem_of_getElem? (i := 39) rfl)
 have w55_ := hw _ (List.mem_of_getElem? (i := 55) rfl)
 have w57_ := hw _ (List.mem_of_getElem? (i := 57) rfl)
 have w59_ := hw _ (List.mem_of_getElem? (i := 59) rfl)
 have w66_ := hw _ (List.mem_of_getElem? (i := 66) rfl)
 have w68_ := hw _ (List.mem_of_getElem? (i := 68) rfl)
 have w77_ := hw _ (List.mem_of_getElem? (i := 77) rfl)
 have w78_ := hw _ (List.mem_of_getElem? (i := 78) rfl)
 have w79_ := hw _ (List.mem_of_getElem? (i := 79) rfl)
 have w80_ := hw _ (List.mem_of_getElem? (i := 80) rfl)
 have w81_ := hw _ (List.mem_of_getElem? (i := 81) rfl)
 have w82_ := hw _ (List.mem_of_getElem? (i := 82) rfl)
 have w83_ := hw _ (List.mem_of_getElem? (i := 83) rfl)
 have w84_ := hw _ (List.mem_of_getElem? (i := 84) rfl)
 have w85_ := hw _ (List.mem_of_getElem? (i := 85) rfl)
 have w86_ := hw _ (List.mem_of_getElem? (i := 86) rfl)
 have w87_ := hw _ (List.mem_of_getElem? (i := 87) rfl)
 have w88_ := hw _ (List.mem_of_getElem? (i := 88) rfl)
 have w93_ := hw _ (List.mem_of_getElem? (i := 93) rfl)
 have w94_ := hw _ (List.mem_of_getElem? (i := 94) rfl)
 have w95_ := hw _ (List.mem_of_getElem? (i := 95) rfl)
 have w96_ := hw _ (List.mem_of_getElem? (i := 96) rfl)
 have w97_ := hw _ (List.mem_of_getElem? (i := 97) rfl)
 have w98_ := hw _ (List.mem_of_getElem? (i := 98) rfl)
 have w136_ := hw _ (List.mem_of_getElem? (i := 136) rfl)
 have w137_ := hw _ (List.mem_of_getElem? (i := 137) rfl)
 have w138_ := hw _ (List.mem_of_getElem? (i := 138) rfl)
 have w139_ := hw _ (List.mem_of_getElem? (i := 139) rfl)
 have w140_ := hw _ (List.mem_of_getElem? (i := 140) rfl)
 have w141_ := hw _ (List.mem_of_getElem? (i := 141) rfl)
 have w142_ := hw _ (List.mem_of_getElem? (i := 142) rfl)
 have w143_ := hw _ (List.mem_of_getElem? (i := 143) rfl)
 obtain ⟨EB, FR, FL, FU, FS, FN, FQ⟩ := BBp
 obtain ⟨oE, o1, o2, o3, o4, o5, o6, o7⟩ := ORp
 obtain ⟨lE, lF, lL⟩ := LLp
 obtain ⟨yE, y1, y2, y3, y4, y5, y6, y7⟩ := YRp
 show Go p e below (RetG s (Q_addUn Z a q sd rk la up qy o cn y yq ypv yro fv ba h0 n0) 1 3) (s₁.setTop (entryFrame m #[(.ref a), (.ref o)] 3))
 rw [show entryFrame m #[(.ref a), (.ref o)] 3 = mkF m 0 #[.val (.ref a), .val (.ref o), .unset] [] from by first | (simp [entryFrame, mkF, argsToLocals, Value.category]; done) | rfl]
 refine g_aloadN X0 hx hby d7_0 rfl rfl ?_
 refine g_dup X0 hx hby d7_1 rfl ?_
 refine g_getF X0 hx hby hZ hown (host := "") (Or.inl w77_) Via.refl e0 FQ d7_2 (fun T1 X1 e1 => ?_)
 refine g_aloadN X1 hx hby d7_5 rfl rfl ?_
 refine g_virtual X1 hx hby hZ hown (rm_grem l Z a0 hw [] o (1 : Int64) h0 n0 Z0 o3) w79_ w80_ (notFace_of_selects (args := #[]) (mvT hZ w82_)) w82_ w81_ w39_ w83_ (by decide) e1 oE (by rw [hml]; rfl) [] (lenOf own_pd7 rfl) rfl rfl (Nat.le_of_ble_eq_true rfl) (Nat.le_of_ble_eq_true rfl) (Nat.le_of_ble_eq_true rfl) (Nat.le_of_ble_eq_true rfl) d7_6 (fun v2 T2 L2 X2 hQ2 => ?_)
 obtain ⟨rfl, N2q, eh2⟩ := hQ2
 have N2 := Fr.app N0 N2q
 refine g_ladd X2 hx hby d7_9 ?_
 refine g_putF X2 hx hby hZ hown (host := "") (Or.inl w77_) Via.refl eh2 FQ EB (Or.inl w78_) w9_ .long (by decide) rfl rfl N2 ga d7_10 (fun T3 h3 X3 e3 W3 F3 N3 => ?_)
 refine g_aloadN X3 hx hby d7_13 rfl rfl ?_
 have f5 := (oE.wr W3)
 have ne6 : o ≠ a := (Exa.ne oE EB (by decide))
 have f7 := (o1.other W3 (Or.inl ne6))
 have f8 := (o2.other W3 (Or.inl ne6))
 have f9 := (o3.other W3 (Or.inl ne6))
 have f10 := (o4.other W3 (Or.inl ne6))
 have f11 := (o5.other W3 (Or.inl ne6))
 have f12 := (o6.other W3 (Or.inl ne6))
 have f13 := (o7.other W3 (Or.inl ne6))
 have z14 := (Nat.le_trans Z0 (Keep.of_wr W3).1)
 refine g_virtual X3 hx hby hZ hown (rm_ssl l Z a0 hw [] o q .null .null .null h3 n0 z14 ⟨f5, f7, f8, f9, f10, f11, f12, f13⟩ go) w84_ w85_ (notFace_of_selects (args := #[]) (mvT hZ w87_)) w87_ w86_ w39_ w88_ (by decide) e3 f5 (by rw [hml]; rfl) [] (lenOf own_pd8 rfl) rfl rfl (Nat.le_of_ble_eq_true rfl) (Nat.le_of_ble_eq_true rfl) (Nat.le_of_ble_eq_true rfl) (Nat.le_of_ble_eq_true rfl) d7_14 (fun v4 T4 L4 X4 hQ4 => ?_)
 obtain ⟨rfl, N4q, K4, s0_4, s1_4, s2_4, s3_4, s4_4, s5_4, s6_4, s7_4⟩ := hQ4
 have N4 := Fr.app N3 N4q
 refine g_aloadN X4 hx hby d7_17 rfl rfl ?_
 have z16 := (Nat.le_trans z14 K4.1)
 have f17 := (f5.keep K4)
 refine g_virtual X4 hx hby hZ hown (rm_hasp l Z a0 hw [] o q T4.heap n0 z16 s1_4) w94_ w95_ (notFace_of_selects (args := #[]) (mvT hZ w97_)) w97_ w96_ w39_ w98_ (by decide) rfl f17 (by rw [hml]; rfl) [] (lenOf own_pd9 rfl) rfl rfl (Nat.le_of_ble_eq_true rfl) (Nat.le_of_ble_eq_true rfl) (Nat.le_of_ble_eq_true rfl) (Nat.le_of_ble_eq_true rfl) d7_18 (fun v15 T15 L15 X15 hQ15 => ?_)
 obtain ⟨rfl, N15q, eh15⟩ := hQ15
 have N15 := Fr.app N4 N15q
 refine g_topI (T := T15) (0 : Int32) (if_pos hq) ?_
 refine g_at 21 rfl rfl rfl ?_
 refine g_ifY X15 hx hby 35 d7_21 (teq (by decide : (0 : Int32) = (0 : Int32))).1 (by decide) (by decide) ?_
 refine g_aloadN X15 hx hby d7_35 rfl rfl ?_
 have f18 := ((FU.other W3 (Or.inr (slot_ne (Or.inr w34_) (Or.inl w78_) (by decide) (t := (.object "com/example/tidegate/tidegate/engine/BookSide$Level")) (t' := .long) (by decide) (by decide)))).keep K4 (ninS (Ne.symm ne6) nin0))
 refine g_getF X15 hx hby hZ hown (host := "") (Or.inl w33_) Via.refl eh15 f18 d7_36 (fun T19 X19 e19 => ?_)
 refine g_astoreN X19 hx hby d7_39 rfl (l' := #[.val (.ref a), .val (.ref o), .val (.ref up)]) rfl ?_
 refine g_aloadN X19 hx hby d7_40 rfl rfl ?_
 refine g_aloadN X19 hx hby d7_41 rfl rfl ?_
 refine g_putF X19 hx hby hZ hown (host := "") (Or.inl w136_) Via.refl e19 s7_4 f17 (Or.inl w137_) w38_ (.object "com/example/tidegate/tidegate/engine/BookSide") (by decide) rfl rfl N15 go d7_42 (fun T20 h20 X20 e20 W20 F20 N20 => ?_)
 refine g_aloadN X20 hx hby d7_45 rfl rfl ?_
 refine g_aloadN X20 hx hby d7_46 rfl rfl ?_
 have ne21 : up ≠ a := (Exa.ne lE EB (by decide))
 have ne22 : up ≠ o := (Exa.ne lE oE (by decide))
 have f23 := (((lL.other W3 (Or.inl ne21)).keep K4 (ninS ne22 nin0)).other W20 (Or.inl ne22))
 refine g_getFR X20 hx hby hZ hown w138_ e20 f23 d7_47 (fun T24 X24 e24 => ?_)
 have f25 := (f17.wr W20)
 have f26 := (s5_4.other W20 (Or.inr (slot_ne (Or.inl w141_) (Or.inl w137_) (by decide) (t := (.object "com/example/tidegate/tidegate/engine/Order")) (t' := (.object "com/example/tidegate/tidegate/engine/BookSide")) (by decide) (by decide))))
 refine g_putF X24 hx hby hZ hown (host := "") (Or.inl w140_) Via.refl e24 f26 f25 (Or.inl w141_) w38_ (.object "com/example/tidegate/tidegate/engine/Order") (by decide) rfl rfl N20 go d7_50 (fun T27 h27 X27 e27 W27 F27 N27 => ?_)
 refine g_aloadN X27 hx hby d7_53 rfl rfl ?_
 refine g_aconst_null X27 hx hby d7_54 ?_
 have f28 := (f25.wr W27)
 have f29 := ((s6_4.other W20 (Or.inr (slot_ne (Or.inl w143_) (Or.inl w137_) (by decide) (t := (.object "com/example/tidegate/tidegate/engine/Order")) (t' := (.object "com/example/tidegate/tidegate/engine/BookSide")) (by decide) (by decide)))).other W27 (Or.inr (slot_ne (Or.inl w143_) (Or.inl w141_) (by decide) (t := (.object "com/example/tidegate/tidegate/engine/Order")) (t' := (.object "com/example/tidegate/tidegate/engine/Order")) (by decide) (by decide))))
 refine g_putF X27 hx hby hZ hown (host := "") (Or.inl w142_) Via.refl e27 f29 f28 (Or.inl w143_) w38_ (.object "com/example/tidegate/tidegate/engine/Order") (by decide) rfl rfl N27 go d7_55 (fun T30 h30 X30 e30 W30 F30 N30 => ?_)
 refine g_aloadN X30 hx hby d7_58 rfl rfl ?_
 have f31 := ((f23.other W27 (Or.inl ne22)).other W30 (Or.inl ne22))
 refine g_getFR X30 hx hby hZ hown w138_ e30 f31 d7_59 (fun T32 X32 e32 => ?_)
 refine g_ifnonnullY X32 hx hby 73 d7_62 (by decide) (by decide) ?_
 refine g_aloadN X32 hx hby d7_73 rfl rfl ?_
 refine g_getFR X32 hx hby hZ hown w138_ e32 f31 d7_74 (fun T33 X33 e33 => ?_)
 refine g_aloadN X33 hx hby d7_77 rfl rfl ?_
 have f34 := (((((yE.wr W3).keep K4).wr W20).wr W27).wr W30)
 have ne35 : y ≠ a := (Exa.ne yE EB (by decide))
 have f36 := (((((y6.other W3 (Or.inl ne35)).keep K4 (ninS (Ne.symm noy) nin0)).other W20 (Or.inl (Ne.symm noy))).other W27 (Or.inl (Ne.symm noy))).other W30 (Or.inl (Ne.symm noy)))
 refine g_putF X33 hx hby hZ hown (host := "") (Or.inl w142_) Via.refl e33 f36 f34 (Or.inl w143_) w38_ (.object "com/example/tidegate/tidegate/engine/Order") (by decide) rfl rfl N30 gy d7_78 (fun T37 h37 X37 e37 W37 F37 N37 => ?_)
 refine g_aloadN X37 hx hby d7_81 rfl rfl ?_
 refine g_aloadN X37 hx hby d7_82 rfl rfl ?_
 have f38 := ((((((lE.wr W3).keep K4).wr W20).wr W27).wr W30).wr W37)
 have ne39 : up ≠ y := (Exa.ne lE yE (by decide))
 have f40 := (f31.other W37 (Or.inl ne39))
 refine g_putFR X37 hx hby hZ hown w138_ e37 f40 f38 w139_ w24_ (.object "com/example/tidegate/tidegate/engine/Order") (by decide) rfl rfl N37 glv d7_83 (fun T41 h41 X41 e41 W41 F41 N41 => ?_)
 have f42 := (((((((EB.wr W3).keep K4).wr W20).wr W27).wr W30).wr W37).wr W41)
 have f43 := (((((((FR.other W3 (Or.inr (slot_ne (Or.inl w19_) (Or.inl w78_) (by decide) (t := (.array .long)) (t' := .long) (by decide) (by decide)))).keep K4 (ninS (Ne.symm ne6) nin0)).other W20 (Or.inl (Ne.symm ne6))).other W27 (Or.inl (Ne.symm ne6))).other W30 (Or.inl (Ne.symm ne6))).other W37 (Or.inl (Ne.symm ne35))).other W41 (Or.inl (Ne.symm ne21)))
 have f44 := (((((((FL.other W3 (Or.inr (slot_ne (Or.inl w23_) (Or.inl w78_) (by decide) (t := (.array (.object "com/example/tidegate/tidegate/engine/BookSide$Level"))) (t' := .long) (by decide) (by decide)))).keep K4 (ninS (Ne.symm ne6) nin0)).other W20 (Or.inl (Ne.symm ne6))).other W27 (Or.inl (Ne.symm ne6))).other W30 (Or.inl (Ne.symm ne6))).other W37 (Or.inl (Ne.symm ne35))).other W41 (Or.inl (Ne.symm ne21)))
 have f45 := (((((f18.other W20 (Or.inl (Ne.symm ne6))).other W27 (Or.inl (Ne.symm ne6))).other W30 (Or.inl (Ne.symm ne6))).other W37 (Or.inl (Ne.symm ne35))).other W41 (Or.inl (Ne.symm ne21)))
 have f46 := (((((((FS.other W3 (Or.inr (slot_ne (Or.inr w36_) (Or.inl w78_) (by decide) (t := (.object "com/example/tidegate/tidegate/engine/Side")) (t' := .long) (by decide) (by decide)))).keep K4 (ninS (Ne.symm ne6) nin0)).other W20 (Or.inl (Ne.symm ne6))).other W27 (Or.inl (Ne.symm ne6))).other W30 (Or.inl (Ne.symm ne6))).other W37 (Or.inl (Ne.symm ne35))).other W41 (Or.inl (Ne.symm ne21)))
 have f47 := (((((((FN.other W3 (Or.inr (slot_ne (Or.inl w68_) (Or.inl w78_) (by decide) (t := .int) (t' := .long) (by decide) (by decide)))).keep K4 (ninS (Ne.symm ne6) nin0)).other W20 (Or.inl (Ne.symm ne6))).other W27 (Or.inl (Ne.symm ne6))).other W30 (Or.inl (Ne.symm ne6))).other W37 (Or.inl (Ne.symm ne35))).other W41 (Or.inl (Ne.symm ne21)))
 have f48 := ((((((F3.keep K4 (ninS (Ne.symm ne6) nin0)).other W20 (Or.inl (Ne.symm ne6))).other W27 (Or.inl (Ne.symm ne6))).other W30 (Or.inl (Ne.symm ne6))).other W37 (Or.inl (Ne.symm ne35))).other W41 (Or.inl (Ne.symm ne21)))
 have f49 := (((f28.wr W30).wr W37).wr W41)
 have f50 := (((((s1_4.other W20 (Or.inr (slot_ne (Or.inl w55_) (Or.inl w137_) (by decide) (t := .long) (t' := (.object "com/example/tidegate/tidegate/engine/BookSide")) (by decide) (by decide)))).other W27 (Or.inr (slot_ne (Or.inl w55_) (Or.inl w141_) (by decide) (t := .long) (t' := (.object "com/example/tidegate/tidegate/engine/Order")) (by decide) (by decide)))).other W30 (Or.inr (slot_ne (Or.inl w55_) (Or.inl w143_) (by decide) (t := .long) (t' := (.object "com/example/tidegate/tidegate/engine/Order")) (by decide) (by decide)))).other W37 (Or.inl noy)).other W41 (Or.inl (Ne.symm ne22)))
 have f51 := (((((s2_4.other W20 (Or.inr (slot_ne (Or.inr w57_) (Or.inl w137_) (by decide) (t := .long) (t' := (.object "com/example/tidegate/tidegate/engine/BookSide")) (by decide) (by decide)))).other W27 (Or.inr (slot_ne (Or.inr w57_) (Or.inl w141_) (by decide) (t := .long) (t' := (.object "com/example/tidegate/tidegate/engine/Order")) (by decide) (by decide)))).other W30 (Or.inr (slot_ne (Or.inr w57_) (Or.inl w143_) (by decide) (t := .long) (t' := (.object "com/example/tidegate/tidegate/engine/Order")) (by decide) (by decide)))).other W37 (Or.inl noy)).other W41 (Or.inl (Ne.symm ne22)))
 have f52 := (((((s3_4.other W20 (Or.inr (slot_ne (Or.inl w59_) (Or.inl w137_) (by decide) (t := .long) (t' := (.object "com/example/tidegate/tidegate/engine/BookSide")) (by decide) (by decide)))).other W27 (Or.inr (slot_ne (Or.inl w59_) (Or.inl w141_) (by decide) (t := .long) (t' := (.object "com/example/tidegate/tidegate/engine/Order")) (by decide) (by decide)))).other W30 (Or.inr (slot_ne (Or.inl w59_) (Or.inl w143_) (by decide) (t := .long) (t' := (.object "com/example/tidegate/tidegate/engine/Order")) (by decide) (by decide)))).other W37 (Or.inl noy)).other W41 (Or.inl (Ne.symm ne22)))
 have f53 := (((((s4_4.other W20 (Or.inr (slot_ne (Or.inl w93_) (Or.inl w137_) (by decide) (t := .long) (t' := (.object "com/example/tidegate/tidegate/engine/BookSide")) (by decide) (by decide)))).other W27 (Or.inr (slot_ne (Or.inl w93_) (Or.inl w141_) (by decide) (t := .long) (t' := (.object "com/example/tidegate/tidegate/engine/Order")) (by decide) (by decide)))).other W30 (Or.inr (slot_ne (Or.inl w93_) (Or.inl w143_) (by decide) (t := .long) (t' := (.object "com/example/tidegate/tidegate/engine/Order")) (by decide) (by decide)))).other W37 (Or.inl noy)).other W41 (Or.inl (Ne.symm ne22)))
 have f54 := (((F27.other W30 (Or.inr (slot_ne (Or.inl w141_) (Or.inl w143_) (by decide) (t := (.object "com/example/tidegate/tidegate/engine/Order")) (t' := (.object "com/example/tidegate/tidegate/engine/Order")) (by decide) (by decide)))).other W37 (Or.inl noy)).other W41 (Or.inl (Ne.symm ne22)))
 have f55 := ((F30.other W37 (Or.inl noy)).other W41 (Or.inl (Ne.symm ne22)))
 have f56 := ((((F20.other W27 (Or.inr (slot_ne (Or.inl w137_) (Or.inl w141_) (by decide) (t := (.object "com/example/tidegate/tidegate/engine/BookSide")) (t' := (.object "com/example/tidegate/tidegate/engine/Order")) (by decide) (by decide)))).other W30 (Or.inr (slot_ne (Or.inl w137_) (Or.inl w143_) (by decide) (t := (.object "com/example/tidegate/tidegate/engine/BookSide")) (t' := (.object "com/example/tidegate/tidegate/engine/Order")) (by decide) (by decide)))).other W37 (Or.inl noy)).other W41 (Or.inl (Ne.symm ne22)))
 have f57 := (f38.wr W41)
 have f58 := (((((((lF.other W3 (Or.inl ne21)).keep K4 (ninS ne22 nin0)).other W20 (Or.inl ne22)).other W27 (Or.inl ne22)).other W30 (Or.inl ne22)).other W37 (Or.inl ne39)).other W41 (Or.inr (slot_ne (Or.inl w66_) (Or.inl w139_) (by decide) (t := (.object "com/example/tidegate/tidegate/engine/Order")) (t' := (.object "com/example/tidegate/tidegate/engine/Order")) (by decide) (by decide))))
 have f59 := ((f34.wr W37).wr W41)
 have f60 := (((((((y1.other W3 (Or.inl ne35)).keep K4 (ninS (Ne.symm noy) nin0)).other W20 (Or.inl (Ne.symm noy))).other W27 (Or.inl (Ne.symm noy))).other W30 (Or.inl (Ne.symm noy))).other W37 (Or.inr (slot_ne (Or.inl w55_) (Or.inl w143_) (by decide) (t := .long) (t' := (.object "com/example/tidegate/tidegate/engine/Order")) (by decide) (by decide)))).other W41 (Or.inl (Ne.symm ne39)))
 have f61 := (((((((y2.other W3 (Or.inl ne35)).keep K4 (ninS (Ne.symm noy) nin0)).other W20 (Or.inl (Ne.symm noy))).other W27 (Or.inl (Ne.symm noy))).other W30 (Or.inl (Ne.symm noy))).other W37 (Or.inr (slot_ne (Or.inr w57_) (Or.inl w143_) (by decide) (t := .long) (t' := (.object "com/example/tidegate/tidegate/engine/Order")) (by decide) (by decide)))).other W41 (Or.inl (Ne.symm ne39)))
 have f62 := (((((((y3.other W3 (Or.inl ne35)).keep K4 (ninS (Ne.symm noy) nin0)).other W20 (Or.inl (Ne.symm noy))).other W27 (Or.inl (Ne.symm noy))).other W30 (Or.inl (Ne.symm noy))).other W37 (Or.inr (slot_ne (Or.inl w59_) (Or.inl w143_) (by decide) (t := .long) (t' := (.object "com/example/tidegate/tidegate/engine/Order")) (by decide) (by decide)))).other W41 (Or.inl (Ne.symm ne39)))
 have f63 := (((((((y4.other W3 (Or.inl ne35)).keep K4 (ninS (Ne.symm noy) nin0)).other W20 (Or.inl (Ne.symm noy))).other W27 (Or.inl (Ne.symm noy))).other W30 (Or.inl (Ne.symm noy))).other W37 (Or.inr (slot_ne (Or.inl w93_) (Or.inl w143_) (by decide) (t := .long) (t' := (.object "com/example/tidegate/tidegate/engine/Order")) (by decide) (by decide)))).other W41 (Or.inl (Ne.symm ne39)))
 have f64 := (((((((y5.other W3 (Or.inl ne35)).keep K4 (ninS (Ne.symm noy) nin0)).other W20 (Or.inl (Ne.symm noy))).other W27 (Or.inl (Ne.symm noy))).other W30 (Or.inl (Ne.symm noy))).other W37 (Or.inr (slot_ne (Or.inl w141_) (Or.inl w143_) (by decide) (t := (.object "com/example/tidegate/tidegate/engine/Order")) (t' := (.object "com/example/tidegate/tidegate/engine/Order")) (by decide) (by decide)))).other W41 (Or.inl (Ne.symm ne39)))
 have f65 := (F37.other W41 (Or.inl (Ne.symm ne39)))
 have f66 := (((((((y7.other W3 (Or.inl ne35)).keep K4 (ninS (Ne.symm noy) nin0)).other W20 (Or.inl (Ne.symm noy))).other W27 (Or.inl (Ne.symm noy))).other W30 (Or.inl (Ne.symm noy))).other W37 (Or.inr (slot_ne (Or.inl w137_) (Or.inl w143_) (by decide) (t := (.object "com/example/tidegate/tidegate/engine/BookSide")) (t' := (.object "com/example/tidegate/tidegate/engine/Order")) (by decide) (by decide)))).other W41 (Or.inl (Ne.symm ne39)))
 refine g_ret X41 hx hby Bd.returns Bd.notSynchronized d7_86 e41 (by decide) (by decide) ?_
 show (Q_addUn Z a q sd rk la up qy o cn y yq ypv yro fv ba h0 n0) none _ _
 exact ⟨rfl, N41, ((((((((Keep.refl h0 [a, o, up, y]).wr W3 (Or.inl (List.mem_of_getElem? (i := 0) rfl))).trans K4 (allS (Or.inl (List.mem_of_getElem? (i := 1) rfl)) all0)).wr W20 (Or.inl (List.mem_of_getElem? (i := 1) rfl))).wr W27 (Or.inl (List.mem_of_getElem? (i := 1) rfl))).wr W30 (Or.inl (List.mem_of_getElem? (i := 1) rfl))).wr W37 (Or.inl (List.mem_of_getElem? (i := 3) rfl))).wr W41 (Or.inl (List.mem_of_getElem? (i := 2) rfl))), ⟨f42, f43, f44, f45, f46, f47, f48⟩, ⟨f49, f50, f51, f52, f53, f54, f55, f56⟩, ⟨f57, f58, F41⟩, ⟨f59, f60, f61, f62, f63, f64, f65, f66⟩⟩

theorem d7_24 : decode prog_2_method_7_code 24 = .ok (.aload_n 0, 1) := by decide +kernel
theorem d7_25 : decode prog_2_method_7_code 25 = .ok (.aload_n 1, 1) := by decide +kernel
theorem d7_26 : decode prog_2_method_7_code 26 = .ok (.invokevirtual 69, 3) := by decide +kernel
theorem d7_29 : decode prog_2_method_7_code 29 = .ok (.invokevirtual 72, 3) := by decide +kernel
theorem own_pd10 : parseMethodDescriptor "(J)Lcom/example/tidegate/tidegate/engine/BookSide$Level;" = some ⟨[.long], some (.object "com/example/tidegate/tidegate/engine/BookSide$Level")⟩ := by decide +kernel
theorem d7_32 : decode prog_2_method_7_code 32 = .ok (.goto 7, 3) := by decide +kernel
def Q_addFn (Z : State) (a : Addr) (q : Int64) (sd : Addr) (rk : Addr) (la : Addr) (up : Addr) (qy : Int64) (o : Addr) (t : Int64) (kr : ClassId) (kl : ClassId) (rs : List Int64) (As : List Addr) (i : Nat) (y : Addr) (yq : Int64) (ypv : Value) (yro : Value) (fv : Value) (ba : Addr) (h0 : Heap) (n0 : Nat) (v : Option Value) (h : Heap) (L : List Loc) : Prop := v = none ∧ Fr n0 L ∧ Keep h0 h [a, o, (As.getD i 0), y] ∧ own_BB Z h a rk la up sd (Int32.ofNat rs.length) (qy + (1 : Int64)) ∧ own_OO Z h o q (.ref y) .null (.ref a) ∧ own_LL Z h (As.getD i 0) fv (.ref o) ∧ own_OO Z h y yq ypv (.ref o) yro
set_option maxRecDepth 65536 in
set_option maxHeartbeats 40000000 in
theorem rm_addFn (l : Launch) (Z : State) (a0 : Array Value) (hw : ∀ d ∈ tables_1, d.before a0 Z = true) (ws : List Jvm.Cond) (a : Addr) (q : Int64) (sd : Addr) (rk : Addr) (la : Addr) (up : Addr) (qy : Int64) (o : Addr) (t : Int64) (kr : ClassId) (kl : ClassId) (rs : List Int64) (As : List Addr) (i : Nat) (y : Addr) (yq : Int64) (ypv : Value) (yro : Value) (fv : Value) (ba : Addr) (h0 : Heap) (n0 : Nat) (Z0 : n0 ≤ h0.size) (SB : Sta Z Z.heap "com/example/tidegate/tidegate/engine/Side" "BUY" "Lcom/example/tidegate/tidegate/engine/Side;" (.ref ba)) (OLD : Old Z n0 h0) (BBp : own_BB Z h0 a rk la up sd (Int32.ofNat rs.length) qy) (ORp : own_OO Z h0 o q .null .null .null) (ga : n0 ≤ a) (go : n0 ≤ o) (hq : ¬ q = (-9223372036854775808 : Int64)) (LLp : own_LL Z h0 (As.getD i 0) fv (.ref y)) (glv : n0 ≤ (As.getD i 0)) (YRp : own_OO Z h0 y yq ypv .null yro) (gy : n0 ≤ y) (noy : o ≠ y) (ARp : own_AR Z h0 rk la kr kl rs As) (ht : t = if sd = ba then q else -q) (hi : i < rs.length) (hix : own_gix rs t = Int32.ofNat i) :
  MetFree l (⟨"com/example/tidegate/tidegate/engine/BookSide", "add", "(Lcom/example/tidegate/tidegate/engine/Order;)V"⟩ : MethodName) (head1 (Jvm.Cond.code (⟨"com/example/tidegate/tidegate/engine/BookSide", "add", "(Lcom/example/tidegate/tidegate/engine/Order;)V"⟩ : MethodName) prog_2_method_7_code 3 none :: ws) ({ frames := 6, cells := 1, slots := 3, locals := 155 } : Room)) (fun aa_ U => aa_ = #[(.ref a), (.ref o)] ∧ Z.Warmed39 U.vm ∧ U.heap = h0) (fun _ _ _ _ _ => True) (fun _ U o_ U' => RetG U (Q_addFn Z a q sd rk la up qy o t kr kl rs As i y yq ypv yro fv ba h0 n0) 1 3 U' o_) := by
 refine MetFree.of_bodySF (plainFor_of_name own_pn1) hisR ?_
 intro p e s m args below meth c_ s₁ Bd hml0 hP hK
 obtain ⟨rfl, hZ, hh⟩ := hP
 have hx := Bd.exec
 have hby := Bd.bytes
 have hml : c_.maxLocals = 3 := hml0
 have hown : s.vm.findClass "com/example/tidegate/tidegate/engine/BookSide" = some m.cls := findClass_of_methodNamed Bd.named
 have hnm := (name_of_methodNamed Bd.named Bd.method).1
 have X0 : Stand p l e ({ frames := 6, cells := 1, slots := 3, locals := 155 } : Room) s m #[(.ref a), (.ref o)] below meth c_ s₁ [] 0 0 := Stand.of_body Bd
 have e0 : s₁.heap = h0 := by rw [← hh, Bd.state]; rfl
 have N0 := Fr.nil n0
 have w9_ := hw _ (List.mem_of_getElem? (i := 9) rfl)
 have w10_ := hw _ (List.mem_of_getElem? (i := 10) rfl)
 have w19_ := hw _ (List.mem_of_getElem? (i := 19) rfl)
 have w23_ := hw _ (List.mem_of_getElem? (i := 23) rfl)
 have w24_ := hw _ (List.mem_of_getElem? (i := 24) rfl)
 have w34_ := hw _ (List.mem_of_getElem? (i := 34) rfl)
 have w36_ := hw _ (List.mem_of_getElem? (i := 36) rfl)
 have w38_ := hw _ (List.mem_of_getElem? (i := 38) rfl)
 have w39_ := hw _ (List.mem_of_getElem? (i := 39) rfl)
 have w55_ := hw _ (List.mem_of_getElem? (i := 55) rfl)
 have w57_ := hw _ (List.mem_of_getElem? (i := 57) rfl)
 have w59_ := hw _ (List.mem_of_getElem? (i := 59) rfl)
 have w66_ := hw _ (List.mem_of_getElem? (i := 66) rfl)
 have w68_ := hw _ (List.mem_of_getElem? (i := 68) rfl)
 have w77_ := hw _ (List.mem_of_getElem? (i := 77) rfl)
 have w78_ := hw _ (List.mem_of_getElem? (i := 78) rfl)
 have w79_ := hw _ (List.mem_of_getElem? (i := 79) rfl)
 have w80_ := hw _ (List.mem_of_getElem? (i := 80) rfl)
 have w81_ := hw _ (List.mem_of_getElem? (i := 81) rfl)
 have w82_ := hw _ (List.mem_of_getElem? (i := 82) rfl)
 have w83_ := hw _ (List.mem_of_getElem? (i := 83) rfl)
 have w84_ := hw _ (List.mem_of_getElem? (i := 84) rfl)
 have w85_ := hw _ (List.mem_of_getElem? (i := 85) rfl)
 have w86_ := hw _ (List.mem_of_getElem? (i := 86) rfl)
 have w87_ := hw _ (List.mem_of_getElem? (i := 87) rfl)
 have w88_ := hw _ (List.mem_of_getElem? (i := 88) rfl)
 have w93_ := hw _ (List.mem_of_getElem? (i := 93) rfl)
 have w94_ := hw _ (List.mem_of_getElem? (i := 94) rfl)
 have w95_ := hw _ (List.mem_of_getElem? (i := 95) rfl)
 have w96_ := hw _ (List.mem_of_getElem? (i := 96) rfl)
 have w97_ := hw _ (List.mem_of_getElem? (i := 97) rfl)
 have w98_ := hw _ (List.mem_of_getElem? (i := 98) rfl)
 have w100_ := hw _ (List.mem_of_getElem? (i := 100) rfl)
 have w101_ := hw _ (List.mem_of_getElem? (i := 101) rfl)
 have w102_ := hw _ (List.mem_of_getElem? (i := 102) rfl)
 have w103_ := hw _ (List.mem_of_getElem? (i := 103) rfl)
 have w104_ := hw _ (List.mem_of_getElem? (i := 104) rfl)
 have w105_ := hw _ (List.mem_of_getElem? (i := 105) rfl)
 have w106_ := hw _ (List.mem_of_getElem? (i := 106) rfl)
 have w107_ := hw _ (List.mem_of_getElem? (i := 107) rfl)
 have w108_ := hw _ (List.mem_of_getElem? (i := 108) rfl)
 have w136_ := hw _ (List.mem_of_getElem? (i := 136) rfl)
 have w137_ := hw _ (List.mem_of_getElem? (i := 137) rfl)
 have w138_ := hw _ (List.mem_of_getElem? (i := 138) rfl)
 have w139_ := hw _ (List.mem_of_getElem? (i := 139) rfl)
 have w140_ := hw _ (List.mem_of_getElem? (i := 140) rfl)
 have w141_ := hw _ (List.mem_of_getElem? (i := 141) rfl)
 have w142_ := hw _ (List.mem_of_getElem? (i := 142) rfl)
 have w143_ := hw _ (List.mem_of_getElem? (i := 143) rfl)
 obtain ⟨EB, FR, FL, FU, FS, FN, FQ⟩ := BBp
 obtain ⟨oE, o1, o2, o3, o4, o5, o6, o7⟩ := ORp
 obtain ⟨lE, lF, lL⟩ := LLp
 obtain ⟨yE, y1, y2, y3, y4, y5, y6, y7⟩ := YRp
 obtain ⟨⟨vs, VR, hvl, gr⟩, ⟨wl, VL, hwl, gl⟩, hra, hl3⟩ := ARp
 show Go p e below (RetG s (Q_addFn Z a q sd rk la up qy o t kr kl rs As i y yq ypv yro fv ba h0 n0) 1 3) (s₁.setTop (entryFrame m #[(.ref a), (.ref o)] 3))
 rw [show entryFrame m #[(.ref a), (.ref o)] 3 = mkF m 0 #[.val (.ref a), .val (.ref o), .unset] [] from by first | (simp [entryFrame, mkF, argsToLocals, Value.category]; done) | rfl]
 refine g_aloadN X0 hx hby d7_0 rfl rfl ?_
 refine g_dup X0 hx hby d7_1 rfl ?_
 refine g_getF X0 hx hby hZ hown (host := "") (Or.inl w77_) Via.refl e0 FQ d7_2 (fun T1 X1 e1 => ?_)
 refine g_aloadN X1 hx hby d7_5 rfl rfl ?_
 refine g_virtual X1 hx hby hZ hown (rm_grem l Z a0 hw [] o (1 : Int64) h0 n0 Z0 o3) w79_ w80_ (notFace_of_selects (args := #[]) (mvT hZ w82_)) w82_ w81_ w39_ w83_ (by decide) e1 oE (by rw [hml]; rfl) [] (lenOf own_pd7 rfl) rfl rfl (Nat.le_of_ble_eq_true rfl) (Nat.le_of_ble_eq_true rfl) (Nat.le_of_ble_eq_true rfl) (Nat.le_of_ble_eq_true rfl) d7_6 (fun v2 T2 L2 X2 hQ2 => ?_)
 obtain ⟨rfl, N2q, eh2⟩ := hQ2
 have N2 := Fr.app N0 N2q
 refine g_ladd X2 hx hby d7_9 ?_
 refine g_putF X2 hx hby hZ hown (host := "") (Or.inl w77_) Via.refl eh2 FQ EB (Or.inl w78_) w9_ .long (by decide) rfl rfl N2 ga d7_10 (fun T3 h3 X3 e3 W3 F3 N3 => ?_)
 refine g_aloadN X3 hx hby d7_13 rfl rfl ?_
 have f5 := (oE.wr W3)
 have ne6 : o ≠ a := (Exa.ne oE EB (by decide))
 have f7 := (o1.other W3 (Or.inl ne6))
 have f8 := (o2.other W3 (Or.inl ne6))
 have f9 := (o3.other W3 (Or.inl ne6))
 have f10 := (o4.other W3 (Or.inl ne6))
 have f11 := (o5.other W3 (Or.inl ne6))
 have f12 := (o6.other W3 (Or.inl ne6))
 have f13 := (o7.other W3 (Or.inl ne6))
 have z14 := (Nat.le_trans Z0 (Keep.of_wr W3).1)
 refine g_virtual X3 hx hby hZ hown (rm_ssl l Z a0 hw [] o q .null .null .null h3 n0 z14 ⟨f5, f7, f8, f9, f10, f11, f12, f13⟩ go) w84_ w85_ (notFace_of_selects (args := #[]) (mvT hZ w87_)) w87_ w86_ w39_ w88_ (by decide) e3 f5 (by rw [hml]; rfl) [] (lenOf own_pd8 rfl) rfl rfl (Nat.le_of_ble_eq_true rfl) (Nat.le_of_ble_eq_true rfl) (Nat.le_of_ble_eq_true rfl) (Nat.le_of_ble_eq_true rfl) d7_14 (fun v4 T4 L4 X4 hQ4 => ?_)
 obtain ⟨rfl, N4q, K4, s0_4, s1_4, s2_4, s3_4, s4_4, s5_4, s6_4, s7_4⟩ := hQ4
 have N4 := Fr.app N3 N4q
 refine g_aloadN X4 hx hby d7_17 rfl rfl ?_
 have z16 := (Nat.le_trans z14 K4.1)
 have f17 := (f5.keep K4)
 refine g_virtual X4 hx hby hZ hown (rm_hasp l Z a0 hw [] o q T4.heap n0 z16 s1_4) w94_ w95_ (notFace_of_selects (args := #[]) (mvT hZ w97_)) w97_ w96_ w39_ w98_ (by decide) rfl f17 (by rw [hml]; rfl) [] (lenOf own_pd9 rfl) rfl rfl (Nat.le_of_ble_eq_true rfl) (Nat.le_of_ble_eq_true rfl) (Nat.le_of_ble_eq_true rfl) (Nat.le_of_ble_eq_true rfl) d7_18 (fun v15 T15 L15 X15 hQ15 => ?_)
 obtain ⟨rfl, N15q, eh15⟩ := hQ15
 have N15 := Fr.app N4 N15q
 refine g_topI (T := T15) (1 : Int32) (if_neg hq) ?_
 refine g_at 21 rfl rfl rfl ?_
 refine g_ifN X15 hx hby d7_21 (feq (by decide : ¬ ((1 : Int32) = (0 : Int32)))).1 ?_
 refine g_aloadN X15 hx hby d7_24 rfl rfl ?_
 refine g_aloadN X15 hx hby d7_25 rfl rfl ?_
 refine g_virtual X15 hx hby hZ hown (rm_gpri l Z a0 hw [] o q T4.heap n0 z16 s1_4) w100_ w101_ (notFace_of_selects (args := #[]) (mvT hZ w103_)) w103_ w102_ w39_ w104_ (by decide) eh15 f17 (by rw [hml]; rfl) [] (lenOf own_pd7 rfl) rfl rfl (Nat.le_of_ble_eq_true rfl) (Nat.le_of_ble_eq_true rfl) (Nat.le_of_ble_eq_true rfl) (Nat.le_of_ble_eq_true rfl) d7_26 (fun v18 T18 L18 X18 hQ18 => ?_)
 obtain ⟨rfl, N18q, eh18⟩ := hQ18
 have N18 := Fr.app N15 N18q
 have ne20 : rk ≠ a := (Ne.symm (Exa.neArv EB VR w9_))
 have ne21 : rk ≠ o := (Ne.symm (Exa.neArv oE VR w38_))
 have f22 := ((VR.other W3 ne20).keep K4 (ninS ne21 nin0))
 have ne23 : la ≠ a := (Ne.symm (Exa.neArv EB VL w9_))
 have ne24 : la ≠ o := (Ne.symm (Exa.neArv oE VL w38_))
 have f25 := ((VL.other W3 ne23).keep K4 (ninS ne24 nin0))
 have f26 := ((OLD.wr W3 ga).keep K4 (allS go all0))
 have f27 := ((EB.wr W3).keep K4)
 have f28 := ((FR.other W3 (Or.inr (slot_ne (Or.inl w19_) (Or.inl w78_) (by decide) (t := (.array .long)) (t' := .long) (by decide) (by decide)))).keep K4 (ninS (Ne.symm ne6) nin0))
 have f29 := ((FL.other W3 (Or.inr (slot_ne (Or.inl w23_) (Or.inl w78_) (by decide) (t := (.array (.object "com/example/tidegate/tidegate/engine/BookSide$Level"))) (t' := .long) (by decide) (by decide)))).keep K4 (ninS (Ne.symm ne6) nin0))
 have f30 := ((FU.other W3 (Or.inr (slot_ne (Or.inr w34_) (Or.inl w78_) (by decide) (t := (.object "com/example/tidegate/tidegate/engine/BookSide$Level")) (t' := .long) (by decide) (by decide)))).keep K4 (ninS (Ne.symm ne6) nin0))
 have f31 := ((FS.other W3 (Or.inr (slot_ne (Or.inr w36_) (Or.inl w78_) (by decide) (t := (.object "com/example/tidegate/tidegate/engine/Side")) (t' := .long) (by decide) (by decide)))).keep K4 (ninS (Ne.symm ne6) nin0))
 have f32 := ((FN.other W3 (Or.inr (slot_ne (Or.inl w68_) (Or.inl w78_) (by decide) (t := .int) (t' := .long) (by decide) (by decide)))).keep K4 (ninS (Ne.symm ne6) nin0))
 have f33 := (F3.keep K4 (ninS (Ne.symm ne6) nin0))
 refine g_private X18 hx hby hZ hown (rm_lfG l Z a0 hw [] a q sd t rk la up (qy + (1 : Int64)) kr kl rs As i ba T4.heap n0 z16 SB f26 ⟨f27, f28, f29, f30, f31, f32, f33⟩ ⟨⟨vs, f22, hvl, gr⟩, ⟨wl, f25, hwl, gl⟩, hra, hl3⟩ ht hi hix) w105_ w106_ w9_ w107_ w10_ w108_ (by decide) eh18 f27 (by rw [hml]; rfl) [(.long q)] (lenOf own_pd10 rfl) rfl rfl (Nat.le_of_ble_eq_true rfl) (Nat.le_of_ble_eq_true rfl) (Nat.le_of_ble_eq_true rfl) (Nat.le_of_ble_eq_true rfl) d7_29 (fun v19 T19 L19 X19 hQ19 => ?_)
 obtain ⟨rfl, N19q, eh19⟩ := hQ19
 have N19 := Fr.app N18 N19q
 refine g_goto X19 hx hby 39 d7_32 (by decide) (by decide) ?_
 refine g_astoreN X19 hx hby d7_39 rfl (l' := #[.val (.ref a), .val (.ref o), .val (.ref (As.getD i 0))]) rfl ?_
 refine g_aloadN X19 hx hby d7_40 rfl rfl ?_
 refine g_aloadN X19 hx hby d7_41 rfl rfl ?_
 refine g_putF X19 hx hby hZ hown (host := "") (Or.inl w136_) Via.refl eh19 s7_4 f17 (Or.inl w137_) w38_ (.object "com/example/tidegate/tidegate/engine/BookSide") (by decide) rfl rfl N19 go d7_42 (fun T34 h34 X34 e34 W34 F34 N34 => ?_)
 refine g_aloadN X34 hx hby d7_45 rfl rfl ?_
 refine g_aloadN X34 hx hby d7_46 rfl rfl ?_
 have ne35 : (As.getD i 0) ≠ a := (Exa.ne lE EB (by decide))
 have ne36 : (As.getD i 0) ≠ o := (Exa.ne lE oE (by decide))
 have f37 := (((lL.other W3 (Or.inl ne35)).keep K4 (ninS ne36 nin0)).other W34 (Or.inl ne36))
 refine g_getFR X34 hx hby hZ hown w138_ e34 f37 d7_47 (fun T38 X38 e38 => ?_)
 have f39 := (f17.wr W34)
 have f40 := (s5_4.other W34 (Or.inr (slot_ne (Or.inl w141_) (Or.inl w137_) (by decide) (t := (.object "com/example/tidegate/tidegate/engine/Order")) (t' := (.object "com/example/tidegate/tidegate/engine/BookSide")) (by decide) (by decide))))
 refine g_putF X38 hx hby hZ hown (host := "") (Or.inl w140_) Via.refl e38 f40 f39 (Or.inl w141_) w38_ (.object "com/example/tidegate/tidegate/engine/Order") (by decide) rfl rfl N34 go d7_50 (fun T41 h41 X41 e41 W41 F41 N41 => ?_)
 refine g_aloadN X41 hx hby d7_53 rfl rfl ?_
 refine g_aconst_null X41 hx hby d7_54 ?_
 have f42 := (f39.wr W41)
 have f43 := ((s6_4.other W34 (Or.inr (slot_ne (Or.inl w143_) (Or.inl w137_) (by decide) (t := (.object "com/example/tidegate/tidegate/engine/Order")) (t' := (.object "com/example/tidegate/tidegate/engine/BookSide")) (by decide) (by decide)))).other W41 (Or.inr (slot_ne (Or.inl w143_) (Or.inl w141_) (by decide) (t := (.object "com/example/tidegate/tidegate/engine/Order")) (t' := (.object "com/example/tidegate/tidegate/engine/Order")) (by decide) (by decide))))
 refine g_putF X41 hx hby hZ hown (host := "") (Or.inl w142_) Via.refl e41 f43 f42 (Or.inl w143_) w38_ (.object "com/example/tidegate/tidegate/engine/Order") (by decide) rfl rfl N41 go d7_55 (fun T44 h44 X44 e44 W44 F44 N44 => ?_)
 refine g_aloadN X44 hx hby d7_58 rfl rfl ?_
 have f45 := ((f37.other W41 (Or.inl ne36)).other W44 (Or.inl ne36))
 refine g_getFR X44 hx hby hZ hown w138_ e44 f45 d7_59 (fun T46 X46 e46 => ?_)
 refine g_ifnonnullY X46 hx hby 73 d7_62 (by decide) (by decide) ?_
 refine g_aloadN X46 hx hby d7_73 rfl rfl ?_
 refine g_getFR X46 hx hby hZ hown w138_ e46 f45 d7_74 (fun T47 X47 e47 => ?_)
 refine g_aloadN X47 hx hby d7_77 rfl rfl ?_
 have f48 := (((((yE.wr W3).keep K4).wr W34).wr W41).wr W44)
 have ne49 : y ≠ a := (Exa.ne yE EB (by decide))
 have f50 := (((((y6.other W3 (Or.inl ne49)).keep K4 (ninS (Ne.symm noy) nin0)).other W34 (Or.inl (Ne.symm noy))).other W41 (Or.inl (Ne.symm noy))).other W44 (Or.inl (Ne.symm noy)))
 refine g_putF X47 hx hby hZ hown (host := "") (Or.inl w142_) Via.refl e47 f50 f48 (Or.inl w143_) w38_ (.object "com/example/tidegate/tidegate/engine/Order") (by decide) rfl rfl N44 gy d7_78 (fun T51 h51 X51 e51 W51 F51 N51 => ?_)
 refine g_aloadN X51 hx hby d7_81 rfl rfl ?_
 refine g_aloadN X51 hx hby d7_82 rfl rfl ?_
 have f52 := ((((((lE.wr W3).keep K4).wr W34).wr W41).wr W44).wr W51)
 have ne53 : (As.getD i 0) ≠ y := (Exa.ne lE yE (by decide))
 have f54 := (f45.other W51 (Or.inl ne53))
 refine g_putFR X51 hx hby hZ hown w138_ e51 f54 f52 w139_ w24_ (.object "com/example/tidegate/tidegate/engine/Order") (by decide) rfl rfl N51 glv d7_83 (fun T55 h55 X55 e55 W55 F55 N55 => ?_)
 have f56 := (((((f27.wr W34).wr W41).wr W44).wr W51).wr W55)
 have f57 := (((((f28.other W34 (Or.inl (Ne.symm ne6))).other W41 (Or.inl (Ne.symm ne6))).other W44 (Or.inl (Ne.symm ne6))).other W51 (Or.inl (Ne.symm ne49))).other W55 (Or.inl (Ne.symm ne35)))
 have f58 := (((((f29.other W34 (Or.inl (Ne.symm ne6))).other W41 (Or.inl (Ne.symm ne6))).other W44 (Or.inl (Ne.symm ne6))).other W51 (Or.inl (Ne.symm ne49))).other W55 (Or.inl (Ne.symm ne35)))
 have f59 := (((((f30.other W34 (Or.inl (Ne.symm ne6))).other W41 (Or.inl (Ne.symm ne6))).other W44 (Or.inl (Ne.symm ne6))).other W51 (Or.inl (Ne.symm ne49))).other W55 (Or.inl (Ne.symm ne35)))
 have f60 := (((((f31.other W34 (Or.inl (Ne.symm ne6))).other W41 (Or.inl (Ne.symm ne6))).other W44 (Or.inl (Ne.symm ne6))).other W51 (Or.inl (Ne.symm ne49))).other W55 (Or.inl (Ne.symm ne35)))
 have f61 := (((((f32.other W34 (Or.inl (Ne.symm ne6))).other W41 (Or.inl (Ne.symm ne6))).other W44 (Or.inl (Ne.symm ne6))).other W51 (Or.inl (Ne.symm ne49))).other W55 (Or.inl (Ne.symm ne35)))
 have f62 := (((((f33.other W34 (Or.inl (Ne.symm ne6))).other W41 (Or.inl (Ne.symm ne6))).other W44 (Or.inl (Ne.symm ne6))).other W51 (Or.inl (Ne.symm ne49))).other W55 (Or.inl (Ne.symm ne35)))
 have f63 := (((f42.wr W44).wr W51).wr W55)
 have f64 := (((((s1_4.other W34 (Or.inr (slot_ne (Or.inl w55_) (Or.inl w137_) (by decide) (t := .long) (t' := (.object "com/example/tidegate/tidegate/engine/BookSide")) (by decide) (by decide)))).other W41 (Or.inr (slot_ne (Or.inl w55_) (Or.inl w141_) (by decide) (t := .long) (t' := (.object "com/example/tidegate/tidegate/engine/Order")) (by decide) (by decide)))).other W44 (Or.inr (slot_ne (Or.inl w55_) (Or.inl w143_) (by decide) (t := .long) (t' := (.object "com/example/tidegate/tidegate/engine/Order")) (by decide) (by decide)))).other W51 (Or.inl noy)).other W55 (Or.inl (Ne.symm ne36)))
 have f65 := (((((s2_4.other W34 (Or.inr (slot_ne (Or.inr w57_) (Or.inl w137_) (by decide) (t := .long) (t' := (.object "com/example/tidegate/tidegate/engine/BookSide")) (by decide) (by decide)))).other W41 (Or.inr (slot_ne (Or.inr w57_) (Or.inl w141_) (by decide) (t := .long) (t' := (.object "com/example/tidegate/tidegate/engine/Order")) (by decide) (by decide)))).other W44 (Or.inr (slot_ne (Or.inr w57_) (Or.inl w143_) (by decide) (t := .long) (t' := (.object "com/example/tidegate/tidegate/engine/Order")) (by decide) (by decide)))).other W51 (Or.inl noy)).other W55 (Or.inl (Ne.symm ne36)))
 have f66 := (((((s3_4.other W34 (Or.inr (slot_ne (Or.inl w59_) (Or.inl w137_) (by decide) (t := .long) (t' := (.object "com/example/tidegate/tidegate/engine/BookSide")) (by decide) (by decide)))).other W41 (Or.inr (slot_ne (Or.inl w59_) (Or.inl w141_) (by decide) (t := .long) (t' := (.object "com/example/tidegate/tidegate/engine/Order")) (by decide) (by decide)))).other W44 (Or.inr (slot_ne (Or.inl w59_) (Or.inl w143_) (by decide) (t := .long) (t' := (.object "com/example/tidegate/tidegate/engine/Order")) (by decide) (by decide)))).other W51 (Or.inl noy)).other W55 (Or.inl (Ne.symm ne36)))
 have f67 := (((((s4_4.other W34 (Or.inr (slot_ne (Or.inl w93_) (Or.inl w137_) (by decide) (t := .long) (t' := (.object "com/example/tidegate/tidegate/engine/BookSide")) (by decide) (by decide)))).other W41 (Or.inr (slot_ne (Or.inl w93_) (Or.inl w141_) (by decide) (t := .long) (t' := (.object "com/example/tidegate/tidegate/engine/Order")) (by decide) (by decide)))).other W44 (Or.inr (slot_ne (Or.inl w93_) (Or.inl w143_) (by decide) (t := .long) (t' := (.object "com/example/tidegate/tidegate/engine/Order")) (by decide) (by decide)))).other W51 (Or.inl noy)).other W55 (Or.inl (Ne.symm ne36)))
 have f68 := (((F41.other W44 (Or.inr (slot_ne (Or.inl w141_) (Or.inl w143_) (by decide) (t := (.object "com/example/tidegate/tidegate/engine/Order")) (t' := (.object "com/example/tidegate/tidegate/engine/Order")) (by decide) (by decide)))).other W51 (Or.inl noy)).other W55 (Or.inl (Ne.symm ne36)))
 have f69 := ((F44.other W51 (Or.inl noy)).other W55 (Or.inl (Ne.symm ne36)))
 have f70 := ((((F34.other W41 (Or.inr (slot_ne (Or.inl w137_) (Or.inl w141_) (by decide) (t := (.object "com/example/tidegate/tidegate/engine/BookSide")) (t' := (.object "com/example/tidegate/tidegate/engine/Order")) (by decide) (by decide)))).other W44 (Or.inr (slot_ne (Or.inl w137_) (Or.inl w143_) (by decide) (t := (.object "com/example/tidegate/tidegate/engine/BookSide")) (t' := (.object "com/example/tidegate/tidegate/engine/Order")) (by decide) (by decide)))).other W51 (Or.inl noy)).other W55 (Or.inl (Ne.symm ne36)))
 have f71 := (f52.wr W55)
 have f72 := (((((((lF.other W3 (Or.inl ne35)).keep K4 (ninS ne36 nin0)).other W34 (Or.inl ne36)).other W41 (Or.inl ne36)).other W44 (Or.inl ne36)).other W51 (Or.inl ne53)).other W55 (Or.inr (slot_ne (Or.inl w66_) (Or.inl w139_) (by decide) (t := (.object "com/example/tidegate/tidegate/engine/Order")) (t' := (.object "com/example/tidegate/tidegate/engine/Order")) (by decide) (by decide))))
 have f73 := ((f48.wr W51).wr W55)
 have f74 := (((((((y1.other W3 (Or.inl ne49)).keep K4 (ninS (Ne.symm noy) nin0)).other W34 (Or.inl (Ne.symm noy))).other W41 (Or.inl (Ne.symm noy))).other W44 (Or.inl (Ne.symm noy))).other W51 (Or.inr (slot_ne (Or.inl w55_) (Or.inl w143_) (by decide) (t := .long) (t' := (.object "com/example/tidegate/tidegate/engine/Order")) (by decide) (by decide)))).other W55 (Or.inl (Ne.symm ne53)))
 have f75 := (((((((y2.other W3 (Or.inl ne49)).keep K4 (ninS (Ne.symm noy) nin0)).other W34 (Or.inl (Ne.symm noy))).other W41 (Or.inl (Ne.symm noy))).other W44 (Or.inl (Ne.symm noy))).other W51 (Or.inr (slot_ne (Or.inr w57_) (Or.inl w143_) (by decide) (t := .long) (t' := (.object "com/example/tidegate/tidegate/engine/Order")) (by decide) (by decide)))).other W55 (Or.inl (Ne.symm ne53)))
 have f76 := (((((((y3.other W3 (Or.inl ne49)).keep K4 (ninS (Ne.symm noy) nin0)).other W34 (Or.inl (Ne.symm noy))).other W41 (Or.inl (Ne.symm noy))).other W44 (Or.inl (Ne.symm noy))).other W51 (Or.inr (slot_ne (Or.inl w59_) (Or.inl w143_) (by decide) (t := .long) (t' := (.object "com/example/tidegate/tidegate/engine/Order")) (by decide) (by decide)))).other W55 (Or.inl (Ne.symm ne53)))
 have f77 := (((((((y4.other W3 (Or.inl ne49)).keep K4 (ninS (Ne.symm noy) nin0)).other W34 (Or.inl (Ne.symm noy))).other W41 (Or.inl (Ne.symm noy))).other W44 (Or.inl (Ne.symm noy))).other W51 (Or.inr (slot_ne (Or.inl w93_) (Or.inl w143_) (by decide) (t := .long) (t' := (.object "com/example/tidegate/tidegate/engine/Order")) (by decide) (by decide)))).other W55 (Or.inl (Ne.symm ne53)))
 have f78 := (((((((y5.other W3 (Or.inl ne49)).keep K4 (ninS (Ne.symm noy) nin0)).other W34 (Or.inl (Ne.symm noy))).other W41 (Or.inl (Ne.symm noy))).other W44 (Or.inl (Ne.symm noy))).other W51 (Or.inr (slot_ne (Or.inl w141_) (Or.inl w143_) (by decide) (t := (.object "com/example/tidegate/tidegate/engine/Order")) (t' := (.object "com/example/tidegate/tidegate/engine/Order")) (by decide) (by decide)))).other W55 (Or.inl (Ne.symm ne53)))
 have f79 := (F51.other W55 (Or.inl (Ne.symm ne53)))
 have f80 := (((((((y7.other W3 (Or.inl ne49)).keep K4 (ninS (Ne.symm noy) nin0)).other W34 (Or.inl (Ne.symm noy))).other W41 (Or.inl (Ne.symm noy))).other W44 (Or.inl (Ne.symm noy))).other W51 (Or.inr (slot_ne (Or.inl w137_) (Or.inl w143_) (by decide) (t := (.object "com/example/tidegate/tidegate/engine/BookSide")) (t' := (.object "com/example/tidegate/tidegate/engine/Order")) (by decide) (by decide)))).other W55 (Or.inl (Ne.symm ne53)))
 refine g_ret X55 hx hby Bd.returns Bd.notSynchronized d7_86 e55 (by decide) (by decide) ?_
 show (Q_addFn Z a q sd rk la up qy o t kr kl rs As i y yq ypv yro fv ba h0 n0) none _ _
 exact ⟨rfl, N55, ((((((((Keep.refl h0 [a, o, (As.getD i 0), y]).wr W3 (Or.inl (List.mem_of_getElem? (i := 0) rfl))).trans K4 (allS (Or.inl (List.mem_of_getElem? (i := 1) rfl)) all0)).wr W34 (Or.inl (List.mem_of_getElem? (i := 1) rfl))).wr W41 (Or.inl (List.mem_of_getElem? (i := 1) rfl))).wr W44 (Or.inl (List.mem_of_getElem? (i := 1) rfl))).wr W51 (Or.inl (List.mem_of_getElem? (i := 3) rfl))).wr W55 (Or.inl (List.mem_of_getElem? (i := 2) rfl))), ⟨f56, f57, f58, f59, f60, f61, f62⟩, ⟨f63, f64, f65, f66, f67, f68, f69, f70⟩, ⟨f71, f72, F55⟩, ⟨f73, f74, f75, f76, f77, f78, f79, f80⟩⟩

def Q_addN (Z : State) (a : Addr) (q : Int64) (sd : Addr) (rk : Addr) (la : Addr) (up : Addr) (qy : Int64) (o : Addr) (t : Int64) (kr : ClassId) (kl : ClassId) (rs : List Int64) (As : List Addr) (i : Nat) (ba : Addr) (h0 : Heap) (n0 : Nat) (v : Option Value) (h : Heap) (L : List Loc) : Prop := v = none ∧ Fr n0 L ∧ Keep h0 h [a, o, rk, la] ∧ ∃ B : Addr, h0.size ≤ B ∧ own_AR Z h rk la kr kl (rs.insertIdx i t) (As.insertIdx i B) ∧ own_BB Z h a rk la up sd (Int32.ofNat (rs.insertIdx i t).length) (qy + (1 : Int64)) ∧ own_OO Z h o q .null .null (.ref a) ∧ own_LL Z h B (.ref o) (.ref o)
set_option maxRecDepth 65536 in
set_option maxHeartbeats 40000000 in
theorem rm_addN (l : Launch) (Z : State) (a0 : Array Value) (hw : ∀ d ∈ tables_1, d.before a0 Z = true) (ws : List Jvm.Cond) (a : Addr) (q : Int64) (sd : Addr) (rk : Addr) (la : Addr) (up : Addr) (qy : Int64) (o : Addr) (t : Int64) (kr : ClassId) (kl : ClassId) (rs : List Int64) (As : List Addr) (i : Nat) (ba : Addr) (h0 : Heap) (n0 : Nat) (Z0 : n0 ≤ h0.size) (SB : Sta Z Z.heap "com/example/tidegate/tidegate/engine/Side" "BUY" "Lcom/example/tidegate/tidegate/engine/Side;" (.ref ba)) (OLD : Old Z n0 h0) (BBp : own_BB Z h0 a rk la up sd (Int32.ofNat rs.length) qy) (ORp : own_OO Z h0 o q .null .null .null) (ga : n0 ≤ a) (go : n0 ≤ o) (hq : ¬ q = (-9223372036854775808 : Int64)) (ARp : own_AR Z h0 rk la kr kl rs As) (ht : t = if sd = ba then q else -q) (hi : i ≤ rs.length) (hix : own_gix rs t = -(Int32.ofNat (i + 1))) (gh2 : rs.length ≤ 2) (grk : n0 ≤ rk) (gla : n0 ≤ la) (nrl : rk ≠ la) (OV : Ovr Z kl "com/example/tidegate/tidegate/engine/BookSide$Level") (EAs : ∀ x ∈ As, Exa Z h0 x "com/example/tidegate/tidegate/engine/BookSide$Level") :
  MetFree l (⟨"com/example/tidegate/tidegate/engine/BookSide", "add", "(Lcom/example/tidegate/tidegate/engine/Order;)V"⟩ : MethodName) (head1 (Jvm.Cond.code (⟨"com/example/tidegate/tidegate/engine/BookSide", "add", "(Lcom/example/tidegate/tidegate/engine/Order;)V"⟩ : MethodName) prog_2_method_7_code 3 none :: ws) ({ frames := 6, cells := 1, slots := 3, locals := 155 } : Room)) (fun aa_ U => aa_ = #[(.ref a), (.ref o)] ∧ Z.Warmed39 U.vm ∧ U.heap = h0) (fun _ _ _ _ _ => True) (fun _ U o_ U' => RetG U (Q_addN Z a q sd rk la up qy o t kr kl rs As i ba h0 n0) 1 3 U' o_) := by
 refine MetFree.of_bodySF (plainFor_of_name own_pn1) hisR ?_
 intro p e s m args below meth c_ s₁ Bd hml0 hP hK
 obtain ⟨rfl, hZ, hh⟩ := hP
 have hx := Bd.exec
 have hby := Bd.bytes
 have hml : c_.maxLocals = 3 := hml0
 have hown : s.vm.findClass "com/example/tidegate/tidegate/engine/BookSide" = some m.cls := findClass_of_methodNamed Bd.named
 have hnm := (name_of_methodNamed Bd.named Bd.method).1
 have X0 : Stand p l e ({ frames := 6, cells := 1, slots := 3, locals := 155 } : Room) s m #[(.ref a), (.ref o)] below meth c_ s₁ [] 0 0 := Stand.of_body Bd
 have e0 : s₁.heap = h0 := by rw [← hh, Bd.state]; rfl
 have N0 := Fr.nil n0
 have w9_ := hw _ (List.mem_of_getElem? (i := 9) rfl)
 have w10_ := hw _ (List.mem_of_getElem? (i := 10) rfl)
 have w19_ := hw _ (List.mem_of_getElem? (i := 19) rfl)
 have w23_ := hw _ (List.mem_of_getElem? (i := 23) rfl)
 have w24_ := hw _ (List.mem_of_getElem? (i := 24) rfl)
 have w34_ := hw _ (List.mem_of_getElem? (i := 34) rfl)
 have w36_ := hw _ (List.mem_of_getElem? (i := 36) rfl)
 have w38_ := hw _ (List.mem_of_getElem? (i := 38) rfl)
 have w39_ := hw _ (List.mem_of_getElem? (i := 39) rfl)
 have w55_ := hw _ (List.mem_of_getElem? (i := 55) rfl)
 have w57_ := hw _ (List.mem_of_getElem? (i := 57) rfl)
 have w59_ := hw _ (List.mem_of_getElem? (i := 59) rfl)
 have w65_ := hw _ (List.mem_of_getElem? (i := 65) rfl)
 have w66_ := hw _ (List.mem_of_getElem? (i := 66) rfl)
 have w68_ := hw _ (List.mem_of_getElem? (i := 68) rfl)
 have w77_ := hw _ (List.mem_of_getElem? (i := 77) rfl)
 have w78_ := hw _ (List.mem_of_getElem? (i := 78) rfl)
 have w79_ := hw _ (List.mem_of_getElem? (i := 79) rfl)
 have w80_ := hw _ (List.mem_of_getElem? (i := 80) rfl)
 have w81_ := hw _ (List.mem_of_getElem? (i := 81) rfl)
 have w82_ := hw _ (List.mem_of_getElem? (i := 82) rfl)
 have w83_ := hw _ (List.mem_of_getElem? (i := 83) rfl)
 have w84_ := hw _ (List.mem_of_getElem? (i := 84) rfl)
 have w85_ := hw _ (List.mem_of_getElem? (i := 85) rfl)
 have w86_ := hw _ (List.mem_of_getElem? (i := 86) rfl)
 have w87_ := hw _ (List.mem_of_getElem? (i := 87) rfl)
 have w88_ := hw _ (List.mem_of_getElem? (i := 88) rfl)
 have w93_ := hw _ (List.mem_of_getElem? (i := 93) rfl)
 have w94_ := hw _ (List.mem_of_getElem? (i := 94) rfl)
 have w95_ := hw _ (List.mem_of_getElem? (i := 95) rfl)
 have w96_ := hw _ (List.mem_of_getElem? (i := 96) rfl)
 have w97_ := hw _ (List.mem_of_getElem? (i := 97) rfl)
 have w98_ := hw _ (List.mem_of_getElem? (i := 98) rfl)
 have w100_ := hw _ (List.mem_of_getElem? (i := 100) rfl)
 have w101_ := hw _ (List.mem_of_getElem? (i := 101) rfl)
 have w102_ := hw _ (List.mem_of_getElem? (i := 102) rfl)
 have w103_ := hw _ (List.mem_of_getElem? (i := 103) rfl)
 have w104_ := hw _ (List.mem_of_getElem? (i := 104) rfl)
 have w105_ := hw _ (List.mem_of_getElem? (i := 105) rfl)
 have w106_ := hw _ (List.mem_of_getElem? (i := 106) rfl)
 have w107_ := hw _ (List.mem_of_getElem? (i := 107) rfl)
 have w108_ := hw _ (List.mem_of_getElem? (i := 108) rfl)
 have w136_ := hw _ (List.mem_of_getElem? (i := 136) rfl)
 have w137_ := hw _ (List.mem_of_getElem? (i := 137) rfl)
 have w138_ := hw _ (List.mem_of_getElem? (i := 138) rfl)
 have w139_ := hw _ (List.mem_of_getElem? (i := 139) rfl)
 have w140_ := hw _ (List.mem_of_getElem? (i := 140) rfl)
 have w141_ := hw _ (List.mem_of_getElem? (i := 141) rfl)
 have w142_ := hw _ (List.mem_of_getElem? (i := 142) rfl)
 have w143_ := hw _ (List.mem_of_getElem? (i := 143) rfl)
 obtain ⟨EB, FR, FL, FU, FS, FN, FQ⟩ := BBp
 obtain ⟨oE, o1, o2, o3, o4, o5, o6, o7⟩ := ORp
 obtain ⟨⟨vs, VR, hvl, gr⟩, ⟨wl, VL, hwl, gl⟩, hra, hl3⟩ := ARp
 show Go p e below (RetG s (Q_addN Z a q sd rk la up qy o t kr kl rs As i ba h0 n0) 1 3) (s₁.setTop (entryFrame m #[(.ref a), (.ref o)] 3))
 rw [show entryFrame m #[(.ref a), (.ref o)] 3 = mkF m 0 #[.val (.ref a), .val (.ref o), .unset] [] from by first | (simp [entryFrame, mkF, argsToLocals, Value.category]; done) | rfl]
 refine g_aloadN X0 hx hby d7_0 rfl rfl ?_
 refine g_dup X0 hx hby d7_1 rfl ?_
 refine g_getF X0 hx hby hZ hown (host := "") (Or.inl w77_) Via.refl e0 FQ d7_2 (fun T1 X1 e1 => ?_)
 refine g_aloadN X1 hx hby d7_5 rfl rfl ?_
 refine g_virtual X1 hx hby hZ hown (rm_grem l Z a0 hw [] o (1 : Int64) h0 n0 Z0 o3) w79_ w80_ (notFace_of_selects (args := #[]) (mvT hZ w82_)) w82_ w81_ w39_ w83_ (by decide) e1 oE (by rw [hml]; rfl) [] (lenOf own_pd7 rfl) rfl rfl (Nat.le_of_ble_eq_true rfl) (Nat.le_of_ble_eq_true rfl) (Nat.le_of_ble_eq_true rfl) (Nat.le_of_ble_eq_true rfl) d7_6 (fun v2 T2 L2 X2 hQ2 => ?_)
 obtain ⟨rfl, N2q, eh2⟩ := hQ2
 have N2 := Fr.app N0 N2q
 refine g_ladd X2 hx hby d7_9 ?_
 refine g_putF X2 hx hby hZ hown (host := "") (Or.inl w77_) Via.refl eh2 FQ EB (Or.inl w78_) w9_ .long (by decide) rfl rfl N2 ga d7_10 (fun T3 h3 X3 e3 W3 F3 N3 => ?_)
 refine g_aloadN X3 hx hby d7_13 rfl rfl ?_
 have f5 := (oE.wr W3)
 have ne6 : o ≠ a := (Exa.ne oE EB (by decide))
 have f7 := (o1.other W3 (Or.inl ne6))
 have f8 := (o2.other W3 (Or.inl ne6))
 have f9 := (o3.other W3 (Or.inl ne6))
 have f10 := (o4.other W3 (Or.inl ne6))
 have f11 := (o5.other W3 (Or.inl ne6))
 have f12 := (o6.other W3 (Or.inl ne6))
 have f13 := (o7.other W3 (Or.inl ne6))
 have z14 := (Nat.le_trans Z0 (Keep.of_wr W3).1)
 refine g_virtual X3 hx hby hZ hown (rm_ssl l Z a0 hw [] o q .null .null .null h3 n0 z14 ⟨f5, f7, f8, f9, f10, f11, f12, f13⟩ go) w84_ w85_ (notFace_of_selects (args := #[]) (mvT hZ w87_)) w87_ w86_ w39_ w88_ (by decide) e3 f5 (by rw [hml]; rfl) [] (lenOf own_pd8 rfl) rfl rfl (Nat.le_of_ble_eq_true rfl) (Nat.le_of_ble_eq_true rfl) (Nat.le_of_ble_eq_true rfl) (Nat.le_of_ble_eq_true rfl) d7_14 (fun v4 T4 L4 X4 hQ4 => ?_)
 obtain ⟨rfl, N4q, K4, s0_4, s1_4, s2_4, s3_4, s4_4, s5_4, s6_4, s7_4⟩ := hQ4
 have N4 := Fr.app N3 N4q
 refine g_aloadN X4 hx hby d7_17 rfl rfl ?_
 have z16 := (Nat.le_trans z14 K4.1)
 have f17 := (f5.keep K4)
 refine g_virtual X4 hx hby hZ hown (rm_hasp l Z a0 hw [] o q T4.heap n0 z16 s1_4) w94_ w95_ (notFace_of_selects (args := #[]) (mvT hZ w97_)) w97_ w96_ w39_ w98_ (by decide) rfl f17 (by rw [hml]; rfl) [] (lenOf own_pd9 rfl) rfl rfl (Nat.le_of_ble_eq_true rfl) (Nat.le_of_ble_eq_true rfl) (Nat.le_of_ble_eq_true rfl) (Nat.le_of_ble_eq_true rfl) d7_18 (fun v15 T15 L15 X15 hQ15 => ?_)
 obtain ⟨rfl, N15q, eh15⟩ := hQ15
 have N15 := Fr.app N4 N15q
 refine g_topI (T := T15) (1 : Int32) (if_neg hq) ?_
 refine g_at 21 rfl rfl rfl ?_
 refine g_ifN X15 hx hby d7_21 (feq (by decide : ¬ ((1 : Int32) = (0 : Int32)))).1 ?_
 refine g_aloadN X15 hx hby d7_24 rfl rfl ?_
 refine g_aloadN X15 hx hby d7_25 rfl rfl ?_
 refine g_virtual X15 hx hby hZ hown (rm_gpri l Z a0 hw [] o q T4.heap n0 z16 s1_4) w100_ w101_ (notFace_of_selects (args := #[]) (mvT hZ w103_)) w103_ w102_ w39_ w104_ (by decide) eh15 f17 (by rw [hml]; rfl) [] (lenOf own_pd7 rfl) rfl rfl (Nat.le_of_ble_eq_true rfl) (Nat.le_of_ble_eq_true rfl) (Nat.le_of_ble_eq_true rfl) (Nat.le_of_ble_eq_true rfl) d7_26 (fun v18 T18 L18 X18 hQ18 => ?_)
 obtain ⟨rfl, N18q, eh18⟩ := hQ18
 have N18 := Fr.app N15 N18q
 have ne20 : rk ≠ a := (Ne.symm (Exa.neArv EB VR w9_))
 have ne21 : rk ≠ o := (Ne.symm (Exa.neArv oE VR w38_))
 have f22 := ((VR.other W3 ne20).keep K4 (ninS ne21 nin0))
 have ne23 : la ≠ a := (Ne.symm (Exa.neArv EB VL w9_))
 have ne24 : la ≠ o := (Ne.symm (Exa.neArv oE VL w38_))
 have f25 := ((VL.other W3 ne23).keep K4 (ninS ne24 nin0))
 have f26 := ((OLD.wr W3 ga).keep K4 (allS go all0))
 have f27 := ((EB.wr W3).keep K4)
 have f28 := ((FR.other W3 (Or.inr (slot_ne (Or.inl w19_) (Or.inl w78_) (by decide) (t := (.array .long)) (t' := .long) (by decide) (by decide)))).keep K4 (ninS (Ne.symm ne6) nin0))
 have f29 := ((FL.other W3 (Or.inr (slot_ne (Or.inl w23_) (Or.inl w78_) (by decide) (t := (.array (.object "com/example/tidegate/tidegate/engine/BookSide$Level"))) (t' := .long) (by decide) (by decide)))).keep K4 (ninS (Ne.symm ne6) nin0))
 have f30 := ((FU.other W3 (Or.inr (slot_ne (Or.inr w34_) (Or.inl w78_) (by decide) (t := (.object "com/example/tidegate/tidegate/engine/BookSide$Level")) (t' := .long) (by decide) (by decide)))).keep K4 (ninS (Ne.symm ne6) nin0))
 have f31 := ((FS.other W3 (Or.inr (slot_ne (Or.inr w36_) (Or.inl w78_) (by decide) (t := (.object "com/example/tidegate/tidegate/engine/Side")) (t' := .long) (by decide) (by decide)))).keep K4 (ninS (Ne.symm ne6) nin0))
 have f32 := ((FN.other W3 (Or.inr (slot_ne (Or.inl w68_) (Or.inl w78_) (by decide) (t := .int) (t' := .long) (by decide) (by decide)))).keep K4 (ninS (Ne.symm ne6) nin0))
 have f33 := (F3.keep K4 (ninS (Ne.symm ne6) nin0))
 refine g_private X18 hx hby hZ hown (rm_lnG l Z a0 hw [] a q sd t rk la up (qy + (1 : Int64)) kr kl rs As i ba T4.heap n0 z16 SB f26 ⟨f27, f28, f29, f30, f31, f32, f33⟩ ⟨⟨vs, f22, hvl, gr⟩, ⟨wl, f25, hwl, gl⟩, hra, hl3⟩ ht hi gh2 hix ga grk gla nrl OV (fun x hx9 => (EAs x hx9).keep (((Keep.refl h0 [a, o, rk, la]).wr W3 (Or.inl (List.mem_of_getElem? (i := 0) rfl))).trans K4 (allS (Or.inl (List.mem_of_getElem? (i := 1) rfl)) all0)))) w105_ w106_ w9_ w107_ w10_ w108_ (by decide) eh18 f27 (by rw [hml]; rfl) [(.long q)] (lenOf own_pd10 rfl) rfl rfl (Nat.le_of_ble_eq_true rfl) (Nat.le_of_ble_eq_true rfl) (Nat.le_of_ble_eq_true rfl) (Nat.le_of_ble_eq_true rfl) d7_29 (fun v19 T19 L19 X19 hQ19 => ?_)
 obtain ⟨N19q, K19, B19, rfl, lB19, ⟨b0_19, b1_19, b2_19, b3_19, b4_19, b5_19, b6_19⟩, ⟨⟨vn19, Vr19, rr19⟩, ⟨wn19, Vl19, rl19⟩, rx19⟩, nE19, nF19, nL19⟩ := hQ19
 have N19 := Fr.app N18 N19q
 refine g_goto X19 hx hby 39 d7_32 (by decide) (by decide) ?_
 refine g_astoreN X19 hx hby d7_39 rfl (l' := #[.val (.ref a), .val (.ref o), .val (.ref B19)]) rfl ?_
 refine g_aloadN X19 hx hby d7_40 rfl rfl ?_
 refine g_aloadN X19 hx hby d7_41 rfl rfl ?_
 have f34 := (f17.keep K19)
 have f35 := (s7_4.keep K19 (ninS ne6 (ninS (Ne.symm ne21) (ninS (Ne.symm ne24) nin0))))
 refine g_putF X19 hx hby hZ hown (host := "") (Or.inl w136_) Via.refl rfl f35 f34 (Or.inl w137_) w38_ (.object "com/example/tidegate/tidegate/engine/BookSide") (by decide) rfl rfl N19 go d7_42 (fun T36 h36 X36 e36 W36 F36 N36 => ?_)
 refine g_aloadN X36 hx hby d7_45 rfl rfl ?_
 refine g_aloadN X36 hx hby d7_46 rfl rfl ?_
 have ne37 : B19 ≠ o := (Ne.symm (Nat.ne_of_lt (Nat.lt_of_lt_of_le oE.lt (Nat.le_trans (Nat.le_trans (Keep.of_wr W3).1 K4.1) lB19))))
 have f38 := (nL19.other W36 (Or.inl ne37))
 refine g_getFR X36 hx hby hZ hown w138_ e36 f38 d7_47 (fun T39 X39 e39 => ?_)
 have f40 := (f34.wr W36)
 have f41 := ((s5_4.keep K19 (ninS ne6 (ninS (Ne.symm ne21) (ninS (Ne.symm ne24) nin0)))).other W36 (Or.inr (slot_ne (Or.inl w141_) (Or.inl w137_) (by decide) (t := (.object "com/example/tidegate/tidegate/engine/Order")) (t' := (.object "com/example/tidegate/tidegate/engine/BookSide")) (by decide) (by decide))))
 refine g_putF X39 hx hby hZ hown (host := "") (Or.inl w140_) Via.refl e39 f41 f40 (Or.inl w141_) w38_ (.object "com/example/tidegate/tidegate/engine/Order") (by decide) rfl rfl N36 go d7_50 (fun T42 h42 X42 e42 W42 F42 N42 => ?_)
 refine g_aloadN X42 hx hby d7_53 rfl rfl ?_
 refine g_aconst_null X42 hx hby d7_54 ?_
 have f43 := (f40.wr W42)
 have f44 := (((s6_4.keep K19 (ninS ne6 (ninS (Ne.symm ne21) (ninS (Ne.symm ne24) nin0)))).other W36 (Or.inr (slot_ne (Or.inl w143_) (Or.inl w137_) (by decide) (t := (.object "com/example/tidegate/tidegate/engine/Order")) (t' := (.object "com/example/tidegate/tidegate/engine/BookSide")) (by decide) (by decide)))).other W42 (Or.inr (slot_ne (Or.inl w143_) (Or.inl w141_) (by decide) (t := (.object "com/example/tidegate/tidegate/engine/Order")) (t' := (.object "com/example/tidegate/tidegate/engine/Order")) (by decide) (by decide))))
 refine g_putF X42 hx hby hZ hown (host := "") (Or.inl w142_) Via.refl e42 f44 f43 (Or.inl w143_) w38_ (.object "com/example/tidegate/tidegate/engine/Order") (by decide) rfl rfl N42 go d7_55 (fun T45 h45 X45 e45 W45 F45 N45 => ?_)
 refine g_aloadN X45 hx hby d7_58 rfl rfl ?_
 have f46 := ((f38.other W42 (Or.inl ne37)).other W45 (Or.inl ne37))
 refine g_getFR X45 hx hby hZ hown w138_ e45 f46 d7_59 (fun T47 X47 e47 => ?_)
 refine g_ifnonnullN X47 hx hby d7_62 ?_
 refine g_aloadN X47 hx hby d7_65 rfl rfl ?_
 refine g_aloadN X47 hx hby d7_66 rfl rfl ?_
 have f48 := (((nE19.wr W36).wr W42).wr W45)
 have f49 := (((nF19.other W36 (Or.inl ne37)).other W42 (Or.inl ne37)).other W45 (Or.inl ne37))
 have g_B19 : n0 ≤ B19 := Nat.le_trans z16 lB19
 refine g_putFR X47 hx hby hZ hown w65_ e47 f49 f48 w66_ w24_ (.object "com/example/tidegate/tidegate/engine/Order") (by decide) rfl rfl N45 g_B19 d7_67 (fun T50 h50 X50 e50 W50 F50 N50 => ?_)
 refine g_goto X50 hx hby 81 d7_70 (by decide) (by decide) ?_
 refine g_aloadN X50 hx hby d7_81 rfl rfl ?_
 refine g_aloadN X50 hx hby d7_82 rfl rfl ?_
 have f51 := (f48.wr W50)
 have f52 := (f46.other W50 (Or.inr (slot_ne (Or.inl w139_) (Or.inl w66_) (by decide) (t := (.object "com/example/tidegate/tidegate/engine/Order")) (t' := (.object "com/example/tidegate/tidegate/engine/Order")) (by decide) (by decide))))
 refine g_putFR X50 hx hby hZ hown w138_ e50 f52 f51 w139_ w24_ (.object "com/example/tidegate/tidegate/engine/Order") (by decide) rfl rfl N50 g_B19 d7_83 (fun T53 h53 X53 e53 W53 F53 N53 => ?_)
 have ne54 : rk ≠ B19 := (Nat.ne_of_lt (Nat.lt_of_lt_of_le VR.lt (Nat.le_trans (Nat.le_trans (Keep.of_wr W3).1 K4.1) lB19)))
 have f55 := (((((Vr19.other W36 ne21).other W42 ne21).other W45 ne21).other W50 ne54).other W53 ne54)
 have ne56 : la ≠ B19 := (Nat.ne_of_lt (Nat.lt_of_lt_of_le VL.lt (Nat.le_trans (Nat.le_trans (Keep.of_wr W3).1 K4.1) lB19)))
 have f57 := (((((Vl19.other W36 ne24).other W42 ne24).other W45 ne24).other W50 ne56).other W53 ne56)
 have f58 := ((((((f27.keep K19).wr W36).wr W42).wr W45).wr W50).wr W53)
 have ne59 : a ≠ B19 := (Nat.ne_of_lt (Nat.lt_of_lt_of_le EB.lt (Nat.le_trans (Nat.le_trans (Keep.of_wr W3).1 K4.1) lB19)))
 have f60 := (((((b1_19.other W36 (Or.inl (Ne.symm ne6))).other W42 (Or.inl (Ne.symm ne6))).other W45 (Or.inl (Ne.symm ne6))).other W50 (Or.inl ne59)).other W53 (Or.inl ne59))
 have f61 := (((((b2_19.other W36 (Or.inl (Ne.symm ne6))).other W42 (Or.inl (Ne.symm ne6))).other W45 (Or.inl (Ne.symm ne6))).other W50 (Or.inl ne59)).other W53 (Or.inl ne59))
 have f62 := (((((b3_19.other W36 (Or.inl (Ne.symm ne6))).other W42 (Or.inl (Ne.symm ne6))).other W45 (Or.inl (Ne.symm ne6))).other W50 (Or.inl ne59)).other W53 (Or.inl ne59))
 have f63 := (((((b4_19.other W36 (Or.inl (Ne.symm ne6))).other W42 (Or.inl (Ne.symm ne6))).other W45 (Or.inl (Ne.symm ne6))).other W50 (Or.inl ne59)).other W53 (Or.inl ne59))
 have f64 := (((((b5_19.other W36 (Or.inl (Ne.symm ne6))).other W42 (Or.inl (Ne.symm ne6))).other W45 (Or.inl (Ne.symm ne6))).other W50 (Or.inl ne59)).other W53 (Or.inl ne59))
 have f65 := (((((b6_19.other W36 (Or.inl (Ne.symm ne6))).other W42 (Or.inl (Ne.symm ne6))).other W45 (Or.inl (Ne.symm ne6))).other W50 (Or.inl ne59)).other W53 (Or.inl ne59))
 have f66 := (((f43.wr W45).wr W50).wr W53)
 have f67 := ((((((s1_4.keep K19 (ninS ne6 (ninS (Ne.symm ne21) (ninS (Ne.symm ne24) nin0)))).other W36 (Or.inr (slot_ne (Or.inl w55_) (Or.inl w137_) (by decide) (t := .long) (t' := (.object "com/example/tidegate/tidegate/engine/BookSide")) (by decide) (by decide)))).other W42 (Or.inr (slot_ne (Or.inl w55_) (Or.inl w141_) (by decide) (t := .long) (t' := (.object "com/example/tidegate/tidegate/engine/Order")) (by decide) (by decide)))).other W45 (Or.inr (slot_ne (Or.inl w55_) (Or.inl w143_) (by decide) (t := .long) (t' := (.object "com/example/tidegate/tidegate/engine/Order")) (by decide) (by decide)))).other W50 (Or.inl (Ne.symm ne37))).other W53 (Or.inl (Ne.symm ne37)))
 have f68 := ((((((s2_4.keep K19 (ninS ne6 (ninS (Ne.symm ne21) (ninS (Ne.symm ne24) nin0)))).other W36 (Or.inr (slot_ne (Or.inr w57_) (Or.inl w137_) (by decide) (t := .long) (t' := (.object "com/example/tidegate/tidegate/engine/BookSide")) (by decide) (by decide)))).other W42 (Or.inr (slot_ne (Or.inr w57_) (Or.inl w141_) (by decide) (t := .long) (t' := (.object "com/example/tidegate/tidegate/engine/Order")) (by decide) (by decide)))).other W45 (Or.inr (slot_ne (Or.inr w57_) (Or.inl w143_) (by decide) (t := .long) (t' := (.object "com/example/tidegate/tidegate/engine/Order")) (by decide) (by decide)))).other W50 (Or.inl (Ne.symm ne37))).other W53 (Or.inl (Ne.symm ne37)))
 have f69 := ((((((s3_4.keep K19 (ninS ne6 (ninS (Ne.symm ne21) (ninS (Ne.symm ne24) nin0)))).other W36 (Or.inr (slot_ne (Or.inl w59_) (Or.inl w137_) (by decide) (t := .long) (t' := (.object "com/example/tidegate/tidegate/engine/BookSide")) (by decide) (by decide)))).other W42 (Or.inr (slot_ne (Or.inl w59_) (Or.inl w141_) (by decide) (t := .long) (t' := (.object "com/example/tidegate/tidegate/engine/Order")) (by decide) (by decide)))).other W45 (Or.inr (slot_ne (Or.inl w59_) (Or.inl w143_) (by decide) (t := .long) (t' := (.object "com/example/tidegate/tidegate/engine/Order")) (by decide) (by decide)))).other W50 (Or.inl (Ne.symm ne37))).other W53 (Or.inl (Ne.symm ne37)))
 have f70 := ((((((s4_4.keep K19 (ninS ne6 (ninS (Ne.symm ne21) (ninS (Ne.symm ne24) nin0)))).other W36 (Or.inr (slot_ne (Or.inl w93_) (Or.inl w137_) (by decide) (t := .long) (t' := (.object "com/example/tidegate/tidegate/engine/BookSide")) (by decide) (by decide)))).other W42 (Or.inr (slot_ne (Or.inl w93_) (Or.inl w141_) (by decide) (t := .long) (t' := (.object "com/example/tidegate/tidegate/engine/Order")) (by decide) (by decide)))).other W45 (Or.inr (slot_ne (Or.inl w93_) (Or.inl w143_) (by decide) (t := .long) (t' := (.object "com/example/tidegate/tidegate/engine/Order")) (by decide) (by decide)))).other W50 (Or.inl (Ne.symm ne37))).other W53 (Or.inl (Ne.symm ne37)))
 have f71 := (((F42.other W45 (Or.inr (slot_ne (Or.inl w141_) (Or.inl w143_) (by decide) (t := (.object "com/example/tidegate/tidegate/engine/Order")) (t' := (.object "com/example/tidegate/tidegate/engine/Order")) (by decide) (by decide)))).other W50 (Or.inl (Ne.symm ne37))).other W53 (Or.inl (Ne.symm ne37)))
 have f72 := ((F45.other W50 (Or.inl (Ne.symm ne37))).other W53 (Or.inl (Ne.symm ne37)))
 have f73 := ((((F36.other W42 (Or.inr (slot_ne (Or.inl w137_) (Or.inl w141_) (by decide) (t := (.object "com/example/tidegate/tidegate/engine/BookSide")) (t' := (.object "com/example/tidegate/tidegate/engine/Order")) (by decide) (by decide)))).other W45 (Or.inr (slot_ne (Or.inl w137_) (Or.inl w143_) (by decide) (t := (.object "com/example/tidegate/tidegate/engine/BookSide")) (t' := (.object "com/example/tidegate/tidegate/engine/Order")) (by decide) (by decide)))).other W50 (Or.inl (Ne.symm ne37))).other W53 (Or.inl (Ne.symm ne37)))
 have f74 := (f51.wr W53)
 have f75 := (F50.other W53 (Or.inr (slot_ne (Or.inl w66_) (Or.inl w139_) (by decide) (t := (.object "com/example/tidegate/tidegate/engine/Order")) (t' := (.object "com/example/tidegate/tidegate/engine/Order")) (by decide) (by decide))))
 refine g_ret X53 hx hby Bd.returns Bd.notSynchronized d7_86 e53 (by decide) (by decide) ?_
 show (Q_addN Z a q sd rk la up qy o t kr kl rs As i ba h0 n0) none _ _
 exact ⟨rfl, N53, (((((((((Keep.refl h0 [a, o, rk, la]).wr W3 (Or.inl (List.mem_of_getElem? (i := 0) rfl))).trans K4 (allS (Or.inl (List.mem_of_getElem? (i := 1) rfl)) all0)).trans K19 (allS (Or.inl (List.mem_of_getElem? (i := 0) rfl)) (allS (Or.inl (List.mem_of_getElem? (i := 2) rfl)) (allS (Or.inl (List.mem_of_getElem? (i := 3) rfl)) all0)))).wr W36 (Or.inl (List.mem_of_getElem? (i := 1) rfl))).wr W42 (Or.inl (List.mem_of_getElem? (i := 1) rfl))).wr W45 (Or.inl (List.mem_of_getElem? (i := 1) rfl))).wr W50 (Or.inr (Nat.le_trans (Nat.le_trans (Keep.of_wr W3).1 K4.1) lB19))).wr W53 (Or.inr (Nat.le_trans (Nat.le_trans (Keep.of_wr W3).1 K4.1) lB19))), B19, (Nat.le_trans (Nat.le_trans (Keep.of_wr W3).1 K4.1) lB19), ⟨⟨_, f55, rr19⟩, ⟨_, f57, rl19⟩, rx19⟩, ⟨f58, f60, f61, f62, f63, f64, f65⟩, ⟨f66, f67, f68, f69, f70, f71, f72, f73⟩, ⟨f74, f75, F53⟩⟩

theorem d20_0 : decode prog_2_method_10_code 0 = .ok (.aload_n 0, 1) := by decide +kernel
theorem d20_1 : decode prog_2_method_10_code 1 = .ok (.dup, 1) := by decide +kernel
theorem d20_2 : decode prog_2_method_10_code 2 = .ok (.getfield 59, 3) := by decide +kernel
theorem d20_5 : decode prog_2_method_10_code 5 = .ok (.aload_n 1, 1) := by decide +kernel
theorem d20_6 : decode prog_2_method_10_code 6 = .ok (.invokevirtual 52, 3) := by decide +kernel
theorem d20_9 : decode prog_2_method_10_code 9 = .ok (.lsub, 1) := by decide +kernel
theorem d20_10 : decode prog_2_method_10_code 10 = .ok (.putfield 59, 3) := by decide +kernel
theorem d20_13 : decode prog_2_method_10_code 13 = .ok (.aload_n 1, 1) := by decide +kernel
theorem d20_14 : decode prog_2_method_10_code 14 = .ok (.invokevirtual 65, 3) := by decide +kernel
theorem d20_17 : decode prog_2_method_10_code 17 = .ok (.ifCond .eq 14, 3) := by decide +kernel
theorem d20_31 : decode prog_2_method_10_code 31 = .ok (.iconst (-1), 1) := by decide +kernel
theorem d20_32 : decode prog_2_method_10_code 32 = .ok (.istore_n 2, 1) := by decide +kernel
theorem d20_33 : decode prog_2_method_10_code 33 = .ok (.iload_n 2, 1) := by decide +kernel
theorem d20_34 : decode prog_2_method_10_code 34 = .ok (.ifCond .ge 10, 3) := by decide +kernel
theorem d20_37 : decode prog_2_method_10_code 37 = .ok (.aload_n 0, 1) := by decide +kernel
theorem d20_38 : decode prog_2_method_10_code 38 = .ok (.getfield 26, 3) := by decide +kernel
theorem d20_41 : decode prog_2_method_10_code 41 = .ok (.goto 9, 3) := by decide +kernel
theorem d20_50 : decode prog_2_method_10_code 50 = .ok (.astore_n 3, 1) := by decide +kernel
theorem d20_51 : decode prog_2_method_10_code 51 = .ok (.aload_n 1, 1) := by decide +kernel
theorem d20_52 : decode prog_2_method_10_code 52 = .ok (.getfield 83, 3) := by decide +kernel
theorem d20_55 : decode prog_2_method_10_code 55 = .ok (.ifnonnull 14, 3) := by decide +kernel
theorem d20_58 : decode prog_2_method_10_code 58 = .ok (.aload_n 3, 1) := by decide +kernel
theorem d20_59 : decode prog_2_method_10_code 59 = .ok (.aload_n 1, 1) := by decide +kernel
theorem d20_60 : decode prog_2_method_10_code 60 = .ok (.getfield 56, 3) := by decide +kernel
theorem d20_63 : decode prog_2_method_10_code 63 = .ok (.putfield 34, 3) := by decide +kernel
theorem d20_66 : decode prog_2_method_10_code 66 = .ok (.goto 14, 3) := by decide +kernel
theorem d20_80 : decode prog_2_method_10_code 80 = .ok (.aload_n 1, 1) := by decide +kernel
theorem d20_81 : decode prog_2_method_10_code 81 = .ok (.getfield 56, 3) := by decide +kernel
theorem d20_84 : decode prog_2_method_10_code 84 = .ok (.ifnonnull 14, 3) := by decide +kernel
theorem d20_87 : decode prog_2_method_10_code 87 = .ok (.aload_n 3, 1) := by decide +kernel
theorem d20_88 : decode prog_2_method_10_code 88 = .ok (.aload_n 1, 1) := by decide +kernel
theorem d20_89 : decode prog_2_method_10_code 89 = .ok (.getfield 83, 3) := by decide +kernel
theorem d20_92 : decode prog_2_method_10_code 92 = .ok (.putfield 80, 3) := by decide +kernel
theorem d20_95 : decode prog_2_method_10_code 95 = .ok (.goto 14, 3) := by decide +kernel
theorem d20_109 : decode prog_2_method_10_code 109 = .ok (.aload_n 1, 1) := by decide +kernel
theorem d20_110 : decode prog_2_method_10_code 110 = .ok (.aconst_null, 1) := by decide +kernel
theorem d20_111 : decode prog_2_method_10_code 111 = .ok (.putfield 76, 3) := by decide +kernel
theorem d20_114 : decode prog_2_method_10_code 114 = .ok (.aload_n 1, 1) := by decide +kernel
theorem d20_115 : decode prog_2_method_10_code 115 = .ok (.aconst_null, 1) := by decide +kernel
theorem d20_116 : decode prog_2_method_10_code 116 = .ok (.putfield 83, 3) := by decide +kernel
theorem d20_119 : decode prog_2_method_10_code 119 = .ok (.aload_n 1, 1) := by decide +kernel
theorem d20_120 : decode prog_2_method_10_code 120 = .ok (.aconst_null, 1) := by decide +kernel
theorem d20_121 : decode prog_2_method_10_code 121 = .ok (.putfield 56, 3) := by decide +kernel
theorem d20_124 : decode prog_2_method_10_code 124 = .ok (.aload_n 3, 1) := by decide +kernel
theorem d20_125 : decode prog_2_method_10_code 125 = .ok (.getfield 34, 3) := by decide +kernel
theorem d20_128 : decode prog_2_method_10_code 128 = .ok (.ifnonnull 69, 3) := by decide +kernel
theorem d20_131 : decode prog_2_method_10_code 131 = .ok (.iload_n 2, 1) := by decide +kernel
theorem d20_132 : decode prog_2_method_10_code 132 = .ok (.ifCond .lt 65, 3) := by decide +kernel
theorem d20_197 : decode prog_2_method_10_code 197 = .ok (.return_, 1) := by decide +kernel
def Q_remU (Z : State) (a : Addr) (q : Int64) (sd : Addr) (rk : Addr) (la : Addr) (up : Addr) (qy : Int64) (o : Addr) (cn : Int32) (f0 : Addr) (l0 : Addr) (oro : Value) (ba : Addr) (h0 : Heap) (n0 : Nat) (v : Option Value) (h : Heap) (L : List Loc) : Prop := v = none ∧ Fr n0 L ∧ Keep h0 h [a, o, up] ∧ own_BB Z h a rk la up sd cn (qy - (1 : Int64)) ∧ own_OO Z h o q .null .null .null ∧ own_LL Z h up .null .null
set_option maxRecDepth 65536 in
set_option maxHeartbeats 40000000 in
theorem rm_remU (l : Launch) (Z : State) (a0 : Array Value) (hw : ∀ d ∈ tables_1, d.before a0 Z = true) (ws : List Jvm.Cond) (a : Addr) (q : Int64) (sd : Addr) (rk : Addr) (la : Addr) (up : Addr) (qy : Int64) (o : Addr) (cn : Int32) (f0 : Addr) (l0 : Addr) (oro : Value) (ba : Addr) (h0 : Heap) (n0 : Nat) (Z0 : n0 ≤ h0.size) (SB : Sta Z Z.heap "com/example/tidegate/tidegate/engine/Side" "BUY" "Lcom/example/tidegate/tidegate/engine/Side;" (.ref ba)) (OLD : Old Z n0 h0) (BBp : own_BB Z h0 a rk la up sd cn qy) (ORp : own_OO Z h0 o q .null .null oro) (ga : n0 ≤ a) (go : n0 ≤ o) (hq : q = (-9223372036854775808 : Int64)) (LLp : own_LL Z h0 up (.ref f0) (.ref l0)) (glv : n0 ≤ up) :
  MetFree l (⟨"com/example/tidegate/tidegate/engine/BookSide", "remove", "(Lcom/example/tidegate/tidegate/engine/Order;)V"⟩ : MethodName) (head1 (Jvm.Cond.code (⟨"com/example/tidegate/tidegate/engine/BookSide", "remove", "(Lcom/example/tidegate/tidegate/engine/Order;)V"⟩ : MethodName) prog_2_method_10_code 4 none :: ws) ({ frames := 6, cells := 0, slots := 0, locals := 139 } : Room)) (fun aa_ U => aa_ = #[(.ref a), (.ref o)] ∧ Z.Warmed39 U.vm ∧ U.heap = h0) (fun _ _ _ _ _ => True) (fun _ U o_ U' => RetG U (Q_remU Z a q sd rk la up qy o cn f0 l0 oro ba h0 n0) 0 0 U' o_) := by
 refine MetFree.of_bodySF (plainFor_of_name own_pn1) hisR ?_
 intro p e s m args below meth c_ s₁ Bd hml0 hP hK
 obtain ⟨rfl, hZ, hh⟩ := hP
 have hx := Bd.exec
 have hby := Bd.bytes
 have hml : c_.maxLocals = 4 := hml0
 have hown : s.vm.findClass "com/example/tidegate/tidegate/engine/BookSide" = some m.cls := findClass_of_methodNamed Bd.named
 have hnm := (name_of_methodNamed Bd.named Bd.method).1
 have X0 : Stand p l e ({ frames := 6, cells := 0, slots := 0, locals := 139 } : Room) s m #[(.ref a), (.ref o)] below meth c_ s₁ [] 0 0 := Stand.of_body Bd
 have e0 : s₁.heap = h0 := by rw [← hh, Bd.state]; rfl
 have N0 := Fr.nil n0
 have w9_ := hw _ (List.mem_of_getElem? (i := 9) rfl)
 have w19_ := hw _ (List.mem_of_getElem? (i := 19) rfl)
 have w23_ := hw _ (List.mem_of_getElem? (i := 23) rfl)
 have w24_ := hw _ (List.mem_of_getElem? (i := 24) rfl)
 have w33_ := hw _ (List.mem_of_getElem? (i := 33) rfl)
 have w34_ := hw _ (List.mem_of_getElem? (i := 34) rfl)
 have w36_ := hw _ (List.mem_of_getElem? (i := 36) rfl)
 have w38_ := hw _ (List.mem_of_getElem? (i := 38) rfl)
 have w39_ := hw _ (List.mem_of_getElem? (i := 39) rfl)
 have w55_ := hw _ (List.mem_of_getElem? (i := 55) rfl)
 have w57_ := hw _ (List.mem_of_getElem? (i := 57) rfl)
 have w59_ := hw _ (List.mem_of_getElem? (i := 59) rfl)
 have w65_ := hw _ (List.mem_of_getElem? (i := 65) rfl)
 have w66_ := hw _ (List.mem_of_getElem? (i := 66) rfl)
 have w68_ := hw _ (List.mem_of_getElem? (i := 68) rfl)
 have w77_ := hw _ (List.mem_of_getElem? (i := 77) rfl)
 have w78_ := hw _ (List.mem_of_getElem? (i := 78) rfl)
 have w79_ := hw _ (List.mem_of_getElem? (i := 79) rfl)
 have w80_ := hw _ (List.mem_of_getElem? (i := 80) rfl)
 have w81_ := hw _ (List.mem_of_getElem? (i := 81) rfl)
 have w82_ := hw _ (List.mem_of_getElem? (i := 82) rfl)
 have w83_ := hw _ (List.mem_of_getElem? (i := 83) rfl)
 have w93_ := hw _ (List.mem_of_getElem? (i := 93) rfl)
 have w94_ := hw _ (List.mem_of_getElem? (i := 94) rfl)
 have w95_ := hw _ (List.mem_of_getElem? (i := 95) rfl)
 have w96_ := hw _ (List.mem_of_getElem? (i := 96) rfl)
 have w97_ := hw _ (List.mem_of_getElem? (i := 97) rfl)
 have w98_ := hw _ (List.mem_of_getElem? (i := 98) rfl)
 have w136_ := hw _ (List.mem_of_getElem? (i := 136) rfl)
 have w137_ := hw _ (List.mem_of_getElem? (i := 137) rfl)
 have w138_ := hw _ (List.mem_of_getElem? (i := 138) rfl)
 have w139_ := hw _ (List.mem_of_getElem? (i := 139) rfl)
 have w140_ := hw _ (List.mem_of_getElem? (i := 140) rfl)
 have w141_ := hw _ (List.mem_of_getElem? (i := 141) rfl)
 have w142_ := hw _ (List.mem_of_getElem? (i := 142) rfl)
 have w143_ := hw _ (List.mem_of_getElem? (i := 143) rfl)
 obtain ⟨EB, FR, FL, FU, FS, FN, FQ⟩ := BBp
 obtain ⟨oE, o1, o2, o3, o4, o5, o6, o7⟩ := ORp
 obtain ⟨lE, lF, lL⟩ := LLp
 show Go p e below (RetG s (Q_remU Z a q sd rk la up qy o cn f0 l0 oro ba h0 n0) 0 0) (s₁.setTop (entryFrame m #[(.ref a), (.ref o)] 4))
 rw [show entryFrame m #[(.ref a), (.ref o)] 4 = mkF m 0 #[.val (.ref a), .val (.ref o), .unset, .unset] [] from by first | (simp [entryFrame, mkF, argsToLocals, Value.category]; done) | rfl]
 refine g_aloadN X0 hx hby d20_0 rfl rfl ?_
 refine g_dup X0 hx hby d20_1 rfl ?_
 refine g_getF X0 hx hby hZ hown (host := "") (Or.inl w77_) Via.refl e0 FQ d20_2 (fun T1 X1 e1 => ?_)
 refine g_aloadN X1 hx hby d20_5 rfl rfl ?_
 refine g_virtual X1 hx hby hZ hown (rm_grem l Z a0 hw [] o (1 : Int64) h0 n0 Z0 o3) w79_ w80_ (notFace_of_selects (args := #[]) (mvT hZ w82_)) w82_ w81_ w39_ w83_ (by decide) e1 oE (by rw [hml]; rfl) [] (lenOf own_pd7 rfl) rfl rfl (Nat.le_of_ble_eq_true rfl) (Nat.le_of_ble_eq_true rfl) (Nat.le_of_ble_eq_true rfl) (Nat.le_of_ble_eq_true rfl) d20_6 (fun v2 T2 L2 X2 hQ2 => ?_)
 obtain ⟨rfl, N2q, eh2⟩ := hQ2
 have N2 := Fr.app N0 N2q
 refine g_lsub X2 hx hby d20_9 ?_
 refine g_putF X2 hx hby hZ hown (host := "") (Or.inl w77_) Via.refl eh2 FQ EB (Or.inl w78_) w9_ .long (by decide) rfl rfl N2 ga d20_10 (fun T3 h3 X3 e3 W3 F3 N3 => ?_)
 refine g_aloadN X3 hx hby d20_13 rfl rfl ?_
 have ne5 : o ≠ a := (Exa.ne oE EB (by decide))
 have f6 := (o1.other W3 (Or.inl ne5))
 have z7 := (Nat.le_trans Z0 (Keep.of_wr W3).1)
 have f8 := (oE.wr W3)
 refine g_virtual X3 hx hby hZ hown (rm_hasp l Z a0 hw [] o q h3 n0 z7 f6) w94_ w95_ (notFace_of_selects (args := #[]) (mvT hZ w97_)) w97_ w96_ w39_ w98_ (by decide) e3 f8 (by rw [hml]; rfl) [] (lenOf own_pd9 rfl) rfl rfl (Nat.le_of_ble_eq_true rfl) (Nat.le_of_ble_eq_true rfl) (Nat.le_of_ble_eq_true rfl) (Nat.le_of_ble_eq_true rfl) d20_14 (fun v4 T4 L4 X4 hQ4 => ?_)
 obtain ⟨rfl, N4q, eh4⟩ := hQ4
 have N4 := Fr.app N3 N4q
 refine g_topI (T := T4) (0 : Int32) (if_pos hq) ?_
 refine g_ifY X4 hx hby 31 d20_17 (teq (by decide : (0 : Int32) = (0 : Int32))).1 (by decide) (by decide) ?_
 refine g_iconst X4 hx hby (-1 : Int32) d20_31 rfl ?_
 refine g_istoreN X4 hx hby d20_32 (l' := #[.val (.ref a), .val (.ref o), .val (.int (-1 : Int32)), .unset]) rfl ?_
 refine g_iloadN X4 hx hby d20_33 rfl ?_
 refine g_ifN X4 hx hby d20_34 (tlt (by decide : (-1 : Int32) < (0 : Int32))).2.1 ?_
 refine g_aloadN X4 hx hby d20_37 rfl rfl ?_
 have f9 := (FU.other W3 (Or.inr (slot_ne (Or.inr w34_) (Or.inl w78_) (by decide) (t := (.object "com/example/tidegate/tidegate/engine/BookSide$Level")) (t' := .long) (by decide) (by decide))))
 refine g_getF X4 hx hby hZ hown (host := "") (Or.inl w33_) Via.refl eh4 f9 d20_38 (fun T10 X10 e10 => ?_)
 refine g_goto X10 hx hby 50 d20_41 (by decide) (by decide) ?_
 refine g_astoreN X10 hx hby d20_50 rfl (l' := #[.val (.ref a), .val (.ref o), .val (.int (-1 : Int32)), .val (.ref up)]) rfl ?_
 refine g_aloadN X10 hx hby d20_51 rfl rfl ?_
 have f11 := (o5.other W3 (Or.inl ne5))
 refine g_getF X10 hx hby hZ hown (host := "") (Or.inl w140_) Via.refl e10 f11 d20_52 (fun T12 X12 e12 => ?_)
 refine g_ifnonnullN X12 hx hby d20_55 ?_
 refine g_aloadN X12 hx hby d20_58 rfl rfl ?_
 refine g_aloadN X12 hx hby d20_59 rfl rfl ?_
 have f13 := (o6.other W3 (Or.inl ne5))
 refine g_getF X12 hx hby hZ hown (host := "") (Or.inl w142_) Via.refl e12 f13 d20_60 (fun T14 X14 e14 => ?_)
 have f15 := (lE.wr W3)
 have ne16 : up ≠ a := (Exa.ne lE EB (by decide))
 have f17 := (lF.other W3 (Or.inl ne16))
 refine g_putFR X14 hx hby hZ hown w65_ e14 f17 f15 w66_ w24_ (.object "com/example/tidegate/tidegate/engine/Order") (by decide) rfl rfl N4 glv d20_63 (fun T18 h18 X18 e18 W18 F18 N18 => ?_)
 refine g_goto X18 hx hby 80 d20_66 (by decide) (by decide) ?_
 refine g_aloadN X18 hx hby d20_80 rfl rfl ?_
 have ne19 : o ≠ up := (Exa.ne oE lE (by decide))
 have f20 := (f13.other W18 (Or.inl ne19))
 refine g_getF X18 hx hby hZ hown (host := "") (Or.inl w142_) Via.refl e18 f20 d20_81 (fun T21 X21 e21 => ?_)
 refine g_ifnonnullN X21 hx hby d20_84 ?_
 refine g_aloadN X21 hx hby d20_87 rfl rfl ?_
 refine g_aloadN X21 hx hby d20_88 rfl rfl ?_
 have f22 := (f11.other W18 (Or.inl ne19))
 refine g_getF X21 hx hby hZ hown (host := "") (Or.inl w140_) Via.refl e21 f22 d20_89 (fun T23 X23 e23 => ?_)
 have f24 := (f15.wr W18)
 have f25 := ((lL.other W3 (Or.inl ne16)).other W18 (Or.inr (slot_ne (Or.inl w139_) (Or.inl w66_) (by decide) (t := (.object "com/example/tidegate/tidegate/engine/Order")) (t' := (.object "com/example/tidegate/tidegate/engine/Order")) (by decide) (by decide))))
 refine g_putFR X23 hx hby hZ hown w138_ e23 f25 f24 w139_ w24_ (.object "com/example/tidegate/tidegate/engine/Order") (by decide) rfl rfl N18 glv d20_92 (fun T26 h26 X26 e26 W26 F26 N26 => ?_)
 refine g_goto X26 hx hby 109 d20_95 (by decide) (by decide) ?_
 refine g_aloadN X26 hx hby d20_109 rfl rfl ?_
 refine g_aconst_null X26 hx hby d20_110 ?_
 have f27 := ((f8.wr W18).wr W26)
 have f28 := (((o7.other W3 (Or.inl ne5)).other W18 (Or.inl ne19)).other W26 (Or.inl ne19))
 refine g_putF X26 hx hby hZ hown (host := "") (Or.inl w136_) Via.refl e26 f28 f27 (Or.inl w137_) w38_ (.object "com/example/tidegate/tidegate/engine/BookSide") (by decide) rfl rfl N26 go d20_111 (fun T29 h29 X29 e29 W29 F29 N29 => ?_)
 refine g_aloadN X29 hx hby d20_114 rfl rfl ?_
 refine g_aconst_null X29 hx hby d20_115 ?_
 have f30 := (f27.wr W29)
 have f31 := ((f22.other W26 (Or.inl ne19)).other W29 (Or.inr (slot_ne (Or.inl w141_) (Or.inl w137_) (by decide) (t := (.object "com/example/tidegate/tidegate/engine/Order")) (t' := (.object "com/example/tidegate/tidegate/engine/BookSide")) (by decide) (by decide))))
 refine g_putF X29 hx hby hZ hown (host := "") (Or.inl w140_) Via.refl e29 f31 f30 (Or.inl w141_) w38_ (.object "com/example/tidegate/tidegate/engine/Order") (by decide) rfl rfl N29 go d20_116 (fun T32 h32 X32 e32 W32 F32 N32 => ?_)
 refine g_aloadN X32 hx hby d20_119 rfl rfl ?_
 refine g_aconst_null X32 hx hby d20_120 ?_
 have f33 := (f30.wr W32)
 have f34 := (((f20.other W26 (Or.inl ne19)).other W29 (Or.inr (slot_ne (Or.inl w143_) (Or.inl w137_) (by decide) (t := (.object "com/example/tidegate/tidegate/engine/Order")) (t' := (.object "com/example/tidegate/tidegate/engine/BookSide")) (by decide) (by decide)))).other W32 (Or.inr (slot_ne (Or.inl w143_) (Or.inl w141_) (by decide) (t := (.object "com/example/tidegate/tidegate/engine/Order")) (t' := (.object "com/example/tidegate/tidegate/engine/Order")) (by decide) (by decide))))
 refine g_putF X32 hx hby hZ hown (host := "") (Or.inl w142_) Via.refl e32 f34 f33 (Or.inl w143_) w38_ (.object "com/example/tidegate/tidegate/engine/Order") (by decide) rfl rfl N32 go d20_121 (fun T35 h35 X35 e35 W35 F35 N35 => ?_)
 refine g_aloadN X35 hx hby d20_124 rfl rfl ?_
 have f36 := ((((F18.other W26 (Or.inr (slot_ne (Or.inl w66_) (Or.inl w139_) (by decide) (t := (.object "com/example/tidegate/tidegate/engine/Order")) (t' := (.object "com/example/tidegate/tidegate/engine/Order")) (by decide) (by decide)))).other W29 (Or.inl (Ne.symm ne19))).other W32 (Or.inl (Ne.symm ne19))).other W35 (Or.inl (Ne.symm ne19)))
 refine g_getFR X35 hx hby hZ hown w65_ e35 f36 d20_125 (fun T37 X37 e37 => ?_)
 refine g_ifnonnullN X37 hx hby d20_128 ?_
 refine g_iloadN X37 hx hby d20_131 rfl ?_
 refine g_ifY X37 hx hby 197 d20_132 (tlt (by decide : (-1 : Int32) < (0 : Int32))).1 (by decide) (by decide) ?_
 have f38 := ((((((EB.wr W3).wr W18).wr W26).wr W29).wr W32).wr W35)
 have f39 := ((((((FR.other W3 (Or.inr (slot_ne (Or.inl w19_) (Or.inl w78_) (by decide) (t := (.array .long)) (t' := .long) (by decide) (by decide)))).other W18 (Or.inl (Ne.symm ne16))).other W26 (Or.inl (Ne.symm ne16))).other W29 (Or.inl (Ne.symm ne5))).other W32 (Or.inl (Ne.symm ne5))).other W35 (Or.inl (Ne.symm ne5)))
 have f40 := ((((((FL.other W3 (Or.inr (slot_ne (Or.inl w23_) (Or.inl w78_) (by decide) (t := (.array (.object "com/example/tidegate/tidegate/engine/BookSide$Level"))) (t' := .long) (by decide) (by decide)))).other W18 (Or.inl (Ne.symm ne16))).other W26 (Or.inl (Ne.symm ne16))).other W29 (Or.inl (Ne.symm ne5))).other W32 (Or.inl (Ne.symm ne5))).other W35 (Or.inl (Ne.symm ne5)))
 have f41 := (((((f9.other W18 (Or.inl (Ne.symm ne16))).other W26 (Or.inl (Ne.symm ne16))).other W29 (Or.inl (Ne.symm ne5))).other W32 (Or.inl (Ne.symm ne5))).other W35 (Or.inl (Ne.symm ne5)))
 have f42 := ((((((FS.other W3 (Or.inr (slot_ne (Or.inr w36_) (Or.inl w78_) (by decide) (t := (.object "com/example/tidegate/tidegate/engine/Side")) (t' := .long) (by decide) (by decide)))).other W18 (Or.inl (Ne.symm ne16))).other W26 (Or.inl (Ne.symm ne16))).other W29 (Or.inl (Ne.symm ne5))).other W32 (Or.inl (Ne.symm ne5))).other W35 (Or.inl (Ne.symm ne5)))
 have f43 := ((((((FN.other W3 (Or.inr (slot_ne (Or.inl w68_) (Or.inl w78_) (by decide) (t := .int) (t' := .long) (by decide) (by decide)))).other W18 (Or.inl (Ne.symm ne16))).other W26 (Or.inl (Ne.symm ne16))).other W29 (Or.inl (Ne.symm ne5))).other W32 (Or.inl (Ne.symm ne5))).other W35 (Or.inl (Ne.symm ne5)))
 have f44 := (((((F3.other W18 (Or.inl (Ne.symm ne16))).other W26 (Or.inl (Ne.symm ne16))).other W29 (Or.inl (Ne.symm ne5))).other W32 (Or.inl (Ne.symm ne5))).other W35 (Or.inl (Ne.symm ne5)))
 have f45 := (f33.wr W35)
 have f46 := (((((f6.other W18 (Or.inl ne19)).other W26 (Or.inl ne19)).other W29 (Or.inr (slot_ne (Or.inl w55_) (Or.inl w137_) (by decide) (t := .long) (t' := (.object "com/example/tidegate/tidegate/engine/BookSide")) (by decide) (by decide)))).other W32 (Or.inr (slot_ne (Or.inl w55_) (Or.inl w141_) (by decide) (t := .long) (t' := (.object "com/example/tidegate/tidegate/engine/Order")) (by decide) (by decide)))).other W35 (Or.inr (slot_ne (Or.inl w55_) (Or.inl w143_) (by decide) (t := .long) (t' := (.object "com/example/tidegate/tidegate/engine/Order")) (by decide) (by decide))))
 have f47 := ((((((o2.other W3 (Or.inl ne5)).other W18 (Or.inl ne19)).other W26 (Or.inl ne19)).other W29 (Or.inr (slot_ne (Or.inr w57_) (Or.inl w137_) (by decide) (t := .long) (t' := (.object "com/example/tidegate/tidegate/engine/BookSide")) (by decide) (by decide)))).other W32 (Or.inr (slot_ne (Or.inr w57_) (Or.inl w141_) (by decide) (t := .long) (t' := (.object "com/example/tidegate/tidegate/engine/Order")) (by decide) (by decide)))).other W35 (Or.inr (slot_ne (Or.inr w57_) (Or.inl w143_) (by decide) (t := .long) (t' := (.object "com/example/tidegate/tidegate/engine/Order")) (by decide) (by decide))))
 have f48 := ((((((o3.other W3 (Or.inl ne5)).other W18 (Or.inl ne19)).other W26 (Or.inl ne19)).other W29 (Or.inr (slot_ne (Or.inl w59_) (Or.inl w137_) (by decide) (t := .long) (t' := (.object "com/example/tidegate/tidegate/engine/BookSide")) (by decide) (by decide)))).other W32 (Or.inr (slot_ne (Or.inl w59_) (Or.inl w141_) (by decide) (t := .long) (t' := (.object "com/example/tidegate/tidegate/engine/Order")) (by decide) (by decide)))).other W35 (Or.inr (slot_ne (Or.inl w59_) (Or.inl w143_) (by decide) (t := .long) (t' := (.object "com/example/tidegate/tidegate/engine/Order")) (by decide) (by decide))))
 have f49 := ((((((o4.other W3 (Or.inl ne5)).other W18 (Or.inl ne19)).other W26 (Or.inl ne19)).other W29 (Or.inr (slot_ne (Or.inl w93_) (Or.inl w137_) (by decide) (t := .long) (t' := (.object "com/example/tidegate/tidegate/engine/BookSide")) (by decide) (by decide)))).other W32 (Or.inr (slot_ne (Or.inl w93_) (Or.inl w141_) (by decide) (t := .long) (t' := (.object "com/example/tidegate/tidegate/engine/Order")) (by decide) (by decide)))).other W35 (Or.inr (slot_ne (Or.inl w93_) (Or.inl w143_) (by decide) (t := .long) (t' := (.object "com/example/tidegate/tidegate/engine/Order")) (by decide) (by decide))))
 have f50 := (F32.other W35 (Or.inr (slot_ne (Or.inl w141_) (Or.inl w143_) (by decide) (t := (.object "com/example/tidegate/tidegate/engine/Order")) (t' := (.object "com/example/tidegate/tidegate/engine/Order")) (by decide) (by decide))))
 have f51 := ((F29.other W32 (Or.inr (slot_ne (Or.inl w137_) (Or.inl w141_) (by decide) (t := (.object "com/example/tidegate/tidegate/engine/BookSide")) (t' := (.object "com/example/tidegate/tidegate/engine/Order")) (by decide) (by decide)))).other W35 (Or.inr (slot_ne (Or.inl w137_) (Or.inl w143_) (by decide) (t := (.object "com/example/tidegate/tidegate/engine/BookSide")) (t' := (.object "com/example/tidegate/tidegate/engine/Order")) (by decide) (by decide))))
 have f52 := ((((f24.wr W26).wr W29).wr W32).wr W35)
 have f53 := (((F26.other W29 (Or.inl (Ne.symm ne19))).other W32 (Or.inl (Ne.symm ne19))).other W35 (Or.inl (Ne.symm ne19)))
 refine g_ret X37 hx hby Bd.returns Bd.notSynchronized d20_197 e37 (by decide) (by decide) ?_
 show (Q_remU Z a q sd rk la up qy o cn f0 l0 oro ba h0 n0) none _ _
 exact ⟨rfl, N35, (((((((Keep.refl h0 [a, o, up]).wr W3 (Or.inl (List.mem_of_getElem? (i := 0) rfl))).wr W18 (Or.inl (List.mem_of_getElem? (i := 2) rfl))).wr W26 (Or.inl (List.mem_of_getElem? (i := 2) rfl))).wr W29 (Or.inl (List.mem_of_getElem? (i := 1) rfl))).wr W32 (Or.inl (List.mem_of_getElem? (i := 1) rfl))).wr W35 (Or.inl (List.mem_of_getElem? (i := 1) rfl))), ⟨f38, f39, f40, f41, f42, f43, f44⟩, ⟨f45, f46, f47, f48, f49, f50, F35, f51⟩, ⟨f52, f36, f53⟩⟩

theorem d20_98 : decode prog_2_method_10_code 98 = .ok (.aload_n 1, 1) := by decide +kernel
theorem d20_99 : decode prog_2_method_10_code 99 = .ok (.getfield 56, 3) := by decide +kernel
theorem d20_102 : decode prog_2_method_10_code 102 = .ok (.aload_n 1, 1) := by decide +kernel
theorem d20_103 : decode prog_2_method_10_code 103 = .ok (.getfield 83, 3) := by decide +kernel
theorem d20_106 : decode prog_2_method_10_code 106 = .ok (.putfield 83, 3) := by decide +kernel
def Q_remUx (Z : State) (a : Addr) (q : Int64) (sd : Addr) (rk : Addr) (la : Addr) (up : Addr) (qy : Int64) (o : Addr) (cn : Int32) (x : Addr) (xq : Int64) (xnx : Value) (xro : Value) (f0 : Addr) (l0 : Addr) (oro : Value) (ba : Addr) (h0 : Heap) (n0 : Nat) (v : Option Value) (h : Heap) (L : List Loc) : Prop := v = none ∧ Fr n0 L ∧ Keep h0 h [a, o, up, x] ∧ own_BB Z h a rk la up sd cn (qy - (1 : Int64)) ∧ own_OO Z h o q .null .null .null ∧ own_LL Z h up (.ref x) (.ref l0) ∧ own_OO Z h x xq .null xnx xro
set_option maxRecDepth 65536 in
set_option maxHeartbeats 40000000 in
theorem rm_remUx (l : Launch) (Z : State) (a0 : Array Value) (hw : ∀ d ∈ tables_1, d.before a0 Z = true) (ws : List Jvm.Cond) (a : Addr) (q : Int64) (sd : Addr) (rk : Addr) (la : Addr) (up : Addr) (qy : Int64) (o : Addr) (cn : Int32) (x : Addr) (xq : Int64) (xnx : Value) (xro : Value) (f0 : Addr) (l0 : Addr) (oro : Value) (ba : Addr) (h0 : Heap) (n0 : Nat) (Z0 : n0 ≤ h0.size) (SB : Sta Z Z.heap "com/example/tidegate/tidegate/engine/Side" "BUY" "Lcom/example/tidegate/tidegate/engine/Side;" (.ref ba)) (OLD : Old Z n0 h0) (BBp : own_BB Z h0 a rk la up sd cn qy) (ORp : own_OO Z h0 o q .null (.ref x) oro) (ga : n0 ≤ a) (go : n0 ≤ o) (hq : q = (-9223372036854775808 : Int64)) (LLp : own_LL Z h0 up (.ref f0) (.ref l0)) (glv : n0 ≤ up) (XRp : own_OO Z h0 x xq (.ref o) xnx xro) (gx : n0 ≤ x) (nox : o ≠ x) :
  MetFree l (⟨"com/example/tidegate/tidegate/engine/BookSide", "remove", "(Lcom/example/tidegate/tidegate/engine/Order;)V"⟩ : MethodName) (head1 (Jvm.Cond.code (⟨"com/example/tidegate/tidegate/engine/BookSide", "remove", "(Lcom/example/tidegate/tidegate/engine/Order;)V"⟩ : MethodName) prog_2_method_10_code 4 none :: ws) ({ frames := 6, cells := 0, slots := 0, locals := 139 } : Room)) (fun aa_ U => aa_ = #[(.ref a), (.ref o)] ∧ Z.Warmed39 U.vm ∧ U.heap = h0) (fun _ _ _ _ _ => True) (fun _ U o_ U' => RetG U (Q_remUx Z a q sd rk la up qy o cn x xq xnx xro f0 l0 oro ba h0 n0) 0 0 U' o_) := by
 refine MetFree.of_bodySF (plainFor_of_name own_pn1) hisR ?_
 intro p e s m args below meth c_ s₁ Bd hml0 hP hK
 obtain ⟨rfl, hZ, hh⟩ := hP
 have hx := Bd.exec
 have hby := Bd.bytes
 have hml : c_.maxLocals = 4 := hml0
 have hown : s.vm.findClass "com/example/tidegate/tidegate/engine/BookSide" = some m.cls := findClass_of_methodNamed Bd.named
 have hnm := (name_of_methodNamed Bd.named Bd.method).1
 have X0 : Stand p l e ({ frames := 6, cells := 0, slots := 0, locals := 139 } : Room) s m #[(.ref a), (.ref o)] below meth c_ s₁ [] 0 0 := Stand.of_body Bd
 have e0 : s₁.heap = h0 := by rw [← hh, Bd.state]; rfl
 have N0 := Fr.nil n0
 have w9_ := hw _ (List.mem_of_getElem? (i := 9) rfl)
 have w19_ := hw _ (List.mem_of_getElem? (i := 19) rfl)
 have w23_ := hw _ (List.mem_of_getElem? (i := 23) rfl)
 have w24_ := hw _ (List.mem_of_getElem? (i := 24) rfl)
 have w33_ := hw _ (List.mem_of_getElem? (i := 33) rfl)
 have w34_ := hw _ (List.mem_of_getElem? (i := 34) rfl)
 have w36_ := hw _ (List.mem_of_getElem? (i := 36) rfl)
 have w38_ := hw _ (List.mem_of_getElem? (i := 38) rfl)
 have w39_ := hw _ (List.mem_of_getElem? (i := 39) rfl)
 have w55_ := hw _ (List.mem_of_getElem? (i := 55) rfl)
 have w57_ := hw _ (List.mem_of_getElem? (i := 57) rfl)
 have w59_ := hw _ (List.mem_of_getElem? (i := 59) rfl)
 have w65_ := hw _ (List.mem_of_getElem? (i := 65) rfl)
 have w66_ := hw _ (List.mem_of_getElem? (i := 66) rfl)
 have w68_ := hw _ (List.mem_of_getElem? (i := 68) rfl)
 have w77_ := hw _ (List.mem_of_getElem? (i := 77) rfl)
 have w78_ := hw _ (List.mem_of_getElem? (i := 78) rfl)
 have w79_ := hw _ (List.mem_of_getElem? (i := 79) rfl)
 have w80_ := hw _ (List.mem_of_getElem? (i := 80) rfl)
 have w81_ := hw _ (List.mem_of_getElem? (i := 81) rfl)
 have w82_ := hw _ (List.mem_of_getElem? (i := 82) rfl)
 have w83_ := hw _ (List.mem_of_getElem? (i := 83) rfl)
 have w93_ := hw _ (List.mem_of_getElem? (i := 93) rfl)
 have w94_ := hw _ (List.mem_of_getElem? (i := 94) rfl)
 have w95_ := hw _ (List.mem_of_getElem? (i := 95) rfl)
 have w96_ := hw _ (List.mem_of_getElem? (i := 96) rfl)
 have w97_ := hw _ (List.mem_of_getElem? (i := 97) rfl)
 have w98_ := hw _ (List.mem_of_getElem? (i := 98) rfl)
 have w136_ := hw _ (List.mem_of_getElem? (i := 136) rfl)
 have w137_ := hw _ (List.mem_of_getElem? (i := 137) rfl)
 have w139_ := hw _ (List.mem_of_getElem? (i := 139) rfl)
 have w140_ := hw _ (List.mem_of_getElem? (i := 140) rfl)
 have w141_ := hw _ (List.mem_of_getElem? (i := 141) rfl)
 have w142_ := hw _ (List.mem_of_getElem? (i := 142) rfl)
 have w143_ := hw _ (List.mem_of_getElem? (i := 143) rfl)
 obtain ⟨EB, FR, FL, FU, FS, FN, FQ⟩ := BBp
 obtain ⟨oE, o1, o2, o3, o4, o5, o6, o7⟩ := ORp
 obtain ⟨lE, lF, lL⟩ := LLp
 obtain ⟨xE, xw1, xw2, xw3, xw4, xw5, xw6, xw7⟩ := XRp
 show Go p e below (RetG s (Q_remUx Z a q sd rk la up qy o cn x xq xnx xro f0 l0 oro ba h0 n0) 0 0) (s₁.setTop (entryFrame m #[(.ref a), (.ref o)] 4))
 rw [show entryFrame m #[(.ref a), (.ref o)] 4 = mkF m 0 #[.val (.ref a), .val (.ref o), .unset, .unset] [] from by first | (simp [entryFrame, mkF, argsToLocals, Value.category]; done) | rfl]
 refine g_aloadN X0 hx hby d20_0 rfl rfl ?_
 refine g_dup X0 hx hby d20_1 rfl ?_
 refine g_getF X0 hx hby hZ hown (host := "") (Or.inl w77_) Via.refl e0 FQ d20_2 (fun T1 X1 e1 => ?_)
 refine g_aloadN X1 hx hby d20_5 rfl rfl ?_
 refine g_virtual X1 hx hby hZ hown (rm_grem l Z a0 hw [] o (1 : Int64) h0 n0 Z0 o3) w79_ w80_ (notFace_of_selects (args := #[]) (mvT hZ w82_)) w82_ w81_ w39_ w83_ (by decide) e1 oE (by rw [hml]; rfl) [] (lenOf own_pd7 rfl) rfl rfl (Nat.le_of_ble_eq_true rfl) (Nat.le_of_ble_eq_true rfl) (Nat.le_of_ble_eq_true rfl) (Nat.le_of_ble_eq_true rfl) d20_6 (fun v2 T2 L2 X2 hQ2 => ?_)
 obtain ⟨rfl, N2q, eh2⟩ := hQ2
 have N2 := Fr.app N0 N2q
 refine g_lsub X2 hx hby d20_9 ?_
 refine g_putF X2 hx hby hZ hown (host := "") (Or.inl w77_) Via.refl eh2 FQ EB (Or.inl w78_) w9_ .long (by decide) rfl rfl N2 ga d20_10 (fun T3 h3 X3 e3 W3 F3 N3 => ?_)
 refine g_aloadN X3 hx hby d20_13 rfl rfl ?_
 have ne5 : o ≠ a := (Exa.ne oE EB (by decide))
 have f6 := (o1.other W3 (Or.inl ne5))
 have z7 := (Nat.le_trans Z0 (Keep.of_wr W3).1)
 have f8 := (oE.wr W3)
 refine g_virtual X3 hx hby hZ hown (rm_hasp l Z a0 hw [] o q h3 n0 z7 f6) w94_ w95_ (notFace_of_selects (args := #[]) (mvT hZ w97_)) w97_ w96_ w39_ w98_ (by decide) e3 f8 (by rw [hml]; rfl) [] (lenOf own_pd9 rfl) rfl rfl (Nat.le_of_ble_eq_true rfl) (Nat.le_of_ble_eq_true rfl) (Nat.le_of_ble_eq_true rfl) (Nat.le_of_ble_eq_true rfl) d20_14 (fun v4 T4 L4 X4 hQ4 => ?_)
 obtain ⟨rfl, N4q, eh4⟩ := hQ4
 have N4 := Fr.app N3 N4q
 refine g_topI (T := T4) (0 : Int32) (if_pos hq) ?_
 refine g_ifY X4 hx hby 31 d20_17 (teq (by decide : (0 : Int32) = (0 : Int32))).1 (by decide) (by decide) ?_
 refine g_iconst X4 hx hby (-1 : Int32) d20_31 rfl ?_
 refine g_istoreN X4 hx hby d20_32 (l' := #[.val (.ref a), .val (.ref o), .val (.int (-1 : Int32)), .unset]) rfl ?_
 refine g_iloadN X4 hx hby d20_33 rfl ?_
 refine g_ifN X4 hx hby d20_34 (tlt (by decide : (-1 : Int32) < (0 : Int32))).2.1 ?_
 refine g_aloadN X4 hx hby d20_37 rfl rfl ?_
 have f9 := (FU.other W3 (Or.inr (slot_ne (Or.inr w34_) (Or.inl w78_) (by decide) (t := (.object "com/example/tidegate/tidegate/engine/BookSide$Level")) (t' := .long) (by decide) (by decide))))
 refine g_getF X4 hx hby hZ hown (host := "") (Or.inl w33_) Via.refl eh4 f9 d20_38 (fun T10 X10 e10 => ?_)
 refine g_goto X10 hx hby 50 d20_41 (by decide) (by decide) ?_
 refine g_astoreN X10 hx hby d20_50 rfl (l' := #[.val (.ref a), .val (.ref o), .val (.int (-1 : Int32)), .val (.ref up)]) rfl ?_
 refine g_aloadN X10 hx hby d20_51 rfl rfl ?_
 have f11 := (o5.other W3 (Or.inl ne5))
 refine g_getF X10 hx hby hZ hown (host := "") (Or.inl w140_) Via.refl e10 f11 d20_52 (fun T12 X12 e12 => ?_)
 refine g_ifnonnullN X12 hx hby d20_55 ?_
 refine g_aloadN X12 hx hby d20_58 rfl rfl ?_
 refine g_aloadN X12 hx hby d20_59 rfl rfl ?_
 have f13 := (o6.other W3 (Or.inl ne5))
 refine g_getF X12 hx hby hZ hown (host := "") (Or.inl w142_) Via.refl e12 f13 d20_60 (fun T14 X14 e14 => ?_)
 have f15 := (lE.wr W3)
 have ne16 : up ≠ a := (Exa.ne lE EB (by decide))
 have f17 := (lF.other W3 (Or.inl ne16))
 refine g_putFR X14 hx hby hZ hown w65_ e14 f17 f15 w66_ w24_ (.object "com/example/tidegate/tidegate/engine/Order") (by decide) rfl rfl N4 glv d20_63 (fun T18 h18 X18 e18 W18 F18 N18 => ?_)
 refine g_goto X18 hx hby 80 d20_66 (by decide) (by decide) ?_
 refine g_aloadN X18 hx hby d20_80 rfl rfl ?_
 have ne19 : o ≠ up := (Exa.ne oE lE (by decide))
 have f20 := (f13.other W18 (Or.inl ne19))
 refine g_getF X18 hx hby hZ hown (host := "") (Or.inl w142_) Via.refl e18 f20 d20_81 (fun T21 X21 e21 => ?_)
 refine g_ifnonnullY X21 hx hby 98 d20_84 (by decide) (by decide) ?_
 refine g_aloadN X21 hx hby d20_98 rfl rfl ?_
 refine g_getF X21 hx hby hZ hown (host := "") (Or.inl w142_) Via.refl e21 f20 d20_99 (fun T22 X22 e22 => ?_)
 refine g_aloadN X22 hx hby d20_102 rfl rfl ?_
 have f23 := (f11.other W18 (Or.inl ne19))
 refine g_getF X22 hx hby hZ hown (host := "") (Or.inl w140_) Via.refl e22 f23 d20_103 (fun T24 X24 e24 => ?_)
 have f25 := ((xE.wr W3).wr W18)
 have ne26 : x ≠ a := (Exa.ne xE EB (by decide))
 have ne27 : x ≠ up := (Exa.ne xE lE (by decide))
 have f28 := ((xw5.other W3 (Or.inl ne26)).other W18 (Or.inl ne27))
 refine g_putF X24 hx hby hZ hown (host := "") (Or.inl w140_) Via.refl e24 f28 f25 (Or.inl w141_) w38_ (.object "com/example/tidegate/tidegate/engine/Order") (by decide) rfl rfl N18 gx d20_106 (fun T29 h29 X29 e29 W29 F29 N29 => ?_)
 refine g_aloadN X29 hx hby d20_109 rfl rfl ?_
 refine g_aconst_null X29 hx hby d20_110 ?_
 have f30 := ((f8.wr W18).wr W29)
 have f31 := (((o7.other W3 (Or.inl ne5)).other W18 (Or.inl ne19)).other W29 (Or.inl nox))
 refine g_putF X29 hx hby hZ hown (host := "") (Or.inl w136_) Via.refl e29 f31 f30 (Or.inl w137_) w38_ (.object "com/example/tidegate/tidegate/engine/BookSide") (by decide) rfl rfl N29 go d20_111 (fun T32 h32 X32 e32 W32 F32 N32 => ?_)
 refine g_aloadN X32 hx hby d20_114 rfl rfl ?_
 refine g_aconst_null X32 hx hby d20_115 ?_
 have f33 := (f30.wr W32)
 have f34 := ((f23.other W29 (Or.inl nox)).other W32 (Or.inr (slot_ne (Or.inl w141_) (Or.inl w137_) (by decide) (t := (.object "com/example/tidegate/tidegate/engine/Order")) (t' := (.object "com/example/tidegate/tidegate/engine/BookSide")) (by decide) (by decide))))
 refine g_putF X32 hx hby hZ hown (host := "") (Or.inl w140_) Via.refl e32 f34 f33 (Or.inl w141_) w38_ (.object "com/example/tidegate/tidegate/engine/Order") (by decide) rfl rfl N32 go d20_116 (fun T35 h35 X35 e35 W35 F35 N35 => ?_)
 refine g_aloadN X35 hx hby d20_119 rfl rfl ?_
 refine g_aconst_null X35 hx hby d20_120 ?_
 have f36 := (f33.wr W35)
 have f37 := (((f20.other W29 (Or.inl nox)).other W32 (Or.inr (slot_ne (Or.inl w143_) (Or.inl w137_) (by decide) (t := (.object "com/example/tidegate/tidegate/engine/Order")) (t' := (.object "com/example/tidegate/tidegate/engine/BookSide")) (by decide) (by decide)))).other W35 (Or.inr (slot_ne (Or.inl w143_) (Or.inl w141_) (by decide) (t := (.object "com/example/tidegate/tidegate/engine/Order")) (t' := (.object "com/example/tidegate/tidegate/engine/Order")) (by decide) (by decide))))
 refine g_putF X35 hx hby hZ hown (host := "") (Or.inl w142_) Via.refl e35 f37 f36 (Or.inl w143_) w38_ (.object "com/example/tidegate/tidegate/engine/Order") (by decide) rfl rfl N35 go d20_121 (fun T38 h38 X38 e38 W38 F38 N38 => ?_)
 refine g_aloadN X38 hx hby d20_124 rfl rfl ?_
 have f39 := ((((F18.other W29 (Or.inl (Ne.symm ne27))).other W32 (Or.inl (Ne.symm ne19))).other W35 (Or.inl (Ne.symm ne19))).other W38 (Or.inl (Ne.symm ne19)))
 refine g_getFR X38 hx hby hZ hown w65_ e38 f39 d20_125 (fun T40 X40 e40 => ?_)
 refine g_ifnonnullY X40 hx hby 197 d20_128 (by decide) (by decide) ?_
 have f41 := ((((((EB.wr W3).wr W18).wr W29).wr W32).wr W35).wr W38)
 have f42 := ((((((FR.other W3 (Or.inr (slot_ne (Or.inl w19_) (Or.inl w78_) (by decide) (t := (.array .long)) (t' := .long) (by decide) (by decide)))).other W18 (Or.inl (Ne.symm ne16))).other W29 (Or.inl (Ne.symm ne26))).other W32 (Or.inl (Ne.symm ne5))).other W35 (Or.inl (Ne.symm ne5))).other W38 (Or.inl (Ne.symm ne5)))
 have f43 := ((((((FL.other W3 (Or.inr (slot_ne (Or.inl w23_) (Or.inl w78_) (by decide) (t := (.array (.object "com/example/tidegate/tidegate/engine/BookSide$Level"))) (t' := .long) (by decide) (by decide)))).other W18 (Or.inl (Ne.symm ne16))).other W29 (Or.inl (Ne.symm ne26))).other W32 (Or.inl (Ne.symm ne5))).other W35 (Or.inl (Ne.symm ne5))).other W38 (Or.inl (Ne.symm ne5)))
 have f44 := (((((f9.other W18 (Or.inl (Ne.symm ne16))).other W29 (Or.inl (Ne.symm ne26))).other W32 (Or.inl (Ne.symm ne5))).other W35 (Or.inl (Ne.symm ne5))).other W38 (Or.inl (Ne.symm ne5)))
 have f45 := ((((((FS.other W3 (Or.inr (slot_ne (Or.inr w36_) (Or.inl w78_) (by decide) (t := (.object "com/example/tidegate/tidegate/engine/Side")) (t' := .long) (by decide) (by decide)))).other W18 (Or.inl (Ne.symm ne16))).other W29 (Or.inl (Ne.symm ne26))).other W32 (Or.inl (Ne.symm ne5))).other W35 (Or.inl (Ne.symm ne5))).other W38 (Or.inl (Ne.symm ne5)))
 have f46 := ((((((FN.other W3 (Or.inr (slot_ne (Or.inl w68_) (Or.inl w78_) (by decide) (t := .int) (t' := .long) (by decide) (by decide)))).other W18 (Or.inl (Ne.symm ne16))).other W29 (Or.inl (Ne.symm ne26))).other W32 (Or.inl (Ne.symm ne5))).other W35 (Or.inl (Ne.symm ne5))).other W38 (Or.inl (Ne.symm ne5)))
 have f47 := (((((F3.other W18 (Or.inl (Ne.symm ne16))).other W29 (Or.inl (Ne.symm ne26))).other W32 (Or.inl (Ne.symm ne5))).other W35 (Or.inl (Ne.symm ne5))).other W38 (Or.inl (Ne.symm ne5)))
 have f48 := (f36.wr W38)
 have f49 := (((((f6.other W18 (Or.inl ne19)).other W29 (Or.inl nox)).other W32 (Or.inr (slot_ne (Or.inl w55_) (Or.inl w137_) (by decide) (t := .long) (t' := (.object "com/example/tidegate/tidegate/engine/BookSide")) (by decide) (by decide)))).other W35 (Or.inr (slot_ne (Or.inl w55_) (Or.inl w141_) (by decide) (t := .long) (t' := (.object "com/example/tidegate/tidegate/engine/Order")) (by decide) (by decide)))).other W38 (Or.inr (slot_ne (Or.inl w55_) (Or.inl w143_) (by decide) (t := .long) (t' := (.object "com/example/tidegate/tidegate/engine/Order")) (by decide) (by decide))))
 have f50 := ((((((o2.other W3 (Or.inl ne5)).other W18 (Or.inl ne19)).other W29 (Or.inl nox)).other W32 (Or.inr (slot_ne (Or.inr w57_) (Or.inl w137_) (by decide) (t := .long) (t' := (.object "com/example/tidegate/tidegate/engine/BookSide")) (by decide) (by decide)))).other W35 (Or.inr (slot_ne (Or.inr w57_) (Or.inl w141_) (by decide) (t := .long) (t' := (.object "com/example/tidegate/tidegate/engine/Order")) (by decide) (by decide)))).other W38 (Or.inr (slot_ne (Or.inr w57_) (Or.inl w143_) (by decide) (t := .long) (t' := (.object "com/example/tidegate/tidegate/engine/Order")) (by decide) (by decide))))
 have f51 := ((((((o3.other W3 (Or.inl ne5)).other W18 (Or.inl ne19)).other W29 (Or.inl nox)).other W32 (Or.inr (slot_ne (Or.inl w59_) (Or.inl w137_) (by decide) (t := .long) (t' := (.object "com/example/tidegate/tidegate/engine/BookSide")) (by decide) (by decide)))).other W35 (Or.inr (slot_ne (Or.inl w59_) (Or.inl w141_) (by decide) (t := .long) (t' := (.object "com/example/tidegate/tidegate/engine/Order")) (by decide) (by decide)))).other W38 (Or.inr (slot_ne (Or.inl w59_) (Or.inl w143_) (by decide) (t := .long) (t' := (.object "com/example/tidegate/tidegate/engine/Order")) (by decide) (by decide))))
 have f52 := ((((((o4.other W3 (Or.inl ne5)).other W18 (Or.inl ne19)).other W29 (Or.inl nox)).other W32 (Or.inr (slot_ne (Or.inl w93_) (Or.inl w137_) (by decide) (t := .long) (t' := (.object "com/example/tidegate/tidegate/engine/BookSide")) (by decide) (by decide)))).other W35 (Or.inr (slot_ne (Or.inl w93_) (Or.inl w141_) (by decide) (t := .long) (t' := (.object "com/example/tidegate/tidegate/engine/Order")) (by decide) (by decide)))).other W38 (Or.inr (slot_ne (Or.inl w93_) (Or.inl w143_) (by decide) (t := .long) (t' := (.object "com/example/tidegate/tidegate/engine/Order")) (by decide) (by decide))))
 have f53 := (F35.other W38 (Or.inr (slot_ne (Or.inl w141_) (Or.inl w143_) (by decide) (t := (.object "com/example/tidegate/tidegate/engine/Order")) (t' := (.object "com/example/tidegate/tidegate/engine/Order")) (by decide) (by decide))))
 have f54 := ((F32.other W35 (Or.inr (slot_ne (Or.inl w137_) (Or.inl w141_) (by decide) (t := (.object "com/example/tidegate/tidegate/engine/BookSide")) (t' := (.object "com/example/tidegate/tidegate/engine/Order")) (by decide) (by decide)))).other W38 (Or.inr (slot_ne (Or.inl w137_) (Or.inl w143_) (by decide) (t := (.object "com/example/tidegate/tidegate/engine/BookSide")) (t' := (.object "com/example/tidegate/tidegate/engine/Order")) (by decide) (by decide))))
 have f55 := (((((f15.wr W18).wr W29).wr W32).wr W35).wr W38)
 have f56 := ((((((lL.other W3 (Or.inl ne16)).other W18 (Or.inr (slot_ne (Or.inl w139_) (Or.inl w66_) (by decide) (t := (.object "com/example/tidegate/tidegate/engine/Order")) (t' := (.object "com/example/tidegate/tidegate/engine/Order")) (by decide) (by decide)))).other W29 (Or.inl (Ne.symm ne27))).other W32 (Or.inl (Ne.symm ne19))).other W35 (Or.inl (Ne.symm ne19))).other W38 (Or.inl (Ne.symm ne19)))
 have f57 := ((((f25.wr W29).wr W32).wr W35).wr W38)
 have f58 := ((((((xw1.other W3 (Or.inl ne26)).other W18 (Or.inl ne27)).other W29 (Or.inr (slot_ne (Or.inl w55_) (Or.inl w141_) (by decide) (t := .long) (t' := (.object "com/example/tidegate/tidegate/engine/Order")) (by decide) (by decide)))).other W32 (Or.inl (Ne.symm nox))).other W35 (Or.inl (Ne.symm nox))).other W38 (Or.inl (Ne.symm nox)))
 have f59 := ((((((xw2.other W3 (Or.inl ne26)).other W18 (Or.inl ne27)).other W29 (Or.inr (slot_ne (Or.inr w57_) (Or.inl w141_) (by decide) (t := .long) (t' := (.object "com/example/tidegate/tidegate/engine/Order")) (by decide) (by decide)))).other W32 (Or.inl (Ne.symm nox))).other W35 (Or.inl (Ne.symm nox))).other W38 (Or.inl (Ne.symm nox)))
 have f60 := ((((((xw3.other W3 (Or.inl ne26)).other W18 (Or.inl ne27)).other W29 (Or.inr (slot_ne (Or.inl w59_) (Or.inl w141_) (by decide) (t := .long) (t' := (.object "com/example/tidegate/tidegate/engine/Order")) (by decide) (by decide)))).other W32 (Or.inl (Ne.symm nox))).other W35 (Or.inl (Ne.symm nox))).other W38 (Or.inl (Ne.symm nox)))
 have f61 := ((((((xw4.other W3 (Or.inl ne26)).other W18 (Or.inl ne27)).other W29 (Or.inr (slot_ne (Or.inl w93_) (Or.inl w141_) (by decide) (t := .long) (t' := (.object "com/example/tidegate/tidegate/engine/Order")) (by decide) (by decide)))).other W32 (Or.inl (Ne.symm nox))).other W35 (Or.inl (Ne.symm nox))).other W38 (Or.inl (Ne.symm nox)))
 have f62 := (((F29.other W32 (Or.inl (Ne.symm nox))).other W35 (Or.inl (Ne.symm nox))).other W38 (Or.inl (Ne.symm nox)))
 have f63 := ((((((xw6.other W3 (Or.inl ne26)).other W18 (Or.inl ne27)).other W29 (Or.inr (slot_ne (Or.inl w143_) (Or.inl w141_) (by decide) (t := (.object "com/example/tidegate/tidegate/engine/Order")) (t' := (.object "com/example/tidegate/tidegate/engine/Order")) (by decide) (by decide)))).other W32 (Or.inl (Ne.symm nox))).other W35 (Or.inl (Ne.symm nox))).other W38 (Or.inl (Ne.symm nox)))
 have f64 := ((((((xw7.other W3 (Or.inl ne26)).other W18 (Or.inl ne27)).other W29 (Or.inr (slot_ne (Or.inl w137_) (Or.inl w141_) (by decide) (t := (.object "com/example/tidegate/tidegate/engine/BookSide")) (t' := (.object "com/example/tidegate/tidegate/engine/Order")) (by decide) (by decide)))).other W32 (Or.inl (Ne.symm nox))).other W35 (Or.inl (Ne.symm nox))).other W38 (Or.inl (Ne.symm nox)))
 refine g_ret X40 hx hby Bd.returns Bd.notSynchronized d20_197 e40 (by decide) (by decide) ?_
 show (Q_remUx Z a q sd rk la up qy o cn x xq xnx xro f0 l0 oro ba h0 n0) none _ _
 exact ⟨rfl, N38, (((((((Keep.refl h0 [a, o, up, x]).wr W3 (Or.inl (List.mem_of_getElem? (i := 0) rfl))).wr W18 (Or.inl (List.mem_of_getElem? (i := 2) rfl))).wr W29 (Or.inl (List.mem_of_getElem? (i := 3) rfl))).wr W32 (Or.inl (List.mem_of_getElem? (i := 1) rfl))).wr W35 (Or.inl (List.mem_of_getElem? (i := 1) rfl))).wr W38 (Or.inl (List.mem_of_getElem? (i := 1) rfl))), ⟨f41, f42, f43, f44, f45, f46, f47⟩, ⟨f48, f49, f50, f51, f52, f53, F38, f54⟩, ⟨f55, f39, f56⟩, ⟨f57, f58, f59, f60, f61, f62, f63, f64⟩⟩

theorem d20_69 : decode prog_2_method_10_code 69 = .ok (.aload_n 1, 1) := by decide +kernel
theorem d20_70 : decode prog_2_method_10_code 70 = .ok (.getfield 83, 3) := by decide +kernel
theorem d20_73 : decode prog_2_method_10_code 73 = .ok (.aload_n 1, 1) := by decide +kernel
theorem d20_74 : decode prog_2_method_10_code 74 = .ok (.getfield 56, 3) := by decide +kernel
theorem d20_77 : decode prog_2_method_10_code 77 = .ok (.putfield 56, 3) := by decide +kernel
def Q_remUy (Z : State) (a : Addr) (q : Int64) (sd : Addr) (rk : Addr) (la : Addr) (up : Addr) (qy : Int64) (o : Addr) (cn : Int32) (y : Addr) (yq : Int64) (ypv : Value) (yro : Value) (f0 : Addr) (l0 : Addr) (oro : Value) (ba : Addr) (h0 : Heap) (n0 : Nat) (v : Option Value) (h : Heap) (L : List Loc) : Prop := v = none ∧ Fr n0 L ∧ Keep h0 h [a, o, up, y] ∧ own_BB Z h a rk la up sd cn (qy - (1 : Int64)) ∧ own_OO Z h o q .null .null .null ∧ own_LL Z h up (.ref f0) (.ref y) ∧ own_OO Z h y yq ypv .null yro
set_option maxRecDepth 65536 in
set_option maxHeartbeats 40000000 in
theorem rm_remUy (l : Launch) (Z : State) (a0 : Array Value) (hw : ∀ d ∈ tables_1, d.before a0 Z = true) (ws : List Jvm.Cond) (a : Addr) (q : Int64) (sd : Addr) (rk : Addr) (la : Addr) (up : Addr) (qy : Int64) (o : Addr) (cn : Int32) (y : Addr) (yq : Int64) (ypv : Value) (yro : Value) (f0 : Addr) (l0 : Addr) (oro : Value) (ba : Addr) (h0 : Heap) (n0 : Nat) (Z0 : n0 ≤ h0.size) (SB : Sta Z Z.heap "com/example/tidegate/tidegate/engine/Side" "BUY" "Lcom/example/tidegate/tidegate/engine/Side;" (.ref ba)) (OLD : Old Z n0 h0) (BBp : own_BB Z h0 a rk la up sd cn qy) (ORp : own_OO Z h0 o q (.ref y) .null oro) (ga : n0 ≤ a) (go : n0 ≤ o) (hq : q = (-9223372036854775808 : Int64)) (LLp : own_LL Z h0 up (.ref f0) (.ref l0)) (glv : n0 ≤ up) (YRp : own_OO Z h0 y yq ypv (.ref o) yro) (gy : n0 ≤ y) (noy : o ≠ y) :
  MetFree l (⟨"com/example/tidegate/tidegate/engine/BookSide", "remove", "(Lcom/example/tidegate/tidegate/engine/Order;)V"⟩ : MethodName) (head1 (Jvm.Cond.code (⟨"com/example/tidegate/tidegate/engine/BookSide", "remove", "(Lcom/example/tidegate/tidegate/engine/Order;)V"⟩ : MethodName) prog_2_method_10_code 4 none :: ws) ({ frames := 6, cells := 0, slots := 0, locals := 139 } : Room)) (fun aa_ U => aa_ = #[(.ref a), (.ref o)] ∧ Z.Warmed39 U.vm ∧ U.heap = h0) (fun _ _ _ _ _ => True) (fun _ U o_ U' => RetG U (Q_remUy Z a q sd rk la up qy o cn y yq ypv yro f0 l0 oro ba h0 n0) 0 0 U' o_) := by
 refine MetFree.of_bodySF (plainFor_of_name own_pn1) hisR ?_
 intro p e s m args below meth c_ s₁ Bd hml0 hP hK
 obtain ⟨rfl, hZ, hh⟩ := hP
 have hx := Bd.exec
 have hby := Bd.bytes
 have hml : c_.maxLocals = 4 := hml0
 have hown : s.vm.findClass "com/example/tidegate/tidegate/engine/BookSide" = some m.cls := findClass_of_methodNamed Bd.named
 have hnm := (name_of_methodNamed Bd.named Bd.method).1
 have X0 : Stand p l e ({ frames := 6, cells := 0, slots := 0, locals := 139 } : Room) s m #[(.ref a), (.ref o)] below meth c_ s₁ [] 0 0 := Stand.of_body Bd
 have e0 : s₁.heap = h0 := by rw [← hh, Bd.state]; rfl
 have N0 := Fr.nil n0
 have w9_ := hw _ (List.mem_of_getElem? (i := 9) rfl)
 have w19_ := hw _ (List.mem_of_getElem? (i := 19) rfl)
 have w23_ := hw _ (List.mem_of_getElem? (i := 23) rfl)
 have w24_ := hw _ (List.mem_of_getElem? (i := 24) rfl)
 have w33_ := hw _ (List.mem_of_getElem? (i := 33) rfl)
 have w34_ := hw _ (List.mem_of_getElem? (i := 34) rfl)
 have w36_ := hw _ (List.mem_of_getElem? (i := 36) rfl)
 have w38_ := hw _ (List.mem_of_getElem? (i := 38) rfl)
 have w39_ := hw _ (List.mem_of_getElem? (i := 39) rfl)
 have w55_ := hw _ (List.mem_of_getElem? (i := 55) rfl)
 have w57_ := hw _ (List.mem_of_getElem? (i := 57) rfl)
 have w59_ := hw _ (List.mem_of_getElem? (i := 59) rfl)
 have w65_ := hw _ (List.mem_of_getElem? (i := 65) rfl)
 have w66_ := hw _ (List.mem_of_getElem? (i := 66) rfl)
 have w68_ := hw _ (List.mem_of_getElem? (i := 68) rfl)
 have w77_ := hw _ (List.mem_of_getElem? (i := 77) rfl)
 have w78_ := hw _ (List.mem_of_getElem? (i := 78) rfl)
 have w79_ := hw _ (List.mem_of_getElem? (i := 79) rfl)
 have w80_ := hw _ (List.mem_of_getElem? (i := 80) rfl)
 have w81_ := hw _ (List.mem_of_getElem? (i := 81) rfl)
 have w82_ := hw _ (List.mem_of_getElem? (i := 82) rfl)
 have w83_ := hw _ (List.mem_of_getElem? (i := 83) rfl)
 have w93_ := hw _ (List.mem_of_getElem? (i := 93) rfl)
 have w94_ := hw _ (List.mem_of_getElem? (i := 94) rfl)
 have w95_ := hw _ (List.mem_of_getElem? (i := 95) rfl)
 have w96_ := hw _ (List.mem_of_getElem? (i := 96) rfl)
 have w97_ := hw _ (List.mem_of_getElem? (i := 97) rfl)
 have w98_ := hw _ (List.mem_of_getElem? (i := 98) rfl)
 have w136_ := hw _ (List.mem_of_getElem? (i := 136) rfl)
 have w137_ := hw _ (List.mem_of_getElem? (i := 137) rfl)
 have w138_ := hw _ (List.mem_of_getElem? (i := 138) rfl)
 have w139_ := hw _ (List.mem_of_getElem? (i := 139) rfl)
 have w140_ := hw _ (List.mem_of_getElem? (i := 140) rfl)
 have w141_ := hw _ (List.mem_of_getElem? (i := 141) rfl)
 have w142_ := hw _ (List.mem_of_getElem? (i := 142) rfl)
 have w143_ := hw _ (List.mem_of_getElem? (i := 143) rfl)
 obtain ⟨EB, FR, FL, FU, FS, FN, FQ⟩ := BBp
 obtain ⟨oE, o1, o2, o3, o4, o5, o6, o7⟩ := ORp
 obtain ⟨lE, lF, lL⟩ := LLp
 obtain ⟨yE, y1, y2, y3, y4, y5, y6, y7⟩ := YRp
 show Go p e below (RetG s (Q_remUy Z a q sd rk la up qy o cn y yq ypv yro f0 l0 oro ba h0 n0) 0 0) (s₁.setTop (entryFrame m #[(.ref a), (.ref o)] 4))
 rw [show entryFrame m #[(.ref a), (.ref o)] 4 = mkF m 0 #[.val (.ref a), .val (.ref o), .unset, .unset] [] from by first | (simp [entryFrame, mkF, argsToLocals, Value.category]; done) | rfl]
 refine g_aloadN X0 hx hby d20_0 rfl rfl ?_
 refine g_dup X0 hx hby d20_1 rfl ?_
 refine g_getF X0 hx hby hZ hown (host := "") (Or.inl w77_) Via.refl e0 FQ d20_2 (fun T1 X1 e1 => ?_)
 refine g_aloadN X1 hx hby d20_5 rfl rfl ?_
 refine g_virtual X1 hx hby hZ hown (rm_grem l Z a0 hw [] o (1 : Int64) h0 n0 Z0 o3) w79_ w80_ (notFace_of_selects (args := #[]) (mvT hZ w82_)) w82_ w81_ w39_ w83_ (by decide) e1 oE (by rw [hml]; rfl) [] (lenOf own_pd7 rfl) rfl rfl (Nat.le_of_ble_eq_true rfl) (Nat.le_of_ble_eq_true rfl) (Nat.le_of_ble_eq_true rfl) (Nat.le_of_ble_eq_true rfl) d20_6 (fun v2 T2 L2 X2 hQ2 => ?_)
 obtain ⟨rfl, N2q, eh2⟩ := hQ2
 have N2 := Fr.app N0 N2q
 refine g_lsub X2 hx hby d20_9 ?_
 refine g_putF X2 hx hby hZ hown (host := "") (Or.inl w77_) Via.refl eh2 FQ EB (Or.inl w78_) w9_ .long (by decide) rfl rfl N2 ga d20_10 (fun T3 h3 X3 e3 W3 F3 N3 => ?_)
 refine g_aloadN X3 hx hby d20_13 rfl rfl ?_
 have ne5 : o ≠ a := (Exa.ne oE EB (by decide))
 have f6 := (o1.other W3 (Or.inl ne5))
 have z7 := (Nat.le_trans Z0 (Keep.of_wr W3).1)
 have f8 := (oE.wr W3)
 refine g_virtual X3 hx hby hZ hown (rm_hasp l Z a0 hw [] o q h3 n0 z7 f6) w94_ w95_ (notFace_of_selects (args := #[]) (mvT hZ w97_)) w97_ w96_ w39_ w98_ (by decide) e3 f8 (by rw [hml]; rfl) [] (lenOf own_pd9 rfl) rfl rfl (Nat.le_of_ble_eq_true rfl) (Nat.le_of_ble_eq_true rfl) (Nat.le_of_ble_eq_true rfl) (Nat.le_of_ble_eq_true rfl) d20_14 (fun v4 T4 L4 X4 hQ4 => ?_)
 obtain ⟨rfl, N4q, eh4⟩ := hQ4
 have N4 := Fr.app N3 N4q
 refine g_topI (T := T4) (0 : Int32) (if_pos hq) ?_
 refine g_ifY X4 hx hby 31 d20_17 (teq (by decide : (0 : Int32) = (0 : Int32))).1 (by decide) (by decide) ?_
 refine g_iconst X4 hx hby (-1 : Int32) d20_31 rfl ?_
 refine g_istoreN X4 hx hby d20_32 (l' := #[.val (.ref a), .val (.ref o), .val (.int (-1 : Int32)), .unset]) rfl ?_
 refine g_iloadN X4 hx hby d20_33 rfl ?_
 refine g_ifN X4 hx hby d20_34 (tlt (by decide : (-1 : Int32) < (0 : Int32))).2.1 ?_
 refine g_aloadN X4 hx hby d20_37 rfl rfl ?_
 have f9 := (FU.other W3 (Or.inr (slot_ne (Or.inr w34_) (Or.inl w78_) (by decide) (t := (.object "com/example/tidegate/tidegate/engine/BookSide$Level")) (t' := .long) (by decide) (by decide))))
 refine g_getF X4 hx hby hZ hown (host := "") (Or.inl w33_) Via.refl eh4 f9 d20_38 (fun T10 X10 e10 => ?_)
 refine g_goto X10 hx hby 50 d20_41 (by decide) (by decide) ?_
 refine g_astoreN X10 hx hby d20_50 rfl (l' := #[.val (.ref a), .val (.ref o), .val (.int (-1 : Int32)), .val (.ref up)]) rfl ?_
 refine g_aloadN X10 hx hby d20_51 rfl rfl ?_
 have f11 := (o5.other W3 (Or.inl ne5))
 refine g_getF X10 hx hby hZ hown (host := "") (Or.inl w140_) Via.refl e10 f11 d20_52 (fun T12 X12 e12 => ?_)
 refine g_ifnonnullY X12 hx hby 69 d20_55 (by decide) (by decide) ?_
 refine g_aloadN X12 hx hby d20_69 rfl rfl ?_
 refine g_getF X12 hx hby hZ hown (host := "") (Or.inl w140_) Via.refl e12 f11 d20_70 (fun T13 X13 e13 => ?_)
 refine g_aloadN X13 hx hby d20_73 rfl rfl ?_
 have f14 := (o6.other W3 (Or.inl ne5))
 refine g_getF X13 hx hby hZ hown (host := "") (Or.inl w142_) Via.refl e13 f14 d20_74 (fun T15 X15 e15 => ?_)
 have f16 := (yE.wr W3)
 have ne17 : y ≠ a := (Exa.ne yE EB (by decide))
 have f18 := (y6.other W3 (Or.inl ne17))
 refine g_putF X15 hx hby hZ hown (host := "") (Or.inl w142_) Via.refl e15 f18 f16 (Or.inl w143_) w38_ (.object "com/example/tidegate/tidegate/engine/Order") (by decide) rfl rfl N4 gy d20_77 (fun T19 h19 X19 e19 W19 F19 N19 => ?_)
 refine g_aloadN X19 hx hby d20_80 rfl rfl ?_
 have f20 := (f14.other W19 (Or.inl noy))
 refine g_getF X19 hx hby hZ hown (host := "") (Or.inl w142_) Via.refl e19 f20 d20_81 (fun T21 X21 e21 => ?_)
 refine g_ifnonnullN X21 hx hby d20_84 ?_
 refine g_aloadN X21 hx hby d20_87 rfl rfl ?_
 refine g_aloadN X21 hx hby d20_88 rfl rfl ?_
 have f22 := (f11.other W19 (Or.inl noy))
 refine g_getF X21 hx hby hZ hown (host := "") (Or.inl w140_) Via.refl e21 f22 d20_89 (fun T23 X23 e23 => ?_)
 have f24 := ((lE.wr W3).wr W19)
 have ne25 : up ≠ a := (Exa.ne lE EB (by decide))
 have ne26 : up ≠ y := (Exa.ne lE yE (by decide))
 have f27 := ((lL.other W3 (Or.inl ne25)).other W19 (Or.inl ne26))
 refine g_putFR X23 hx hby hZ hown w138_ e23 f27 f24 w139_ w24_ (.object "com/example/tidegate/tidegate/engine/Order") (by decide) rfl rfl N19 glv d20_92 (fun T28 h28 X28 e28 W28 F28 N28 => ?_)
 refine g_goto X28 hx hby 109 d20_95 (by decide) (by decide) ?_
 refine g_aloadN X28 hx hby d20_109 rfl rfl ?_
 refine g_aconst_null X28 hx hby d20_110 ?_
 have f29 := ((f8.wr W19).wr W28)
 have ne30 : o ≠ up := (Exa.ne oE lE (by decide))
 have f31 := (((o7.other W3 (Or.inl ne5)).other W19 (Or.inl noy)).other W28 (Or.inl ne30))
 refine g_putF X28 hx hby hZ hown (host := "") (Or.inl w136_) Via.refl e28 f31 f29 (Or.inl w137_) w38_ (.object "com/example/tidegate/tidegate/engine/BookSide") (by decide) rfl rfl N28 go d20_111 (fun T32 h32 X32 e32 W32 F32 N32 => ?_)
 refine g_aloadN X32 hx hby d20_114 rfl rfl ?_
 refine g_aconst_null X32 hx hby d20_115 ?_
 have f33 := (f29.wr W32)
 have f34 := ((f22.other W28 (Or.inl ne30)).other W32 (Or.inr (slot_ne (Or.inl w141_) (Or.inl w137_) (by decide) (t := (.object "com/example/tidegate/tidegate/engine/Order")) (t' := (.object "com/example/tidegate/tidegate/engine/BookSide")) (by decide) (by decide))))
 refine g_putF X32 hx hby hZ hown (host := "") (Or.inl w140_) Via.refl e32 f34 f33 (Or.inl w141_) w38_ (.object "com/example/tidegate/tidegate/engine/Order") (by decide) rfl rfl N32 go d20_116 (fun T35 h35 X35 e35 W35 F35 N35 => ?_)
 refine g_aloadN X35 hx hby d20_119 rfl rfl ?_
 refine g_aconst_null X35 hx hby d20_120 ?_
 have f36 := (f33.wr W35)
 have f37 := (((f20.other W28 (Or.inl ne30)).other W32 (Or.inr (slot_ne (Or.inl w143_) (Or.inl w137_) (by decide) (t := (.object "com/example/tidegate/tidegate/engine/Order")) (t' := (.object "com/example/tidegate/tidegate/engine/BookSide")) (by decide) (by decide)))).other W35 (Or.inr (slot_ne (Or.inl w143_) (Or.inl w141_) (by decide) (t := (.object "com/example/tidegate/tidegate/engine/Order")) (t' := (.object "com/example/tidegate/tidegate/engine/Order")) (by decide) (by decide))))
 refine g_putF X35 hx hby hZ hown (host := "") (Or.inl w142_) Via.refl e35 f37 f36 (Or.inl w143_) w38_ (.object "com/example/tidegate/tidegate/engine/Order") (by decide) rfl rfl N35 go d20_121 (fun T38 h38 X38 e38 W38 F38 N38 => ?_)
 refine g_aloadN X38 hx hby d20_124 rfl rfl ?_
 have f39 := ((((((lF.other W3 (Or.inl ne25)).other W19 (Or.inl ne26)).other W28 (Or.inr (slot_ne (Or.inl w66_) (Or.inl w139_) (by decide) (t := (.object "com/example/tidegate/tidegate/engine/Order")) (t' := (.object "com/example/tidegate/tidegate/engine/Order")) (by decide) (by decide)))).other W32 (Or.inl (Ne.symm ne30))).other W35 (Or.inl (Ne.symm ne30))).other W38 (Or.inl (Ne.symm ne30)))
 refine g_getFR X38 hx hby hZ hown w65_ e38 f39 d20_125 (fun T40 X40 e40 => ?_)
 refine g_ifnonnullY X40 hx hby 197 d20_128 (by decide) (by decide) ?_
 have f41 := ((((((EB.wr W3).wr W19).wr W28).wr W32).wr W35).wr W38)
 have f42 := ((((((FR.other W3 (Or.inr (slot_ne (Or.inl w19_) (Or.inl w78_) (by decide) (t := (.array .long)) (t' := .long) (by decide) (by decide)))).other W19 (Or.inl (Ne.symm ne17))).other W28 (Or.inl (Ne.symm ne25))).other W32 (Or.inl (Ne.symm ne5))).other W35 (Or.inl (Ne.symm ne5))).other W38 (Or.inl (Ne.symm ne5)))
 have f43 := ((((((FL.other W3 (Or.inr (slot_ne (Or.inl w23_) (Or.inl w78_) (by decide) (t := (.array (.object "com/example/tidegate/tidegate/engine/BookSide$Level"))) (t' := .long) (by decide) (by decide)))).other W19 (Or.inl (Ne.symm ne17))).other W28 (Or.inl (Ne.symm ne25))).other W32 (Or.inl (Ne.symm ne5))).other W35 (Or.inl (Ne.symm ne5))).other W38 (Or.inl (Ne.symm ne5)))
 have f44 := (((((f9.other W19 (Or.inl (Ne.symm ne17))).other W28 (Or.inl (Ne.symm ne25))).other W32 (Or.inl (Ne.symm ne5))).other W35 (Or.inl (Ne.symm ne5))).other W38 (Or.inl (Ne.symm ne5)))
 have f45 := ((((((FS.other W3 (Or.inr (slot_ne (Or.inr w36_) (Or.inl w78_) (by decide) (t := (.object "com/example/tidegate/tidegate/engine/Side")) (t' := .long) (by decide) (by decide)))).other W19 (Or.inl (Ne.symm ne17))).other W28 (Or.inl (Ne.symm ne25))).other W32 (Or.inl (Ne.symm ne5))).other W35 (Or.inl (Ne.symm ne5))).other W38 (Or.inl (Ne.symm ne5)))
 have f46 := ((((((FN.other W3 (Or.inr (slot_ne (Or.inl w68_) (Or.inl w78_) (by decide) (t := .int) (t' := .long) (by decide) (by decide)))).other W19 (Or.inl (Ne.symm ne17))).other W28 (Or.inl (Ne.symm ne25))).other W32 (Or.inl (Ne.symm ne5))).other W35 (Or.inl (Ne.symm ne5))).other W38 (Or.inl (Ne.symm ne5)))
 have f47 := (((((F3.other W19 (Or.inl (Ne.symm ne17))).other W28 (Or.inl (Ne.symm ne25))).other W32 (Or.inl (Ne.symm ne5))).other W35 (Or.inl (Ne.symm ne5))).other W38 (Or.inl (Ne.symm ne5)))
 have f48 := (f36.wr W38)
 have f49 := (((((f6.other W19 (Or.inl noy)).other W28 (Or.inl ne30)).other W32 (Or.inr (slot_ne (Or.inl w55_) (Or.inl w137_) (by decide) (t := .long) (t' := (.object "com/example/tidegate/tidegate/engine/BookSide")) (by decide) (by decide)))).other W35 (Or.inr (slot_ne (Or.inl w55_) (Or.inl w141_) (by decide) (t := .long) (t' := (.object "com/example/tidegate/tidegate/engine/Order")) (by decide) (by decide)))).other W38 (Or.inr (slot_ne (Or.inl w55_) (Or.inl w143_) (by decide) (t := .long) (t' := (.object "com/example/tidegate/tidegate/engine/Order")) (by decide) (by decide))))
 have f50 := ((((((o2.other W3 (Or.inl ne5)).other W19 (Or.inl noy)).other W28 (Or.inl ne30)).other W32 (Or.inr (slot_ne (Or.inr w57_) (Or.inl w137_) (by decide) (t := .long) (t' := (.object "com/example/tidegate/tidegate/engine/BookSide")) (by decide) (by decide)))).other W35 (Or.inr (slot_ne (Or.inr w57_) (Or.inl w141_) (by decide) (t := .long) (t' := (.object "com/example/tidegate/tidegate/engine/Order")) (by decide) (by decide)))).other W38 (Or.inr (slot_ne (Or.inr w57_) (Or.inl w143_) (by decide) (t := .long) (t' := (.object "com/example/tidegate/tidegate/engine/Order")) (by decide) (by decide))))
 have f51 := ((((((o3.other W3 (Or.inl ne5)).other W19 (Or.inl noy)).other W28 (Or.inl ne30)).other W32 (Or.inr (slot_ne (Or.inl w59_) (Or.inl w137_) (by decide) (t := .long) (t' := (.object "com/example/tidegate/tidegate/engine/BookSide")) (by decide) (by decide)))).other W35 (Or.inr (slot_ne (Or.inl w59_) (Or.inl w141_) (by decide) (t := .long) (t' := (.object "com/example/tidegate/tidegate/engine/Order")) (by decide) (by decide)))).other W38 (Or.inr (slot_ne (Or.inl w59_) (Or.inl w143_) (by decide) (t := .long) (t' := (.object "com/example/tidegate/tidegate/engine/Order")) (by decide) (by decide))))
 have f52 := ((((((o4.other W3 (Or.inl ne5)).other W19 (Or.inl noy)).other W28 (Or.inl ne30)).other W32 (Or.inr (slot_ne (Or.inl w93_) (Or.inl w137_) (by decide) (t := .long) (t' := (.object "com/example/tidegate/tidegate/engine/BookSide")) (by decide) (by decide)))).other W35 (Or.inr (slot_ne (Or.inl w93_) (Or.inl w141_) (by decide) (t := .long) (t' := (.object "com/example/tidegate/tidegate/engine/Order")) (by decide) (by decide)))).other W38 (Or.inr (slot_ne (Or.inl w93_) (Or.inl w143_) (by decide) (t := .long) (t' := (.object "com/example/tidegate/tidegate/engine/Order")) (by decide) (by decide))))
 have f53 := (F35.other W38 (Or.inr (slot_ne (Or.inl w141_) (Or.inl w143_) (by decide) (t := (.object "com/example/tidegate/tidegate/engine/Order")) (t' := (.object "com/example/tidegate/tidegate/engine/Order")) (by decide) (by decide))))
 have f54 := ((F32.other W35 (Or.inr (slot_ne (Or.inl w137_) (Or.inl w141_) (by decide) (t := (.object "com/example/tidegate/tidegate/engine/BookSide")) (t' := (.object "com/example/tidegate/tidegate/engine/Order")) (by decide) (by decide)))).other W38 (Or.inr (slot_ne (Or.inl w137_) (Or.inl w143_) (by decide) (t := (.object "com/example/tidegate/tidegate/engine/BookSide")) (t' := (.object "com/example/tidegate/tidegate/engine/Order")) (by decide) (by decide))))
 have f55 := ((((f24.wr W28).wr W32).wr W35).wr W38)
 have f56 := (((F28.other W32 (Or.inl (Ne.symm ne30))).other W35 (Or.inl (Ne.symm ne30))).other W38 (Or.inl (Ne.symm ne30)))
 have f57 := (((((f16.wr W19).wr W28).wr W32).wr W35).wr W38)
 have f58 := ((((((y1.other W3 (Or.inl ne17)).other W19 (Or.inr (slot_ne (Or.inl w55_) (Or.inl w143_) (by decide) (t := .long) (t' := (.object "com/example/tidegate/tidegate/engine/Order")) (by decide) (by decide)))).other W28 (Or.inl (Ne.symm ne26))).other W32 (Or.inl (Ne.symm noy))).other W35 (Or.inl (Ne.symm noy))).other W38 (Or.inl (Ne.symm noy)))
 have f59 := ((((((y2.other W3 (Or.inl ne17)).other W19 (Or.inr (slot_ne (Or.inr w57_) (Or.inl w143_) (by decide) (t := .long) (t' := (.object "com/example/tidegate/tidegate/engine/Order")) (by decide) (by decide)))).other W28 (Or.inl (Ne.symm ne26))).other W32 (Or.inl (Ne.symm noy))).other W35 (Or.inl (Ne.symm noy))).other W38 (Or.inl (Ne.symm noy)))
 have f60 := ((((((y3.other W3 (Or.inl ne17)).other W19 (Or.inr (slot_ne (Or.inl w59_) (Or.inl w143_) (by decide) (t := .long) (t' := (.object "com/example/tidegate/tidegate/engine/Order")) (by decide) (by decide)))).other W28 (Or.inl (Ne.symm ne26))).other W32 (Or.inl (Ne.symm noy))).other W35 (Or.inl (Ne.symm noy))).other W38 (Or.inl (Ne.symm noy)))
 have f61 := ((((((y4.other W3 (Or.inl ne17)).other W19 (Or.inr (slot_ne (Or.inl w93_) (Or.inl w143_) (by decide) (t := .long) (t' := (.object "com/example/tidegate/tidegate/engine/Order")) (by decide) (by decide)))).other W28 (Or.inl (Ne.symm ne26))).other W32 (Or.inl (Ne.symm noy))).other W35 (Or.inl (Ne.symm noy))).other W38 (Or.inl (Ne.symm noy)))
 have f62 := ((((((y5.other W3 (Or.inl ne17)).other W19 (Or.inr (slot_ne (Or.inl w141_) (Or.inl w143_) (by decide) (t := (.object "com/example/tidegate/tidegate/engine/Order")) (t' := (.object "com/example/tidegate/tidegate/engine/Order")) (by decide) (by decide)))).other W28 (Or.inl (Ne.symm ne26))).other W32 (Or.inl (Ne.symm noy))).other W35 (Or.inl (Ne.symm noy))).other W38 (Or.inl (Ne.symm noy)))
 have f63 := ((((F19.other W28 (Or.inl (Ne.symm ne26))).other W32 (Or.inl (Ne.symm noy))).other W35 (Or.inl (Ne.symm noy))).other W38 (Or.inl (Ne.symm noy)))
 have f64 := ((((((y7.other W3 (Or.inl ne17)).other W19 (Or.inr (slot_ne (Or.inl w137_) (Or.inl w143_) (by decide) (t := (.object "com/example/tidegate/tidegate/engine/BookSide")) (t' := (.object "com/example/tidegate/tidegate/engine/Order")) (by decide) (by decide)))).other W28 (Or.inl (Ne.symm ne26))).other W32 (Or.inl (Ne.symm noy))).other W35 (Or.inl (Ne.symm noy))).other W38 (Or.inl (Ne.symm noy)))
 refine g_ret X40 hx hby Bd.returns Bd.notSynchronized d20_197 e40 (by decide) (by decide) ?_
 show (Q_remUy Z a q sd rk la up qy o cn y yq ypv yro f0 l0 oro ba h0 n0) none _ _
 exact ⟨rfl, N38, (((((((Keep.refl h0 [a, o, up, y]).wr W3 (Or.inl (List.mem_of_getElem? (i := 0) rfl))).wr W19 (Or.inl (List.mem_of_getElem? (i := 3) rfl))).wr W28 (Or.inl (List.mem_of_getElem? (i := 2) rfl))).wr W32 (Or.inl (List.mem_of_getElem? (i := 1) rfl))).wr W35 (Or.inl (List.mem_of_getElem? (i := 1) rfl))).wr W38 (Or.inl (List.mem_of_getElem? (i := 1) rfl))), ⟨f41, f42, f43, f44, f45, f46, f47⟩, ⟨f48, f49, f50, f51, f52, f53, F38, f54⟩, ⟨f55, f39, f56⟩, ⟨f57, f58, f59, f60, f61, f62, f63, f64⟩⟩

def Q_remUyx (Z : State) (a : Addr) (q : Int64) (sd : Addr) (rk : Addr) (la : Addr) (up : Addr) (qy : Int64) (o : Addr) (cn : Int32) (y : Addr) (yq : Int64) (ypv : Value) (yro : Value) (x : Addr) (xq : Int64) (xnx : Value) (xro : Value) (f0 : Addr) (l0 : Addr) (oro : Value) (ba : Addr) (h0 : Heap) (n0 : Nat) (v : Option Value) (h : Heap) (L : List Loc) : Prop := v = none ∧ Fr n0 L ∧ Keep h0 h [a, o, up, y, x] ∧ own_BB Z h a rk la up sd cn (qy - (1 : Int64)) ∧ own_OO Z h o q .null .null .null ∧ own_LL Z h up (.ref f0) (.ref l0) ∧ own_OO Z h y yq ypv (.ref x) yro ∧ own_OO Z h x xq (.ref y) xnx xro
set_option maxRecDepth 65536 in
set_option maxHeartbeats 40000000 in
theorem rm_remUyx (l : Launch) (Z : State) (a0 : Array Value) (hw : ∀ d ∈ tables_1, d.before a0 Z = true) (ws : List Jvm.Cond) (a : Addr) (q : Int64) (sd : Addr) (rk : Addr) (la : Addr) (up : Addr) (qy : Int64) (o : Addr) (cn : Int32) (y : Addr) (yq : Int64) (ypv : Value) (yro : Value) (x : Addr) (xq : Int64) (xnx : Value) (xro : Value) (f0 : Addr) (l0 : Addr) (oro : Value) (ba : Addr) (h0 : Heap) (n0 : Nat) (Z0 : n0 ≤ h0.size) (SB : Sta Z Z.heap "com/example/tidegate/tidegate/engine/Side" "BUY" "Lcom/example/tidegate/tidegate/engine/Side;" (.ref ba)) (OLD : Old Z n0 h0) (BBp : own_BB Z h0 a rk la up sd cn qy) (ORp : own_OO Z h0 o q (.ref y) (.ref x) oro) (ga : n0 ≤ a) (go : n0 ≤ o) (hq : q = (-9223372036854775808 : Int64)) (LLp : own_LL Z h0 up (.ref f0) (.ref l0)) (glv : n0 ≤ up) (YRp : own_OO Z h0 y yq ypv (.ref o) yro) (gy : n0 ≤ y) (noy : o ≠ y) (XRp : own_OO Z h0 x xq (.ref o) xnx xro) (gx : n0 ≤ x) (nox : o ≠ x) (nyx : y ≠ x) :
  MetFree l (⟨"com/example/tidegate/tidegate/engine/BookSide", "remove", "(Lcom/example/tidegate/tidegate/engine/Order;)V"⟩ : MethodName) (head1 (Jvm.Cond.code (⟨"com/example/tidegate/tidegate/engine/BookSide", "remove", "(Lcom/example/tidegate/tidegate/engine/Order;)V"⟩ : MethodName) prog_2_method_10_code 4 none :: ws) ({ frames := 6, cells := 0, slots := 0, locals := 139 } : Room)) (fun aa_ U => aa_ = #[(.ref a), (.ref o)] ∧ Z.Warmed39 U.vm ∧ U.heap = h0) (fun _ _ _ _ _ => True) (fun _ U o_ U' => RetG U (Q_remUyx Z a q sd rk la up qy o cn y yq ypv yro x xq xnx xro f0 l0 oro ba h0 n0) 0 0 U' o_) := by
 refine MetFree.of_bodySF (plainFor_of_name own_pn1) hisR ?_
 intro p e s m args below meth c_ s₁ Bd hml0 hP hK
 obtain ⟨rfl, hZ, hh⟩ := hP
 have hx := Bd.exec
 have hby := Bd.bytes
 have hml : c_.maxLocals = 4 := hml0
 have hown : s.vm.findClass "com/example/tidegate/tidegate/engine/BookSide" = some m.cls := findClass_of_methodNamed Bd.named
 have hnm := (name_of_methodNamed Bd.named Bd.method).1
 have X0 : Stand p l e ({ frames := 6, cells := 0, slots := 0, locals := 139 } : Room) s m #[(.ref a), (.ref o)] below meth c_ s₁ [] 0 0 := Stand.of_body Bd
 have e0 : s₁.heap = h0 := by rw [← hh, Bd.state]; rfl
 have N0 := Fr.nil n0
 have w9_ := hw _ (List.mem_of_getElem? (i := 9) rfl)
 have w19_ := hw _ (List.mem_of_getElem? (i := 19) rfl)
 have w23_ := hw _ (List.mem_of_getElem? (i := 23) rfl)
 have w33_ := hw _ (List.mem_of_getElem? (i := 33) rfl)
 have w34_ := hw _ (List.mem_of_getElem? (i := 34) rfl)
 have w36_ := hw _ (List.mem_of_getElem? (i := 36) rfl)
 have w38_ := hw _ (List.mem_of_getElem? (i := 38) rfl)
 have w39_ := hw _ (List.mem_of_getElem? (i := 39) rfl)
 have w55_ := hw _ (List.mem_of_getElem? (i := 55) rfl)
 have w57_ := hw _ (List.mem_of_getElem? (i := 57) rfl)
 have w59_ := hw _ (List.mem_of_getElem? (i := 59) rfl)
 have w65_ := hw _ (List.mem_of_getElem? (i := 65) rfl)
 have w68_ := hw _ (List.mem_of_getElem? (i := 68) rfl)
 have w77_ := hw _ (List.mem_of_getElem? (i := 77) rfl)
 have w78_ := hw _ (List.mem_of_getElem? (i := 78) rfl)
 have w79_ := hw _ (List.mem_of_getElem? (i := 79) rfl)
 have w80_ := hw _ (List.mem_of_getElem? (i := 80) rfl)
 have w81_ := hw _ (List.mem_of_getElem? (i := 81) rfl)
 have w82_ := hw _ (List.mem_of_getElem? (i := 82) rfl)
 have w83_ := hw _ (List.mem_of_getElem? (i := 83) rfl)
 have w93_ := hw _ (List.mem_of_getElem? (i := 93) rfl)
 have w94_ := hw _ (List.mem_of_getElem? (i := 94) rfl)
 have w95_ := hw _ (List.mem_of_getElem? (i := 95) rfl)
 have w96_ := hw _ (List.mem_of_getElem? (i := 96) rfl)
 have w97_ := hw _ (List.mem_of_getElem? (i := 97) rfl)
 have w98_ := hw _ (List.mem_of_getElem? (i := 98) rfl)
 have w136_ := hw _ (List.mem_of_getElem? (i := 136) rfl)
 have w137_ := hw _ (List.mem_of_getElem? (i := 137) rfl)
 have w140_ := hw _ (List.mem_of_getElem? (i := 140) rfl)
 have w141_ := hw _ (List.mem_of_getElem? (i := 141) rfl)
 have w142_ := hw _ (List.mem_of_getElem? (i := 142) rfl)
 have w143_ := hw _ (List.mem_of_getElem? (i := 143) rfl)
 obtain ⟨EB, FR, FL, FU, FS, FN, FQ⟩ := BBp
 obtain ⟨oE, o1, o2, o3, o4, o5, o6, o7⟩ := ORp
 obtain ⟨lE, lF, lL⟩ := LLp
 obtain ⟨yE, y1, y2, y3, y4, y5, y6, y7⟩ := YRp
 obtain ⟨xE, xw1, xw2, xw3, xw4, xw5, xw6, xw7⟩ := XRp
 show Go p e below (RetG s (Q_remUyx Z a q sd rk la up qy o cn y yq ypv yro x xq xnx xro f0 l0 oro ba h0 n0) 0 0) (s₁.setTop (entryFrame m #[(.ref a), (.ref o)] 4))
 rw [show entryFrame m #[(.ref a), (.ref o)] 4 = mkF m 0 #[.val (.ref a), .val (.ref o), .unset, .unset] [] from by first | (simp [entryFrame, mkF, argsToLocals, Value.category]; done) | rfl]
 refine g_aloadN X0 hx hby d20_0 rfl rfl ?_
 refine g_dup X0 hx hby d20_1 rfl ?_
 refine g_getF X0 hx hby hZ hown (host := "") (Or.inl w77_) Via.refl e0 FQ d20_2 (fun T1 X1 e1 => ?_)
 refine g_aloadN X1 hx hby d20_5 rfl rfl ?_
 refine g_virtual X1 hx hby hZ hown (rm_grem l Z a0 hw [] o (1 : Int64) h0 n0 Z0 o3) w79_ w80_ (notFace_of_selects (args := #[]) (mvT hZ w82_)) w82_ w81_ w39_ w83_ (by decide) e1 oE (by rw [hml]; rfl) [] (lenOf own_pd7 rfl) rfl rfl (Nat.le_of_ble_eq_true rfl) (Nat.le_of_ble_eq_true rfl) (Nat.le_of_ble_eq_true rfl) (Nat.le_of_ble_eq_true rfl) d20_6 (fun v2 T2 L2 X2 hQ2 => ?_)
 obtain ⟨rfl, N2q, eh2⟩ := hQ2
 have N2 := Fr.app N0 N2q
 refine g_lsub X2 hx hby d20_9 ?_
 refine g_putF X2 hx hby hZ hown (host := "") (Or.inl w77_) Via.refl eh2 FQ EB (Or.inl w78_) w9_ .long (by decide) rfl rfl N2 ga d20_10 (fun T3 h3 X3 e3 W3 F3 N3 => ?_)
 refine g_aloadN X3 hx hby d20_13 rfl rfl ?_
 have ne5 : o ≠ a := (Exa.ne oE EB (by decide))
 have f6 := (o1.other W3 (Or.inl ne5))
 have z7 := (Nat.le_trans Z0 (Keep.of_wr W3).1)
 have f8 := (oE.wr W3)
 refine g_virtual X3 hx hby hZ hown (rm_hasp l Z a0 hw [] o q h3 n0 z7 f6) w94_ w95_ (notFace_of_selects (args := #[]) (mvT hZ w97_)) w97_ w96_ w39_ w98_ (by decide) e3 f8 (by rw [hml]; rfl) [] (lenOf own_pd9 rfl) rfl rfl (Nat.le_of_ble_eq_true rfl) (Nat.le_of_ble_eq_true rfl) (Nat.le_of_ble_eq_true rfl) (Nat.le_of_ble_eq_true rfl) d20_14 (fun v4 T4 L4 X4 hQ4 => ?_)
 obtain ⟨rfl, N4q, eh4⟩ := hQ4
 have N4 := Fr.app N3 N4q
 refine g_topI (T := T4) (0 : Int32) (if_pos hq) ?_
 refine g_ifY X4 hx hby 31 d20_17 (teq (by decide : (0 : Int32) = (0 : Int32))).1 (by decide) (by decide) ?_
 refine g_iconst X4 hx hby (-1 : Int32) d20_31 rfl ?_
 refine g_istoreN X4 hx hby d20_32 (l' := #[.val (.ref a), .val (.ref o), .val (.int (-1 : Int32)), .unset]) rfl ?_
 refine g_iloadN X4 hx hby d20_33 rfl ?_
 refine g_ifN X4 hx hby d20_34 (tlt (by decide : (-1 : Int32) < (0 : Int32))).2.1 ?_
 refine g_aloadN X4 hx hby d20_37 rfl rfl ?_
 have f9 := (FU.other W3 (Or.inr (slot_ne (Or.inr w34_) (Or.inl w78_) (by decide) (t := (.object "com/example/tidegate/tidegate/engine/BookSide$Level")) (t' := .long) (by decide) (by decide))))
 refine g_getF X4 hx hby hZ hown (host := "") (Or.inl w33_) Via.refl eh4 f9 d20_38 (fun T10 X10 e10 => ?_)
 refine g_goto X10 hx hby 50 d20_41 (by decide) (by decide) ?_
 refine g_astoreN X10 hx hby d20_50 rfl (l' := #[.val (.ref a), .val (.ref o), .val (.int (-1 : Int32)), .val (.ref up)]) rfl ?_
 refine g_aloadN X10 hx hby d20_51 rfl rfl ?_
 have f11 := (o5.other W3 (Or.inl ne5))
 refine g_getF X10 hx hby hZ hown (host := "") (Or.inl w140_) Via.refl e10 f11 d20_52 (fun T12 X12 e12 => ?_)
 refine g_ifnonnullY X12 hx hby 69 d20_55 (by decide) (by decide) ?_
 refine g_aloadN X12 hx hby d20_69 rfl rfl ?_
 refine g_getF X12 hx hby hZ hown (host := "") (Or.inl w140_) Via.refl e12 f11 d20_70 (fun T13 X13 e13 => ?_)
 refine g_aloadN X13 hx hby d20_73 rfl rfl ?_
 have f14 := (o6.other W3 (Or.inl ne5))
 refine g_getF X13 hx hby hZ hown (host := "") (Or.inl w142_) Via.refl e13 f14 d20_74 (fun T15 X15 e15 => ?_)
 have f16 := (yE.wr W3)
 have ne17 : y ≠ a := (Exa.ne yE EB (by decide))
 have f18 := (y6.other W3 (Or.inl ne17))
 refine g_putF X15 hx hby hZ hown (host := "") (Or.inl w142_) Via.refl e15 f18 f16 (Or.inl w143_) w38_ (.object "com/example/tidegate/tidegate/engine/Order") (by decide) rfl rfl N4 gy d20_77 (fun T19 h19 X19 e19 W19 F19 N19 => ?_)
 refine g_aloadN X19 hx hby d20_80 rfl rfl ?_
 have f20 := (f14.other W19 (Or.inl noy))
 refine g_getF X19 hx hby hZ hown (host := "") (Or.inl w142_) Via.refl e19 f20 d20_81 (fun T21 X21 e21 => ?_)
 refine g_ifnonnullY X21 hx hby 98 d20_84 (by decide) (by decide) ?_
 refine g_aloadN X21 hx hby d20_98 rfl rfl ?_
 refine g_getF X21 hx hby hZ hown (host := "") (Or.inl w142_) Via.refl e21 f20 d20_99 (fun T22 X22 e22 => ?_)
 refine g_aloadN X22 hx hby d20_102 rfl rfl ?_
 have f23 := (f11.other W19 (Or.inl noy))
 refine g_getF X22 hx hby hZ hown (host := "") (Or.inl w140_) Via.refl e22 f23 d20_103 (fun T24 X24 e24 => ?_)
 have f25 := ((xE.wr W3).wr W19)
 have ne26 : x ≠ a := (Exa.ne xE EB (by decide))
 have f27 := ((xw5.other W3 (Or.inl ne26)).other W19 (Or.inl (Ne.symm nyx)))
 refine g_putF X24 hx hby hZ hown (host := "") (Or.inl w140_) Via.refl e24 f27 f25 (Or.inl w141_) w38_ (.object "com/example/tidegate/tidegate/engine/Order") (by decide) rfl rfl N19 gx d20_106 (fun T28 h28 X28 e28 W28 F28 N28 => ?_)
 refine g_aloadN X28 hx hby d20_109 rfl rfl ?_
 refine g_aconst_null X28 hx hby d20_110 ?_
 have f29 := ((f8.wr W19).wr W28)
 have f30 := (((o7.other W3 (Or.inl ne5)).other W19 (Or.inl noy)).other W28 (Or.inl nox))
 refine g_putF X28 hx hby hZ hown (host := "") (Or.inl w136_) Via.refl e28 f30 f29 (Or.inl w137_) w38_ (.object "com/example/tidegate/tidegate/engine/BookSide") (by decide) rfl rfl N28 go d20_111 (fun T31 h31 X31 e31 W31 F31 N31 => ?_)
 refine g_aloadN X31 hx hby d20_114 rfl rfl ?_
 refine g_aconst_null X31 hx hby d20_115 ?_
 have f32 := (f29.wr W31)
 have f33 := ((f23.other W28 (Or.inl nox)).other W31 (Or.inr (slot_ne (Or.inl w141_) (Or.inl w137_) (by decide) (t := (.object "com/example/tidegate/tidegate/engine/Order")) (t' := (.object "com/example/tidegate/tidegate/engine/BookSide")) (by decide) (by decide))))
 refine g_putF X31 hx hby hZ hown (host := "") (Or.inl w140_) Via.refl e31 f33 f32 (Or.inl w141_) w38_ (.object "com/example/tidegate/tidegate/engine/Order") (by decide) rfl rfl N31 go d20_116 (fun T34 h34 X34 e34 W34 F34 N34 => ?_)
 refine g_aloadN X34 hx hby d20_119 rfl rfl ?_
 refine g_aconst_null X34 hx hby d20_120 ?_
 have f35 := (f32.wr W34)
 have f36 := (((f20.other W28 (Or.inl nox)).other W31 (Or.inr (slot_ne (Or.inl w143_) (Or.inl w137_) (by decide) (t := (.object "com/example/tidegate/tidegate/engine/Order")) (t' := (.object "com/example/tidegate/tidegate/engine/BookSide")) (by decide) (by decide)))).other W34 (Or.inr (slot_ne (Or.inl w143_) (Or.inl w141_) (by decide) (t := (.object "com/example/tidegate/tidegate/engine/Order")) (t' := (.object "com/example/tidegate/tidegate/engine/Order")) (by decide) (by decide))))
 refine g_putF X34 hx hby hZ hown (host := "") (Or.inl w142_) Via.refl e34 f36 f35 (Or.inl w143_) w38_ (.object "com/example/tidegate/tidegate/engine/Order") (by decide) rfl rfl N34 go d20_121 (fun T37 h37 X37 e37 W37 F37 N37 => ?_)
 refine g_aloadN X37 hx hby d20_124 rfl rfl ?_
 have ne38 : up ≠ a := (Exa.ne lE EB (by decide))
 have ne39 : up ≠ y := (Exa.ne lE yE (by decide))
 have ne40 : up ≠ x := (Exa.ne lE xE (by decide))
 have ne41 : up ≠ o := (Exa.ne lE oE (by decide))
 have f42 := ((((((lF.other W3 (Or.inl ne38)).other W19 (Or.inl ne39)).other W28 (Or.inl ne40)).other W31 (Or.inl ne41)).other W34 (Or.inl ne41)).other W37 (Or.inl ne41))
 refine g_getFR X37 hx hby hZ hown w65_ e37 f42 d20_125 (fun T43 X43 e43 => ?_)
 refine g_ifnonnullY X43 hx hby 197 d20_128 (by decide) (by decide) ?_
 have f44 := ((((((EB.wr W3).wr W19).wr W28).wr W31).wr W34).wr W37)
 have f45 := ((((((FR.other W3 (Or.inr (slot_ne (Or.inl w19_) (Or.inl w78_) (by decide) (t := (.array .long)) (t' := .long) (by decide) (by decide)))).other W19 (Or.inl (Ne.symm ne17))).other W28 (Or.inl (Ne.symm ne26))).other W31 (Or.inl (Ne.symm ne5))).other W34 (Or.inl (Ne.symm ne5))).other W37 (Or.inl (Ne.symm ne5)))
 have f46 := ((((((FL.other W3 (Or.inr (slot_ne (Or.inl w23_) (Or.inl w78_) (by decide) (t := (.array (.object "com/example/tidegate/tidegate/engine/BookSide$Level"))) (t' := .long) (by decide) (by decide)))).other W19 (Or.inl (Ne.symm ne17))).other W28 (Or.inl (Ne.symm ne26))).other W31 (Or.inl (Ne.symm ne5))).other W34 (Or.inl (Ne.symm ne5))).other W37 (Or.inl (Ne.symm ne5)))
 have f47 := (((((f9.other W19 (Or.inl (Ne.symm ne17))).other W28 (Or.inl (Ne.symm ne26))).other W31 (Or.inl (Ne.symm ne5))).other W34 (Or.inl (Ne.symm ne5))).other W37 (Or.inl (Ne.symm ne5)))
 have f48 := ((((((FS.other W3 (Or.inr (slot_ne (Or.inr w36_) (Or.inl w78_) (by decide) (t := (.object "com/example/tidegate/tidegate/engine/Side")) (t' := .long) (by decide) (by decide)))).other W19 (Or.inl (Ne.symm ne17))).other W28 (Or.inl (Ne.symm ne26))).other W31 (Or.inl (Ne.symm ne5))).other W34 (Or.inl (Ne.symm ne5))).other W37 (Or.inl (Ne.symm ne5)))
 have f49 := ((((((FN.other W3 (Or.inr (slot_ne (Or.inl w68_) (Or.inl w78_) (by decide) (t := .int) (t' := .long) (by decide) (by decide)))).other W19 (Or.inl (Ne.symm ne17))).other W28 (Or.inl (Ne.symm ne26))).other W31 (Or.inl (Ne.symm ne5))).other W34 (Or.inl (Ne.symm ne5))).other W37 (Or.inl (Ne.symm ne5)))
 have f50 := (((((F3.other W19 (Or.inl (Ne.symm ne17))).other W28 (Or.inl (Ne.symm ne26))).other W31 (Or.inl (Ne.symm ne5))).other W34 (Or.inl (Ne.symm ne5))).other W37 (Or.inl (Ne.symm ne5)))
 have f51 := (f35.wr W37)
 have f52 := (((((f6.other W19 (Or.inl noy)).other W28 (Or.inl nox)).other W31 (Or.inr (slot_ne (Or.inl w55_) (Or.inl w137_) (by decide) (t := .long) (t' := (.object "com/example/tidegate/tidegate/engine/BookSide")) (by decide) (by decide)))).other W34 (Or.inr (slot_ne (Or.inl w55_) (Or.inl w141_) (by decide) (t := .long) (t' := (.object "com/example/tidegate/tidegate/engine/Order")) (by decide) (by decide)))).other W37 (Or.inr (slot_ne (Or.inl w55_) (Or.inl w143_) (by decide) (t := .long) (t' := (.object "com/example/tidegate/tidegate/engine/Order")) (by decide) (by decide))))
 have f53 := ((((((o2.other W3 (Or.inl ne5)).other W19 (Or.inl noy)).other W28 (Or.inl nox)).other W31 (Or.inr (slot_ne (Or.inr w57_) (Or.inl w137_) (by decide) (t := .long) (t' := (.object "com/example/tidegate/tidegate/engine/BookSide")) (by decide) (by decide)))).other W34 (Or.inr (slot_ne (Or.inr w57_) (Or.inl w141_) (by decide) (t := .long) (t' := (.object "com/example/tidegate/tidegate/engine/Order")) (by decide) (by decide)))).other W37 (Or.inr (slot_ne (Or.inr w57_) (Or.inl w143_) (by decide) (t := .long) (t' := (.object "com/example/tidegate/tidegate/engine/Order")) (by decide) (by decide))))
 have f54 := ((((((o3.other W3 (Or.inl ne5)).other W19 (Or.inl noy)).other W28 (Or.inl nox)).other W31 (Or.inr (slot_ne (Or.inl w59_) (Or.inl w137_) (by decide) (t := .long) (t' := (.object "com/example/tidegate/tidegate/engine/BookSide")) (by decide) (by decide)))).other W34 (Or.inr (slot_ne (Or.inl w59_) (Or.inl w141_) (by decide) (t := .long) (t' := (.object "com/example/tidegate/tidegate/engine/Order")) (by decide) (by decide)))).other W37 (Or.inr (slot_ne (Or.inl w59_) (Or.inl w143_) (by decide) (t := .long) (t' := (.object "com/example/tidegate/tidegate/engine/Order")) (by decide) (by decide))))
 have f55 := ((((((o4.other W3 (Or.inl ne5)).other W19 (Or.inl noy)).other W28 (Or.inl nox)).other W31 (Or.inr (slot_ne (Or.inl w93_) (Or.inl w137_) (by decide) (t := .long) (t' := (.object "com/example/tidegate/tidegate/engine/BookSide")) (by decide) (by decide)))).other W34 (Or.inr (slot_ne (Or.inl w93_) (Or.inl w141_) (by decide) (t := .long) (t' := (.object "com/example/tidegate/tidegate/engine/Order")) (by decide) (by decide)))).other W37 (Or.inr (slot_ne (Or.inl w93_) (Or.inl w143_) (by decide) (t := .long) (t' := (.object "com/example/tidegate/tidegate/engine/Order")) (by decide) (by decide))))
 have f56 := (F34.other W37 (Or.inr (slot_ne (Or.inl w141_) (Or.inl w143_) (by decide) (t := (.object "com/example/tidegate/tidegate/engine/Order")) (t' := (.object "com/example/tidegate/tidegate/engine/Order")) (by decide) (by decide))))
 have f57 := ((F31.other W34 (Or.inr (slot_ne (Or.inl w137_) (Or.inl w141_) (by decide) (t := (.object "com/example/tidegate/tidegate/engine/BookSide")) (t' := (.object "com/example/tidegate/tidegate/engine/Order")) (by decide) (by decide)))).other W37 (Or.inr (slot_ne (Or.inl w137_) (Or.inl w143_) (by decide) (t := (.object "com/example/tidegate/tidegate/engine/BookSide")) (t' := (.object "com/example/tidegate/tidegate/engine/Order")) (by decide) (by decide))))
 have f58 := ((((((lE.wr W3).wr W19).wr W28).wr W31).wr W34).wr W37)
 have f59 := ((((((lL.other W3 (Or.inl ne38)).other W19 (Or.inl ne39)).other W28 (Or.inl ne40)).other W31 (Or.inl ne41)).other W34 (Or.inl ne41)).other W37 (Or.inl ne41))
 have f60 := (((((f16.wr W19).wr W28).wr W31).wr W34).wr W37)
 have f61 := ((((((y1.other W3 (Or.inl ne17)).other W19 (Or.inr (slot_ne (Or.inl w55_) (Or.inl w143_) (by decide) (t := .long) (t' := (.object "com/example/tidegate/tidegate/engine/Order")) (by decide) (by decide)))).other W28 (Or.inl nyx)).other W31 (Or.inl (Ne.symm noy))).other W34 (Or.inl (Ne.symm noy))).other W37 (Or.inl (Ne.symm noy)))
 have f62 := ((((((y2.other W3 (Or.inl ne17)).other W19 (Or.inr (slot_ne (Or.inr w57_) (Or.inl w143_) (by decide) (t := .long) (t' := (.object "com/example/tidegate/tidegate/engine/Order")) (by decide) (by decide)))).other W28 (Or.inl nyx)).other W31 (Or.inl (Ne.symm noy))).other W34 (Or.inl (Ne.symm noy))).other W37 (Or.inl (Ne.symm noy)))
 have f63 := ((((((y3.other W3 (Or.inl ne17)).other W19 (Or.inr (slot_ne (Or.inl w59_) (Or.inl w143_) (by decide) (t := .long) (t' := (.object "com/example/tidegate/tidegate/engine/Order")) (by decide) (by decide)))).other W28 (Or.inl nyx)).other W31 (Or.inl (Ne.symm noy))).other W34 (Or.inl (Ne.symm noy))).other W37 (Or.inl (Ne.symm noy)))
 have f64 := ((((((y4.other W3 (Or.inl ne17)).other W19 (Or.inr (slot_ne (Or.inl w93_) (Or.inl w143_) (by decide) (t := .long) (t' := (.object "com/example/tidegate/tidegate/engine/Order")) (by decide) (by decide)))).other W28 (Or.inl nyx)).other W31 (Or.inl (Ne.symm noy))).other W34 (Or.inl (Ne.symm noy))).other W37 (Or.inl (Ne.symm noy)))
 have f65 := ((((((y5.other W3 (Or.inl ne17)).other W19 (Or.inr (slot_ne (Or.inl w141_) (Or.inl w143_) (by decide) (t := (.object "com/example/tidegate/tidegate/engine/Order")) (t' := (.object "com/example/tidegate/tidegate/engine/Order")) (by decide) (by decide)))).other W28 (Or.inl nyx)).other W31 (Or.inl (Ne.symm noy))).other W34 (Or.inl (Ne.symm noy))).other W37 (Or.inl (Ne.symm noy)))
 have f66 := ((((F19.other W28 (Or.inl nyx)).other W31 (Or.inl (Ne.symm noy))).other W34 (Or.inl (Ne.symm noy))).other W37 (Or.inl (Ne.symm noy)))
 have f67 := ((((((y7.other W3 (Or.inl ne17)).other W19 (Or.inr (slot_ne (Or.inl w137_) (Or.inl w143_) (by decide) (t := (.object "com/example/tidegate/tidegate/engine/BookSide")) (t' := (.object "com/example/tidegate/tidegate/engine/Order")) (by decide) (by decide)))).other W28 (Or.inl nyx)).other W31 (Or.inl (Ne.symm noy))).other W34 (Or.inl (Ne.symm noy))).other W37 (Or.inl (Ne.symm noy)))
 have f68 := ((((f25.wr W28).wr W31).wr W34).wr W37)
 have f69 := ((((((xw1.other W3 (Or.inl ne26)).other W19 (Or.inl (Ne.symm nyx))).other W28 (Or.inr (slot_ne (Or.inl w55_) (Or.inl w141_) (by decide) (t := .long) (t' := (.object "com/example/tidegate/tidegate/engine/Order")) (by decide) (by decide)))).other W31 (Or.inl (Ne.symm nox))).other W34 (Or.inl (Ne.symm nox))).other W37 (Or.inl (Ne.symm nox)))
 have f70 := ((((((xw2.other W3 (Or.inl ne26)).other W19 (Or.inl (Ne.symm nyx))).other W28 (Or.inr (slot_ne (Or.inr w57_) (Or.inl w141_) (by decide) (t := .long) (t' := (.object "com/example/tidegate/tidegate/engine/Order")) (by decide) (by decide)))).other W31 (Or.inl (Ne.symm nox))).other W34 (Or.inl (Ne.symm nox))).other W37 (Or.inl (Ne.symm nox)))
 have f71 := ((((((xw3.other W3 (Or.inl ne26)).other W19 (Or.inl (Ne.symm nyx))).other W28 (Or.inr (slot_ne (Or.inl w59_) (Or.inl w141_) (by decide) (t := .long) (t' := (.object "com/example/tidegate/tidegate/engine/Order")) (by decide) (by decide)))).other W31 (Or.inl (Ne.symm nox))).other W34 (Or.inl (Ne.symm nox))).other W37 (Or.inl (Ne.symm nox)))
 have f72 := ((((((xw4.other W3 (Or.inl ne26)).other W19 (Or.inl (Ne.symm nyx))).other W28 (Or.inr (slot_ne (Or.inl w93_) (Or.inl w141_) (by decide) (t := .long) (t' := (.object "com/example/tidegate/tidegate/engine/Order")) (by decide) (by decide)))).other W31 (Or.inl (Ne.symm nox))).other W34 (Or.inl (Ne.symm nox))).other W37 (Or.inl (Ne.symm nox)))
 have f73 := (((F28.other W31 (Or.inl (Ne.symm nox))).other W34 (Or.inl (Ne.symm nox))).other W37 (Or.inl (Ne.symm nox)))
 have f74 := ((((((xw6.other W3 (Or.inl ne26)).other W19 (Or.inl (Ne.symm nyx))).other W28 (Or.inr (slot_ne (Or.inl w143_) (Or.inl w141_) (by decide) (t := (.object "com/example/tidegate/tidegate/engine/Order")) (t' := (.object "com/example/tidegate/tidegate/engine/Order")) (by decide) (by decide)))).other W31 (Or.inl (Ne.symm nox))).other W34 (Or.inl (Ne.symm nox))).other W37 (Or.inl (Ne.symm nox)))
 have f75 := ((((((xw7.other W3 (Or.inl ne26)).other W19 (Or.inl (Ne.symm nyx))).other W28 (Or.inr (slot_ne (Or.inl w137_) (Or.inl w141_) (by decide) (t := (.object "com/example/tidegate/tidegate/engine/BookSide")) (t' := (.object "com/example/tidegate/tidegate/engine/Order")) (by decide) (by decide)))).other W31 (Or.inl (Ne.symm nox))).other W34 (Or.inl (Ne.symm nox))).other W37 (Or.inl (Ne.symm nox)))
 refine g_ret X43 hx hby Bd.returns Bd.notSynchronized d20_197 e43 (by decide) (by decide) ?_
 show (Q_remUyx Z a q sd rk la up qy o cn y yq ypv yro x xq xnx xro f0 l0 oro ba h0 n0) none _ _
 exact ⟨rfl, N37, (((((((Keep.refl h0 [a, o, up, y, x]).wr W3 (Or.inl (List.mem_of_getElem? (i := 0) rfl))).wr W19 (Or.inl (List.mem_of_getElem? (i := 3) rfl))).wr W28 (Or.inl (List.mem_of_getElem? (i := 4) rfl))).wr W31 (Or.inl (List.mem_of_getElem? (i := 1) rfl))).wr W34 (Or.inl (List.mem_of_getElem? (i := 1) rfl))).wr W37 (Or.inl (List.mem_of_getElem? (i := 1) rfl))), ⟨f44, f45, f46, f47, f48, f49, f50⟩, ⟨f51, f52, f53, f54, f55, f56, F37, f57⟩, ⟨f58, f42, f59⟩, ⟨f60, f61, f62, f63, f64, f65, f66, f67⟩, ⟨f68, f69, f70, f71, f72, f73, f74, f75⟩⟩

theorem d20_20 : decode prog_2_method_10_code 20 = .ok (.aload_n 0, 1) := by decide +kernel
theorem d20_21 : decode prog_2_method_10_code 21 = .ok (.aload_n 1, 1) := by decide +kernel
theorem d20_22 : decode prog_2_method_10_code 22 = .ok (.invokevirtual 69, 3) := by decide +kernel
theorem d20_25 : decode prog_2_method_10_code 25 = .ok (.invokevirtual 92, 3) := by decide +kernel
theorem d20_28 : decode prog_2_method_10_code 28 = .ok (.goto 4, 3) := by decide +kernel
theorem d20_44 : decode prog_2_method_10_code 44 = .ok (.aload_n 0, 1) := by decide +kernel
theorem d20_45 : decode prog_2_method_10_code 45 = .ok (.getfield 15, 3) := by decide +kernel
theorem d20_48 : decode prog_2_method_10_code 48 = .ok (.iload_n 2, 1) := by decide +kernel
theorem d20_49 : decode prog_2_method_10_code 49 = .ok (.aaload, 1) := by decide +kernel
def Q_remPx (Z : State) (a : Addr) (q : Int64) (sd : Addr) (rk : Addr) (la : Addr) (up : Addr) (qy : Int64) (o : Addr) (t : Int64) (kr : ClassId) (kl : ClassId) (rs : List Int64) (As : List Addr) (i : Nat) (x : Addr) (xq : Int64) (xnx : Value) (xro : Value) (f0 : Addr) (l0 : Addr) (oro : Value) (ba : Addr) (h0 : Heap) (n0 : Nat) (v : Option Value) (h : Heap) (L : List Loc) : Prop := v = none ∧ Fr n0 L ∧ Keep h0 h [a, o, (As.getD i 0), x] ∧ own_BB Z h a rk la up sd (Int32.ofNat rs.length) (qy - (1 : Int64)) ∧ own_OO Z h o q .null .null .null ∧ own_LL Z h (As.getD i 0) (.ref x) (.ref l0) ∧ own_OO Z h x xq .null xnx xro
set_option maxRecDepth 65536 in
set_option maxHeartbeats 40000000 in
theorem rm_remPx (l : Launch) (Z : State) (a0 : Array Value) (hw : ∀ d ∈ tables_1, d.before a0 Z = true) (ws : List Jvm.Cond) (a : Addr) (q : Int64) (sd : Addr) (rk : Addr) (la : Addr) (up : Addr) (qy : Int64) (o : Addr) (t : Int64) (kr : ClassId) (kl : ClassId) (rs : List Int64) (As : List Addr) (i : Nat) (x : Addr) (xq : Int64) (xnx : Value) (xro : Value) (f0 : Addr) (l0 : Addr) (oro : Value) (ba : Addr) (h0 : Heap) (n0 : Nat) (Z0 : n0 ≤ h0.size) (SB : Sta Z Z.heap "com/example/tidegate/tidegate/engine/Side" "BUY" "Lcom/example/tidegate/tidegate/engine/Side;" (.ref ba)) (OLD : Old Z n0 h0) (BBp : own_BB Z h0 a rk la up sd (Int32.ofNat rs.length) qy) (ORp : own_OO Z h0 o q .null (.ref x) oro) (ga : n0 ≤ a) (go : n0 ≤ o) (hq : ¬ q = (-9223372036854775808 : Int64)) (LLp : own_LL Z h0 (As.getD i 0) (.ref f0) (.ref l0)) (glv : n0 ≤ (As.getD i 0)) (XRp : own_OO Z h0 x xq (.ref o) xnx xro) (gx : n0 ≤ x) (nox : o ≠ x) (ARp : own_AR Z h0 rk la kr kl rs As) (ht : t = if sd = ba then q else -q) (hi : i < rs.length) (hix : own_gix rs t = Int32.ofNat i) :
  MetFree l (⟨"com/example/tidegate/tidegate/engine/BookSide", "remove", "(Lcom/example/tidegate/tidegate/engine/Order;)V"⟩ : MethodName) (head1 (Jvm.Cond.code (⟨"com/example/tidegate/tidegate/engine/BookSide", "remove", "(Lcom/example/tidegate/tidegate/engine/Order;)V"⟩ : MethodName) prog_2_method_10_code 4 none :: ws) ({ frames := 6, cells := 0, slots := 0, locals := 139 } : Room)) (fun aa_ U => aa_ = #[(.ref a), (.ref o)] ∧ Z.Warmed39 U.vm ∧ U.heap = h0) (fun _ _ _ _ _ => True) (fun _ U o_ U' => RetG U (Q_remPx Z a q sd rk la up qy o t kr kl rs As i x xq xnx xro f0 l0 oro ba h0 n0) 0 0 U' o_) := by
 refine MetFree.of_bodySF (plainFor_of_name own_pn1) hisR ?_
 intro p e s m args below meth c_ s₁ Bd hml0 hP hK
 obtain ⟨rfl, hZ, hh⟩ := hP
 have hx := Bd.exec
 have hby := Bd.bytes
 have hml : c_.maxLocals = 4 := hml0
 have hown : s.vm.findClass "com/example/tidegate/tidegate/engine/BookSide" = some m.cls := findClass_of_methodNamed Bd.named
 have hnm := (name_of_methodNamed Bd.named Bd.method).1
 have X0 : Stand p l e ({ frames := 6, cells := 0, slots := 0, locals := 139 } : Room) s m #[(.ref a), (.ref o)] below meth c_ s₁ [] 0 0 := Stand.of_body Bd
 have e0 : s₁.heap = h0 := by rw [← hh, Bd.state]; rfl
 have N0 := Fr.nil n0
 have w9_ := hw _ (List.mem_of_getElem? (i := 9) rfl)
 have w10_ := hw _ (List.mem_of_getElem? (i := 10) rfl)
 have w19_ := hw _ (List.mem_of_getElem? (i := 19) rfl)
 have w22_ := hw _ (List.mem_of_getElem? (i := 22) rfl)
 have w23_ := hw _ (List.mem_of_getElem? (i := 23) rfl)
 have w24_ := hw _ (List.mem_of_getElem? (i := 24) rfl)
 have w34_ := hw _ (List.mem_of_getElem? (i := 34) rfl)
 have w36_ := hw _ (List.mem_of_getElem? (i := 36) rfl)
 have w38_ := hw _ (List.mem_of_getElem? (i := 38) rfl)
 have w39_ := hw _ (List.mem_of_getElem? (i := 39) rfl)
 have w55_ := hw _ (List.mem_of_getElem? (i := 55) rfl)
 have w57_ := hw _ (List.mem_of_getElem? (i := 57) rfl)
 have w59_ := hw _ (List.mem_of_getElem? (i := 59) rfl)
 have w65_ := hw _ (List.mem_of_getElem? (i := 65) rfl)
 have w66_ := hw _ (List.mem_of_getElem? (i := 66) rfl)
 have w68_ := hw _ (List.mem_of_getElem? (i := 68) rfl)
 have w77_ := hw _ (List.mem_of_getElem? (i := 77) rfl)
 have w78_ := hw _ (List.mem_of_getElem? (i := 78) rfl)
 have w79_ := hw _ (List.mem_of_getElem? (i := 79) rfl)
 have w80_ := hw _ (List.mem_of_getElem? (i := 80) rfl)
 have w81_ := hw _ (List.mem_of_getElem? (i := 81) rfl)
 have w82_ := hw _ (List.mem_of_getElem? (i := 82) rfl)
 have w83_ := hw _ (List.mem_of_getElem? (i := 83) rfl)
 have w93_ := hw _ (List.mem_of_getElem? (i := 93) rfl)
 have w94_ := hw _ (List.mem_of_getElem? (i := 94) rfl)
 have w95_ := hw _ (List.mem_of_getElem? (i := 95) rfl)
 have w96_ := hw _ (List.mem_of_getElem? (i := 96) rfl)
 have w97_ := hw _ (List.mem_of_getElem? (i := 97) rfl)
 have w98_ := hw _ (List.mem_of_getElem? (i := 98) rfl)
 have w100_ := hw _ (List.mem_of_getElem? (i := 100) rfl)
 have w101_ := hw _ (List.mem_of_getElem? (i := 101) rfl)
 have w102_ := hw _ (List.mem_of_getElem? (i := 102) rfl)
 have w103_ := hw _ (List.mem_of_getElem? (i := 103) rfl)
 have w104_ := hw _ (List.mem_of_getElem? (i := 104) rfl)
 have w109_ := hw _ (List.mem_of_getElem? (i := 109) rfl)
 have w110_ := hw _ (List.mem_of_getElem? (i := 110) rfl)
 have w111_ := hw _ (List.mem_of_getElem? (i := 111) rfl)
 have w112_ := hw _ (List.mem_of_getElem? (i := 112) rfl)
 have w136_ := hw _ (List.mem_of_getElem? (i := 136) rfl)
 have w137_ := hw _ (List.mem_of_getElem? (i := 137) rfl)
 have w139_ := hw _ (List.mem_of_getElem? (i := 139) rfl)
 have w140_ := hw _ (List.mem_of_getElem? (i := 140) rfl)
 have w141_ := hw _ (List.mem_of_getElem? (i := 141) rfl)
 have w142_ := hw _ (List.mem_of_getElem? (i := 142) rfl)
 have w143_ := hw _ (List.mem_of_getElem? (i := 143) rfl)
 obtain ⟨EB, FR, FL, FU, FS, FN, FQ⟩ := BBp
 obtain ⟨oE, o1, o2, o3, o4, o5, o6, o7⟩ := ORp
 obtain ⟨lE, lF, lL⟩ := LLp
 obtain ⟨xE, xw1, xw2, xw3, xw4, xw5, xw6, xw7⟩ := XRp
 obtain ⟨⟨vs, VR, hvl, gr⟩, ⟨wl, VL, hwl, gl⟩, hra, hl3⟩ := ARp
 show Go p e below (RetG s (Q_remPx Z a q sd rk la up qy o t kr kl rs As i x xq xnx xro f0 l0 oro ba h0 n0) 0 0) (s₁.setTop (entryFrame m #[(.ref a), (.ref o)] 4))
 rw [show entryFrame m #[(.ref a), (.ref o)] 4 = mkF m 0 #[.val (.ref a), .val (.ref o), .unset, .unset] [] from by first | (simp [entryFrame, mkF, argsToLocals, Value.category]; done) | rfl]
 refine g_aloadN X0 hx hby d20_0 rfl rfl ?_
 refine g_dup X0 hx hby d20_1 rfl ?_
 refine g_getF X0 hx hby hZ hown (host := "") (Or.inl w77_) Via.refl e0 FQ d20_2 (fun T1 X1 e1 => ?_)
 refine g_aloadN X1 hx hby d20_5 rfl rfl ?_
 refine g_virtual X1 hx hby hZ hown (rm_grem l Z a0 hw [] o (1 : Int64) h0 n0 Z0 o3) w79_ w80_ (notFace_of_selects (args := #[]) (mvT hZ w82_)) w82_ w81_ w39_ w83_ (by decide) e1 oE (by rw [hml]; rfl) [] (lenOf own_pd7 rfl) rfl rfl (Nat.le_of_ble_eq_true rfl) (Nat.le_of_ble_eq_true rfl) (Nat.le_of_ble_eq_true rfl) (Nat.le_of_ble_eq_true rfl) d20_6 (fun v2 T2 L2 X2 hQ2 => ?_)
 obtain ⟨rfl, N2q, eh2⟩ := hQ2
 have N2 := Fr.app N0 N2q
 refine g_lsub X2 hx hby d20_9 ?_
 refine g_putF X2 hx hby hZ hown (host := "") (Or.inl w77_) Via.refl eh2 FQ EB (Or.inl w78_) w9_ .long (by decide) rfl rfl N2 ga d20_10 (fun T3 h3 X3 e3 W3 F3 N3 => ?_)
 refine g_aloadN X3 hx hby d20_13 rfl rfl ?_
 have ne5 : o ≠ a := (Exa.ne oE EB (by decide))
 have f6 := (o1.other W3 (Or.inl ne5))
 have z7 := (Nat.le_trans Z0 (Keep.of_wr W3).1)
 have f8 := (oE.wr W3)
 refine g_virtual X3 hx hby hZ hown (rm_hasp l Z a0 hw [] o q h3 n0 z7 f6) w94_ w95_ (notFace_of_selects (args := #[]) (mvT hZ w97_)) w97_ w96_ w39_ w98_ (by decide) e3 f8 (by rw [hml]; rfl) [] (lenOf own_pd9 rfl) rfl rfl (Nat.le_of_ble_eq_true rfl) (Nat.le_of_ble_eq_true rfl) (Nat.le_of_ble_eq_true rfl) (Nat.le_of_ble_eq_true rfl) d20_14 (fun v4 T4 L4 X4 hQ4 => ?_)
 obtain ⟨rfl, N4q, eh4⟩ := hQ4
 have N4 := Fr.app N3 N4q
 refine g_topI (T := T4) (1 : Int32) (if_neg hq) ?_
 refine g_ifN X4 hx hby d20_17 (feq (by decide : ¬ ((1 : Int32) = (0 : Int32)))).1 ?_
 refine g_aloadN X4 hx hby d20_20 rfl rfl ?_
 refine g_aloadN X4 hx hby d20_21 rfl rfl ?_
 refine g_virtual X4 hx hby hZ hown (rm_gpri l Z a0 hw [] o q h3 n0 z7 f6) w100_ w101_ (notFace_of_selects (args := #[]) (mvT hZ w103_)) w103_ w102_ w39_ w104_ (by decide) eh4 f8 (by rw [hml]; rfl) [] (lenOf own_pd7 rfl) rfl rfl (Nat.le_of_ble_eq_true rfl) (Nat.le_of_ble_eq_true rfl) (Nat.le_of_ble_eq_true rfl) (Nat.le_of_ble_eq_true rfl) d20_22 (fun v9 T9 L9 X9 hQ9 => ?_)
 obtain ⟨rfl, N9q, eh9⟩ := hQ9
 have N9 := Fr.app N4 N9q
 refine g_at 25 rfl rfl rfl ?_
 have f11 := (OLD.wr W3 ga)
 have f12 := (EB.wr W3)
 have f13 := (FS.other W3 (Or.inr (slot_ne (Or.inr w36_) (Or.inl w78_) (by decide) (t := (.object "com/example/tidegate/tidegate/engine/Side")) (t' := .long) (by decide) (by decide))))
 have f14 := (FR.other W3 (Or.inr (slot_ne (Or.inl w19_) (Or.inl w78_) (by decide) (t := (.array .long)) (t' := .long) (by decide) (by decide))))
 have f15 := (FN.other W3 (Or.inr (slot_ne (Or.inl w68_) (Or.inl w78_) (by decide) (t := .int) (t' := .long) (by decide) (by decide))))
 have ne16 : rk ≠ a := (Ne.symm (Exa.neArv EB VR w9_))
 have f17 := (VR.other W3 ne16)
 refine g_private X9 hx hby hZ hown (rm_idxG l Z a0 hw [] a q sd t rk kr vs rs ba h3 n0 z7 SB f11 f12 f13 f14 f15 ht f17 gr hl3) w109_ w110_ w9_ w111_ w10_ w112_ (by decide) eh9 f12 (by rw [hml]; rfl) [(.long q)] (lenOf own_pd6 rfl) rfl rfl (Nat.le_of_ble_eq_true rfl) (Nat.le_of_ble_eq_true rfl) (Nat.le_of_ble_eq_true rfl) (Nat.le_of_ble_eq_true rfl) d20_25 (fun v10 T10 L10 X10 hQ10 => ?_)
 obtain ⟨rfl, N10q, eh10⟩ := hQ10
 have N10 := Fr.app N9 N10q
 refine g_topI (T := T10) (Int32.ofNat i) hix ?_
 refine g_goto X10 hx hby 32 d20_28 (by decide) (by decide) ?_
 refine g_istoreN X10 hx hby d20_32 (l' := #[.val (.ref a), .val (.ref o), .val (.int (Int32.ofNat i)), .unset]) rfl ?_
 refine g_iloadN X10 hx hby d20_33 rfl ?_
 refine g_ifY X10 hx hby 44 d20_34 (flt ((own_nneg (by omega)) : ¬ ((Int32.ofNat i) < (0 : Int32)))).2.1 (by decide) (by decide) ?_
 refine g_aloadN X10 hx hby d20_44 rfl rfl ?_
 have f18 := (FL.other W3 (Or.inr (slot_ne (Or.inl w23_) (Or.inl w78_) (by decide) (t := (.array (.object "com/example/tidegate/tidegate/engine/BookSide$Level"))) (t' := .long) (by decide) (by decide))))
 refine g_getF X10 hx hby hZ hown (host := "") (Or.inl w22_) Via.refl eh10 f18 d20_45 (fun T19 X19 e19 => ?_)
 refine g_iloadN X19 hx hby d20_48 rfl ?_
 have ne20 : la ≠ a := (Ne.symm (Exa.neArv EB VL w9_))
 have f21 := (VL.other W3 ne20)
 refine g_aaload X19 hx hby hZ e19 f21 rfl (.ref (As.getD i 0)) (own_in2 (by omega)) (by rw [own_tn2 (by omega)]; exact gl i (by omega)) d20_49 ?_
 refine g_astoreN X19 hx hby d20_50 rfl (l' := #[.val (.ref a), .val (.ref o), .val (.int (Int32.ofNat i)), .val (.ref (As.getD i 0))]) rfl ?_
 refine g_aloadN X19 hx hby d20_51 rfl rfl ?_
 have f22 := (o5.other W3 (Or.inl ne5))
 refine g_getF X19 hx hby hZ hown (host := "") (Or.inl w140_) Via.refl e19 f22 d20_52 (fun T23 X23 e23 => ?_)
 refine g_ifnonnullN X23 hx hby d20_55 ?_
 refine g_aloadN X23 hx hby d20_58 rfl rfl ?_
 refine g_aloadN X23 hx hby d20_59 rfl rfl ?_
 have f24 := (o6.other W3 (Or.inl ne5))
 refine g_getF X23 hx hby hZ hown (host := "") (Or.inl w142_) Via.refl e23 f24 d20_60 (fun T25 X25 e25 => ?_)
 have f26 := (lE.wr W3)
 have ne27 : (As.getD i 0) ≠ a := (Exa.ne lE EB (by decide))
 have f28 := (lF.other W3 (Or.inl ne27))
 refine g_putFR X25 hx hby hZ hown w65_ e25 f28 f26 w66_ w24_ (.object "com/example/tidegate/tidegate/engine/Order") (by decide) rfl rfl N10 glv d20_63 (fun T29 h29 X29 e29 W29 F29 N29 => ?_)
 refine g_goto X29 hx hby 80 d20_66 (by decide) (by decide) ?_
 refine g_aloadN X29 hx hby d20_80 rfl rfl ?_
 have ne30 : o ≠ (As.getD i 0) := (Exa.ne oE lE (by decide))
 have f31 := (f24.other W29 (Or.inl ne30))
 refine g_getF X29 hx hby hZ hown (host := "") (Or.inl w142_) Via.refl e29 f31 d20_81 (fun T32 X32 e32 => ?_)
 refine g_ifnonnullY X32 hx hby 98 d20_84 (by decide) (by decide) ?_
 refine g_aloadN X32 hx hby d20_98 rfl rfl ?_
 refine g_getF X32 hx hby hZ hown (host := "") (Or.inl w142_) Via.refl e32 f31 d20_99 (fun T33 X33 e33 => ?_)
 refine g_aloadN X33 hx hby d20_102 rfl rfl ?_
 have f34 := (f22.other W29 (Or.inl ne30))
 refine g_getF X33 hx hby hZ hown (host := "") (Or.inl w140_) Via.refl e33 f34 d20_103 (fun T35 X35 e35 => ?_)
 have f36 := ((xE.wr W3).wr W29)
 have ne37 : x ≠ a := (Exa.ne xE EB (by decide))
 have ne38 : x ≠ (As.getD i 0) := (Exa.ne xE lE (by decide))
 have f39 := ((xw5.other W3 (Or.inl ne37)).other W29 (Or.inl ne38))
 refine g_putF X35 hx hby hZ hown (host := "") (Or.inl w140_) Via.refl e35 f39 f36 (Or.inl w141_) w38_ (.object "com/example/tidegate/tidegate/engine/Order") (by decide) rfl rfl N29 gx d20_106 (fun T40 h40 X40 e40 W40 F40 N40 => ?_)
 refine g_aloadN X40 hx hby d20_109 rfl rfl ?_
 refine g_aconst_null X40 hx hby d20_110 ?_
 have f41 := ((f8.wr W29).wr W40)
 have f42 := (((o7.other W3 (Or.inl ne5)).other W29 (Or.inl ne30)).other W40 (Or.inl nox))
 refine g_putF X40 hx hby hZ hown (host := "") (Or.inl w136_) Via.refl e40 f42 f41 (Or.inl w137_) w38_ (.object "com/example/tidegate/tidegate/engine/BookSide") (by decide) rfl rfl N40 go d20_111 (fun T43 h43 X43 e43 W43 F43 N43 => ?_)
 refine g_aloadN X43 hx hby d20_114 rfl rfl ?_
 refine g_aconst_null X43 hx hby d20_115 ?_
 have f44 := (f41.wr W43)
 have f45 := ((f34.other W40 (Or.inl nox)).other W43 (Or.inr (slot_ne (Or.inl w141_) (Or.inl w137_) (by decide) (t := (.object "com/example/tidegate/tidegate/engine/Order")) (t' := (.object "com/example/tidegate/tidegate/engine/BookSide")) (by decide) (by decide))))
 refine g_putF X43 hx hby hZ hown (host := "") (Or.inl w140_) Via.refl e43 f45 f44 (Or.inl w141_) w38_ (.object "com/example/tidegate/tidegate/engine/Order") (by decide) rfl rfl N43 go d20_116 (fun T46 h46 X46 e46 W46 F46 N46 => ?_)
 refine g_aloadN X46 hx hby d20_119 rfl rfl ?_
 refine g_aconst_null X46 hx hby d20_120 ?_
 have f47 := (f44.wr W46)
 have f48 := (((f31.other W40 (Or.inl nox)).other W43 (Or.inr (slot_ne (Or.inl w143_) (Or.inl w137_) (by decide) (t := (.object "com/example/tidegate/tidegate/engine/Order")) (t' := (.object "com/example/tidegate/tidegate/engine/BookSide")) (by decide) (by decide)))).other W46 (Or.inr (slot_ne (Or.inl w143_) (Or.inl w141_) (by decide) (t := (.object "com/example/tidegate/tidegate/engine/Order")) (t' := (.object "com/example/tidegate/tidegate/engine/Order")) (by decide) (by decide))))
 refine g_putF X46 hx hby hZ hown (host := "") (Or.inl w142_) Via.refl e46 f48 f47 (Or.inl w143_) w38_ (.object "com/example/tidegate/tidegate/engine/Order") (by decide) rfl rfl N46 go d20_121 (fun T49 h49 X49 e49 W49 F49 N49 => ?_)
 refine g_aloadN X49 hx hby d20_124 rfl rfl ?_
 have f50 := ((((F29.other W40 (Or.inl (Ne.symm ne38))).other W43 (Or.inl (Ne.symm ne30))).other W46 (Or.inl (Ne.symm ne30))).other W49 (Or.inl (Ne.symm ne30)))
 refine g_getFR X49 hx hby hZ hown w65_ e49 f50 d20_125 (fun T51 X51 e51 => ?_)
 refine g_ifnonnullY X51 hx hby 197 d20_128 (by decide) (by decide) ?_
 have f52 := (((((f12.wr W29).wr W40).wr W43).wr W46).wr W49)
 have f53 := (((((f14.other W29 (Or.inl (Ne.symm ne27))).other W40 (Or.inl (Ne.symm ne37))).other W43 (Or.inl (Ne.symm ne5))).other W46 (Or.inl (Ne.symm ne5))).other W49 (Or.inl (Ne.symm ne5)))
 have f54 := (((((f18.other W29 (Or.inl (Ne.symm ne27))).other W40 (Or.inl (Ne.symm ne37))).other W43 (Or.inl (Ne.symm ne5))).other W46 (Or.inl (Ne.symm ne5))).other W49 (Or.inl (Ne.symm ne5)))
 have f55 := ((((((FU.other W3 (Or.inr (slot_ne (Or.inr w34_) (Or.inl w78_) (by decide) (t := (.object "com/example/tidegate/tidegate/engine/BookSide$Level")) (t' := .long) (by decide) (by decide)))).other W29 (Or.inl (Ne.symm ne27))).other W40 (Or.inl (Ne.symm ne37))).other W43 (Or.inl (Ne.symm ne5))).other W46 (Or.inl (Ne.symm ne5))).other W49 (Or.inl (Ne.symm ne5)))
 have f56 := (((((f13.other W29 (Or.inl (Ne.symm ne27))).other W40 (Or.inl (Ne.symm ne37))).other W43 (Or.inl (Ne.symm ne5))).other W46 (Or.inl (Ne.symm ne5))).other W49 (Or.inl (Ne.symm ne5)))
 have f57 := (((((f15.other W29 (Or.inl (Ne.symm ne27))).other W40 (Or.inl (Ne.symm ne37))).other W43 (Or.inl (Ne.symm ne5))).other W46 (Or.inl (Ne.symm ne5))).other W49 (Or.inl (Ne.symm ne5)))
 have f58 := (((((F3.other W29 (Or.inl (Ne.symm ne27))).other W40 (Or.inl (Ne.symm ne37))).other W43 (Or.inl (Ne.symm ne5))).other W46 (Or.inl (Ne.symm ne5))).other W49 (Or.inl (Ne.symm ne5)))
 have f59 := (f47.wr W49)
 have f60 := (((((f6.other W29 (Or.inl ne30)).other W40 (Or.inl nox)).other W43 (Or.inr (slot_ne (Or.inl w55_) (Or.inl w137_) (by decide) (t := .long) (t' := (.object "com/example/tidegate/tidegate/engine/BookSide")) (by decide) (by decide)))).other W46 (Or.inr (slot_ne (Or.inl w55_) (Or.inl w141_) (by decide) (t := .long) (t' := (.object "com/example/tidegate/tidegate/engine/Order")) (by decide) (by decide)))).other W49 (Or.inr (slot_ne (Or.inl w55_) (Or.inl w143_) (by decide) (t := .long) (t' := (.object "com/example/tidegate/tidegate/engine/Order")) (by decide) (by decide))))
 have f61 := ((((((o2.other W3 (Or.inl ne5)).other W29 (Or.inl ne30)).other W40 (Or.inl nox)).other W43 (Or.inr (slot_ne (Or.inr w57_) (Or.inl w137_) (by decide) (t := .long) (t' := (.object "com/example/tidegate/tidegate/engine/BookSide")) (by decide) (by decide)))).other W46 (Or.inr (slot_ne (Or.inr w57_) (Or.inl w141_) (by decide) (t := .long) (t' := (.object "com/example/tidegate/tidegate/engine/Order")) (by decide) (by decide)))).other W49 (Or.inr (slot_ne (Or.inr w57_) (Or.inl w143_) (by decide) (t := .long) (t' := (.object "com/example/tidegate/tidegate/engine/Order")) (by decide) (by decide))))
 have f62 := ((((((o3.other W3 (Or.inl ne5)).other W29 (Or.inl ne30)).other W40 (Or.inl nox)).other W43 (Or.inr (slot_ne (Or.inl w59_) (Or.inl w137_) (by decide) (t := .long) (t' := (.object "com/example/tidegate/tidegate/engine/BookSide")) (by decide) (by decide)))).other W46 (Or.inr (slot_ne (Or.inl w59_) (Or.inl w141_) (by decide) (t := .long) (t' := (.object "com/example/tidegate/tidegate/engine/Order")) (by decide) (by decide)))).other W49 (Or.inr (slot_ne (Or.inl w59_) (Or.inl w143_) (by decide) (t := .long) (t' := (.object "com/example/tidegate/tidegate/engine/Order")) (by decide) (by decide))))
 have f63 := ((((((o4.other W3 (Or.inl ne5)).other W29 (Or.inl ne30)).other W40 (Or.inl nox)).other W43 (Or.inr (slot_ne (Or.inl w93_) (Or.inl w137_) (by decide) (t := .long) (t' := (.object "com/example/tidegate/tidegate/engine/BookSide")) (by decide) (by decide)))).other W46 (Or.inr (slot_ne (Or.inl w93_) (Or.inl w141_) (by decide) (t := .long) (t' := (.object "com/example/tidegate/tidegate/engine/Order")) (by decide) (by decide)))).other W49 (Or.inr (slot_ne (Or.inl w93_) (Or.inl w143_) (by decide) (t := .long) (t' := (.object "com/example/tidegate/tidegate/engine/Order")) (by decide) (by decide))))
 have f64 := (F46.other W49 (Or.inr (slot_ne (Or.inl w141_) (Or.inl w143_) (by decide) (t := (.object "com/example/tidegate/tidegate/engine/Order")) (t' := (.object "com/example/tidegate/tidegate/engine/Order")) (by decide) (by decide))))
 have f65 := ((F43.other W46 (Or.inr (slot_ne (Or.inl w137_) (Or.inl w141_) (by decide) (t := (.object "com/example/tidegate/tidegate/engine/BookSide")) (t' := (.object "com/example/tidegate/tidegate/engine/Order")) (by decide) (by decide)))).other W49 (Or.inr (slot_ne (Or.inl w137_) (Or.inl w143_) (by decide) (t := (.object "com/example/tidegate/tidegate/engine/BookSide")) (t' := (.object "com/example/tidegate/tidegate/engine/Order")) (by decide) (by decide))))
 have f66 := (((((f26.wr W29).wr W40).wr W43).wr W46).wr W49)
 have f67 := ((((((lL.other W3 (Or.inl ne27)).other W29 (Or.inr (slot_ne (Or.inl w139_) (Or.inl w66_) (by decide) (t := (.object "com/example/tidegate/tidegate/engine/Order")) (t' := (.object "com/example/tidegate/tidegate/engine/Order")) (by decide) (by decide)))).other W40 (Or.inl (Ne.symm ne38))).other W43 (Or.inl (Ne.symm ne30))).other W46 (Or.inl (Ne.symm ne30))).other W49 (Or.inl (Ne.symm ne30)))
 have f68 := ((((f36.wr W40).wr W43).wr W46).wr W49)
 have f69 := ((((((xw1.other W3 (Or.inl ne37)).other W29 (Or.inl ne38)).other W40 (Or.inr (slot_ne (Or.inl w55_) (Or.inl w141_) (by decide) (t := .long) (t' := (.object "com/example/tidegate/tidegate/engine/Order")) (by decide) (by decide)))).other W43 (Or.inl (Ne.symm nox))).other W46 (Or.inl (Ne.symm nox))).other W49 (Or.inl (Ne.symm nox)))
 have f70 := ((((((xw2.other W3 (Or.inl ne37)).other W29 (Or.inl ne38)).other W40 (Or.inr (slot_ne (Or.inr w57_) (Or.inl w141_) (by decide) (t := .long) (t' := (.object "com/example/tidegate/tidegate/engine/Order")) (by decide) (by decide)))).other W43 (Or.inl (Ne.symm nox))).other W46 (Or.inl (Ne.symm nox))).other W49 (Or.inl (Ne.symm nox)))
 have f71 := ((((((xw3.other W3 (Or.inl ne37)).other W29 (Or.inl ne38)).other W40 (Or.inr (slot_ne (Or.inl w59_) (Or.inl w141_) (by decide) (t := .long) (t' := (.object "com/example/tidegate/tidegate/engine/Order")) (by decide) (by decide)))).other W43 (Or.inl (Ne.symm nox))).other W46 (Or.inl (Ne.symm nox))).other W49 (Or.inl (Ne.symm nox)))
 have f72 := ((((((xw4.other W3 (Or.inl ne37)).other W29 (Or.inl ne38)).other W40 (Or.inr (slot_ne (Or.inl w93_) (Or.inl w141_) (by decide) (t := .long) (t' := (.object "com/example/tidegate/tidegate/engine/Order")) (by decide) (by decide)))).other W43 (Or.inl (Ne.symm nox))).other W46 (Or.inl (Ne.symm nox))).other W49 (Or.inl (Ne.symm nox)))
 have f73 := (((F40.other W43 (Or.inl (Ne.symm nox))).other W46 (Or.inl (Ne.symm nox))).other W49 (Or.inl (Ne.symm nox)))
 have f74 := ((((((xw6.other W3 (Or.inl ne37)).other W29 (Or.inl ne38)).other W40 (Or.inr (slot_ne (Or.inl w143_) (Or.inl w141_) (by decide) (t := (.object "com/example/tidegate/tidegate/engine/Order")) (t' := (.object "com/example/tidegate/tidegate/engine/Order")) (by decide) (by decide)))).other W43 (Or.inl (Ne.symm nox))).other W46 (Or.inl (Ne.symm nox))).other W49 (Or.inl (Ne.symm nox)))
 have f75 := ((((((xw7.other W3 (Or.inl ne37)).other W29 (Or.inl ne38)).other W40 (Or.inr (slot_ne (Or.inl w137_) (Or.inl w141_) (by decide) (t := (.object "com/example/tidegate/tidegate/engine/BookSide")) (t' := (.object "com/example/tidegate/tidegate/engine/Order")) (by decide) (by decide)))).other W43 (Or.inl (Ne.symm nox))).other W46 (Or.inl (Ne.symm nox))).other W49 (Or.inl (Ne.symm nox)))
 refine g_ret X51 hx hby Bd.returns Bd.notSynchronized d20_197 e51 (by decide) (by decide) ?_
 show (Q_remPx Z a q sd rk la up qy o t kr kl rs As i x xq xnx xro f0 l0 oro ba h0 n0) none _ _
 exact ⟨rfl, N49, (((((((Keep.refl h0 [a, o, (As.getD i 0), x]).wr W3 (Or.inl (List.mem_of_getElem? (i := 0) rfl))).wr W29 (Or.inl (List.mem_of_getElem? (i := 2) rfl))).wr W40 (Or.inl (List.mem_of_getElem? (i := 3) rfl))).wr W43 (Or.inl (List.mem_of_getElem? (i := 1) rfl))).wr W46 (Or.inl (List.mem_of_getElem? (i := 1) rfl))).wr W49 (Or.inl (List.mem_of_getElem? (i := 1) rfl))), ⟨f52, f53, f54, f55, f56, f57, f58⟩, ⟨f59, f60, f61, f62, f63, f64, F49, f65⟩, ⟨f66, f50, f67⟩, ⟨f68, f69, f70, f71, f72, f73, f74, f75⟩⟩

def Q_remPy (Z : State) (a : Addr) (q : Int64) (sd : Addr) (rk : Addr) (la : Addr) (up : Addr) (qy : Int64) (o : Addr) (t : Int64) (kr : ClassId) (kl : ClassId) (rs : List Int64) (As : List Addr) (i : Nat) (y : Addr) (yq : Int64) (ypv : Value) (yro : Value) (f0 : Addr) (l0 : Addr) (oro : Value) (ba : Addr) (h0 : Heap) (n0 : Nat) (v : Option Value) (h : Heap) (L : List Loc) : Prop := v = none ∧ Fr n0 L ∧ Keep h0 h [a, o, (As.getD i 0), y] ∧ own_BB Z h a rk la up sd (Int32.ofNat rs.length) (qy - (1 : Int64)) ∧ own_OO Z h o q .null .null .null ∧ own_LL Z h (As.getD i 0) (.ref f0) (.ref y) ∧ own_OO Z h y yq ypv .null yro
set_option maxRecDepth 65536 in
set_option maxHeartbeats 40000000 in
theorem rm_remPy (l : Launch) (Z : State) (a0 : Array Value) (hw : ∀ d ∈ tables_1, d.before a0 Z = true) (ws : List Jvm.Cond) (a : Addr) (q : Int64) (sd : Addr) (rk : Addr) (la : Addr) (up : Addr) (qy : Int64) (o : Addr) (t : Int64) (kr : ClassId) (kl : ClassId) (rs : List Int64) (As : List Addr) (i : Nat) (y : Addr) (yq : Int64) (ypv : Value) (yro : Value) (f0 : Addr) (l0 : Addr) (oro : Value) (ba : Addr) (h0 : Heap) (n0 : Nat) (Z0 : n0 ≤ h0.size) (SB : Sta Z Z.heap "com/example/tidegate/tidegate/engine/Side" "BUY" "Lcom/example/tidegate/tidegate/engine/Side;" (.ref ba)) (OLD : Old Z n0 h0) (BBp : own_BB Z h0 a rk la up sd (Int32.ofNat rs.length) qy) (ORp : own_OO Z h0 o q (.ref y) .null oro) (ga : n0 ≤ a) (go : n0 ≤ o) (hq : ¬ q = (-9223372036854775808 : Int64)) (LLp : own_LL Z h0 (As.getD i 0) (.ref f0) (.ref l0)) (glv : n0 ≤ (As.getD i 0)) (YRp : own_OO Z h0 y yq ypv (.ref o) yro) (gy : n0 ≤ y) (noy : o ≠ y) (ARp : own_AR Z h0 rk la kr kl rs As) (ht : t = if sd = ba then q else -q) (hi : i < rs.length) (hix : own_gix rs t = Int32.ofNat i) :
  MetFree l (⟨"com/example/tidegate/tidegate/engine/BookSide", "remove", "(Lcom/example/tidegate/tidegate/engine/Order;)V"⟩ : MethodName) (head1 (Jvm.Cond.code (⟨"com/example/tidegate/tidegate/engine/BookSide", "remove", "(Lcom/example/tidegate/tidegate/engine/Order;)V"⟩ : MethodName) prog_2_method_10_code 4 none :: ws) ({ frames := 6, cells := 0, slots := 0, locals := 139 } : Room)) (fun aa_ U => aa_ = #[(.ref a), (.ref o)] ∧ Z.Warmed39 U.vm ∧ U.heap = h0) (fun _ _ _ _ _ => True) (fun _ U o_ U' => RetG U (Q_remPy Z a q sd rk la up qy o t kr kl rs As i y yq ypv yro f0 l0 oro ba h0 n0) 0 0 U' o_) := by
 refine MetFree.of_bodySF (plainFor_of_name own_pn1) hisR ?_
 intro p e s m args below meth c_ s₁ Bd hml0 hP hK
 obtain ⟨rfl, hZ, hh⟩ := hP
 have hx := Bd.exec
 have hby := Bd.bytes
 have hml : c_.maxLocals = 4 := hml0
 have hown : s.vm.findClass "com/example/tidegate/tidegate/engine/BookSide" = some m.cls := findClass_of_methodNamed Bd.named
 have hnm := (name_of_methodNamed Bd.named Bd.method).1
 have X0 : Stand p l e ({ frames := 6, cells := 0, slots := 0, locals := 139 } : Room) s m #[(.ref a), (.ref o)] below meth c_ s₁ [] 0 0 := Stand.of_body Bd
 have e0 : s₁.heap = h0 := by rw [← hh, Bd.state]; rfl
 have N0 := Fr.nil n0
 have w9_ := hw _ (List.mem_of_getElem? (i := 9) rfl)
 have w10_ := hw _ (List.mem_of_getElem? (i := 10) rfl)
 have w19_ := hw _ (List.mem_of_getElem? (i := 19) rfl)
 have w22_ := hw _ (List.mem_of_getElem? (i := 22) rfl)
 have w23_ := hw _ (List.mem_of_getElem? (i := 23) rfl)
 have w24_ := hw _ (List.mem_of_getElem? (i := 24) rfl)
 have w34_ := hw _ (List.mem_of_getElem? (i := 34) rfl)
 have w36_ := hw _ (List.mem_of_getElem? (i := 36) rfl)
 have w38_ := hw _ (List.mem_of_getElem? (i := 38) rfl)
 have w39_ := hw _ (List.mem_of_getElem? (i := 39) rfl)
 have w55_ := hw _ (List.mem_of_getElem? (i := 55) rfl)
 have w57_ := hw _ (List.mem_of_getElem? (i := 57) rfl)
 have w59_ := hw _ (List.mem_of_getElem? (i := 59) rfl)
 have w65_ := hw _ (List.mem_of_getElem? (i := 65) rfl)
 have w66_ := hw _ (List.mem_of_getElem? (i := 66) rfl)
 have w68_ := hw _ (List.mem_of_getElem? (i := 68) rfl)
 have w77_ := hw _ (List.mem_of_getElem? (i := 77) rfl)
 have w78_ := hw _ (List.mem_of_getElem? (i := 78) rfl)
 have w79_ := hw _ (List.mem_of_getElem? (i := 79) rfl)
 have w80_ := hw _ (List.mem_of_getElem? (i := 80) rfl)
 have w81_ := hw _ (List.mem_of_getElem? (i := 81) rfl)
 have w82_ := hw _ (List.mem_of_getElem? (i := 82) rfl)
 have w83_ := hw _ (List.mem_of_getElem? (i := 83) rfl)
 have w93_ := hw _ (List.mem_of_getElem? (i := 93) rfl)
 have w94_ := hw _ (List.mem_of_getElem? (i := 94) rfl)
 have w95_ := hw _ (List.mem_of_getElem? (i := 95) rfl)
 have w96_ := hw _ (List.mem_of_getElem? (i := 96) rfl)
 have w97_ := hw _ (List.mem_of_getElem? (i := 97) rfl)
 have w98_ := hw _ (List.mem_of_getElem? (i := 98) rfl)
 have w100_ := hw _ (List.mem_of_getElem? (i := 100) rfl)
 have w101_ := hw _ (List.mem_of_getElem? (i := 101) rfl)
 have w102_ := hw _ (List.mem_of_getElem? (i := 102) rfl)
 have w103_ := hw _ (List.mem_of_getElem? (i := 103) rfl)
 have w104_ := hw _ (List.mem_of_getElem? (i := 104) rfl)
 have w109_ := hw _ (List.mem_of_getElem? (i := 109) rfl)
 have w110_ := hw _ (List.mem_of_getElem? (i := 110) rfl)
 have w111_ := hw _ (List.mem_of_getElem? (i := 111) rfl)
 have w112_ := hw _ (List.mem_of_getElem? (i := 112) rfl)
 have w136_ := hw _ (List.mem_of_getElem? (i := 136) rfl)
 have w137_ := hw _ (List.mem_of_getElem? (i := 137) rfl)
 have w138_ := hw _ (List.mem_of_getElem? (i := 138) rfl)
 have w139_ := hw _ (List.mem_of_getElem? (i := 139) rfl)
 have w140_ := hw _ (List.mem_of_getElem? (i := 140) rfl)
 have w141_ := hw _ (List.mem_of_getElem? (i := 141) rfl)
 have w142_ := hw _ (List.mem_of_getElem? (i := 142) rfl)
 have w143_ := hw _ (List.mem_of_getElem? (i := 143) rfl)
 obtain ⟨EB, FR, FL, FU, FS, FN, FQ⟩ := BBp
 obtain ⟨oE, o1, o2, o3, o4, o5, o6, o7⟩ := ORp
 obtain ⟨lE, lF, lL⟩ := LLp
 obtain ⟨yE, y1, y2, y3, y4, y5, y6, y7⟩ := YRp
 obtain ⟨⟨vs, VR, hvl, gr⟩, ⟨wl, VL, hwl, gl⟩, hra, hl3⟩ := ARp
 show Go p e below (RetG s (Q_remPy Z a q sd rk la up qy o t kr kl rs As i y yq ypv yro f0 l0 oro ba h0 n0) 0 0) (s₁.setTop (entryFrame m #[(.ref a), (.ref o)] 4))
 rw [show entryFrame m #[(.ref a), (.ref o)] 4 = mkF m 0 #[.val (.ref a), .val (.ref o), .unset, .unset] [] from by first | (simp [entryFrame, mkF, argsToLocals, Value.category]; done) | rfl]
 refine g_aloadN X0 hx hby d20_0 rfl rfl ?_
 refine g_dup X0 hx hby d20_1 rfl ?_
 refine g_getF X0 hx hby hZ hown (host := "") (Or.inl w77_) Via.refl e0 FQ d20_2 (fun T1 X1 e1 => ?_)
 refine g_aloadN X1 hx hby d20_5 rfl rfl ?_
 refine g_virtual X1 hx hby hZ hown (rm_grem l Z a0 hw [] o (1 : Int64) h0 n0 Z0 o3) w79_ w80_ (notFace_of_selects (args := #[]) (mvT hZ w82_)) w82_ w81_ w39_ w83_ (by decide) e1 oE (by rw [hml]; rfl) [] (lenOf own_pd7 rfl) rfl rfl (Nat.le_of_ble_eq_true rfl) (Nat.le_of_ble_eq_true rfl) (Nat.le_of_ble_eq_true rfl) (Nat.le_of_ble_eq_true rfl) d20_6 (fun v2 T2 L2 X2 hQ2 => ?_)
 obtain ⟨rfl, N2q, eh2⟩ := hQ2
 have N2 := Fr.app N0 N2q
 refine g_lsub X2 hx hby d20_9 ?_
 refine g_putF X2 hx hby hZ hown (host := "") (Or.inl w77_) Via.refl eh2 FQ EB (Or.inl w78_) w9_ .long (by decide) rfl rfl N2 ga d20_10 (fun T3 h3 X3 e3 W3 F3 N3 => ?_)
 refine g_aloadN X3 hx hby d20_13 rfl rfl ?_
 have ne5 : o ≠ a := (Exa.ne oE EB (by decide))
 have f6 := (o1.other W3 (Or.inl ne5))
 have z7 := (Nat.le_trans Z0 (Keep.of_wr W3).1)
 have f8 := (oE.wr W3)
 refine g_virtual X3 hx hby hZ hown (rm_hasp l Z a0 hw [] o q h3 n0 z7 f6) w94_ w95_ (notFace_of_selects (args := #[]) (mvT hZ w97_)) w97_ w96_ w39_ w98_ (by decide) e3 f8 (by rw [hml]; rfl) [] (lenOf own_pd9 rfl) rfl rfl (Nat.le_of_ble_eq_true rfl) (Nat.le_of_ble_eq_true rfl) (Nat.le_of_ble_eq_true rfl) (Nat.le_of_ble_eq_true rfl) d20_14 (fun v4 T4 L4 X4 hQ4 => ?_)
 obtain ⟨rfl, N4q, eh4⟩ := hQ4
 have N4 := Fr.app N3 N4q
 refine g_topI (T := T4) (1 : Int32) (if_neg hq) ?_
 refine g_ifN X4 hx hby d20_17 (feq (by decide : ¬ ((1 : Int32) = (0 : Int32)))).1 ?_
 refine g_aloadN X4 hx hby d20_20 rfl rfl ?_
 refine g_aloadN X4 hx hby d20_21 rfl rfl ?_
 refine g_virtual X4 hx hby hZ hown (rm_gpri l Z a0 hw [] o q h3 n0 z7 f6) w100_ w101_ (notFace_of_selects (args := #[]) (mvT hZ w103_)) w103_ w102_ w39_ w104_ (by decide) eh4 f8 (by rw [hml]; rfl) [] (lenOf own_pd7 rfl) rfl rfl (Nat.le_of_ble_eq_true rfl) (Nat.le_of_ble_eq_true rfl) (Nat.le_of_ble_eq_true rfl) (Nat.le_of_ble_eq_true rfl) d20_22 (fun v9 T9 L9 X9 hQ9 => ?_)
 obtain ⟨rfl, N9q, eh9⟩ := hQ9
 have N9 := Fr.app N4 N9q
 refine g_at 25 rfl rfl rfl ?_
 have f11 := (OLD.wr W3 ga)
 have f12 := (EB.wr W3)
 have f13 := (FS.other W3 (Or.inr (slot_ne (Or.inr w36_) (Or.inl w78_) (by decide) (t := (.object "com/example/tidegate/tidegate/engine/Side")) (t' := .long) (by decide) (by decide))))
 have f14 := (FR.other W3 (Or.inr (slot_ne (Or.inl w19_) (Or.inl w78_) (by decide) (t := (.array .long)) (t' := .long) (by decide) (by decide))))
 have f15 := (FN.other W3 (Or.inr (slot_ne (Or.inl w68_) (Or.inl w78_) (by decide) (t := .int) (t' := .long) (by decide) (by decide))))
 have ne16 : rk ≠ a := (Ne.symm (Exa.neArv EB VR w9_))
 have f17 := (VR.other W3 ne16)
 refine g_private X9 hx hby hZ hown (rm_idxG l Z a0 hw [] a q sd t rk kr vs rs ba h3 n0 z7 SB f11 f12 f13 f14 f15 ht f17 gr hl3) w109_ w110_ w9_ w111_ w10_ w112_ (by decide) eh9 f12 (by rw [hml]; rfl) [(.long q)] (lenOf own_pd6 rfl) rfl rfl (Nat.le_of_ble_eq_true rfl) (Nat.le_of_ble_eq_true rfl) (Nat.le_of_ble_eq_true rfl) (Nat.le_of_ble_eq_true rfl) d20_25 (fun v10 T10 L10 X10 hQ10 => ?_)
 obtain ⟨rfl, N10q, eh10⟩ := hQ10
 have N10 := Fr.app N9 N10q
 refine g_topI (T := T10) (Int32.ofNat i) hix ?_
 refine g_goto X10 hx hby 32 d20_28 (by decide) (by decide) ?_
 refine g_istoreN X10 hx hby d20_32 (l' := #[.val (.ref a), .val (.ref o), .val (.int (Int32.ofNat i)), .unset]) rfl ?_
 refine g_iloadN X10 hx hby d20_33 rfl ?_
 refine g_ifY X10 hx hby 44 d20_34 (flt ((own_nneg (by omega)) : ¬ ((Int32.ofNat i) < (0 : Int32)))).2.1 (by decide) (by decide) ?_
 refine g_aloadN X10 hx hby d20_44 rfl rfl ?_
 have f18 := (FL.other W3 (Or.inr (slot_ne (Or.inl w23_) (Or.inl w78_) (by decide) (t := (.array (.object "com/example/tidegate/tidegate/engine/BookSide$Level"))) (t' := .long) (by decide) (by decide))))
 refine g_getF X10 hx hby hZ hown (host := "") (Or.inl w22_) Via.refl eh10 f18 d20_45 (fun T19 X19 e19 => ?_)
 refine g_iloadN X19 hx hby d20_48 rfl ?_
 have ne20 : la ≠ a := (Ne.symm (Exa.neArv EB VL w9_))
 have f21 := (VL.other W3 ne20)
 refine g_aaload X19 hx hby hZ e19 f21 rfl (.ref (As.getD i 0)) (own_in2 (by omega)) (by rw [own_tn2 (by omega)]; exact gl i (by omega)) d20_49 ?_
 refine g_astoreN X19 hx hby d20_50 rfl (l' := #[.val (.ref a), .val (.ref o), .val (.int (Int32.ofNat i)), .val (.ref (As.getD i 0))]) rfl ?_
 refine g_aloadN X19 hx hby d20_51 rfl rfl ?_
 have f22 := (o5.other W3 (Or.inl ne5))
 refine g_getF X19 hx hby hZ hown (host := "") (Or.inl w140_) Via.refl e19 f22 d20_52 (fun T23 X23 e23 => ?_)
 refine g_ifnonnullY X23 hx hby 69 d20_55 (by decide) (by decide) ?_
 refine g_aloadN X23 hx hby d20_69 rfl rfl ?_
 refine g_getF X23 hx hby hZ hown (host := "") (Or.inl w140_) Via.refl e23 f22 d20_70 (fun T24 X24 e24 => ?_)
 refine g_aloadN X24 hx hby d20_73 rfl rfl ?_
 have f25 := (o6.other W3 (Or.inl ne5))
 refine g_getF X24 hx hby hZ hown (host := "") (Or.inl w142_) Via.refl e24 f25 d20_74 (fun T26 X26 e26 => ?_)
 have f27 := (yE.wr W3)
 have ne28 : y ≠ a := (Exa.ne yE EB (by decide))
 have f29 := (y6.other W3 (Or.inl ne28))
 refine g_putF X26 hx hby hZ hown (host := "") (Or.inl w142_) Via.refl e26 f29 f27 (Or.inl w143_) w38_ (.object "com/example/tidegate/tidegate/engine/Order") (by decide) rfl rfl N10 gy d20_77 (fun T30 h30 X30 e30 W30 F30 N30 => ?_)
 refine g_aloadN X30 hx hby d20_80 rfl rfl ?_
 have f31 := (f25.other W30 (Or.inl noy))
 refine g_getF X30 hx hby hZ hown (host := "") (Or.inl w142_) Via.refl e30 f31 d20_81 (fun T32 X32 e32 => ?_)
 refine g_ifnonnullN X32 hx hby d20_84 ?_
 refine g_aloadN X32 hx hby d20_87 rfl rfl ?_
 refine g_aloadN X32 hx hby d20_88 rfl rfl ?_
 have f33 := (f22.other W30 (Or.inl noy))
 refine g_getF X32 hx hby hZ hown (host := "") (Or.inl w140_) Via.refl e32 f33 d20_89 (fun T34 X34 e34 => ?_)
 have f35 := ((lE.wr W3).wr W30)
 have ne36 : (As.getD i 0) ≠ a := (Exa.ne lE EB (by decide))
 have ne37 : (As.getD i 0) ≠ y := (Exa.ne lE yE (by decide))
 have f38 := ((lL.other W3 (Or.inl ne36)).other W30 (Or.inl ne37))
 refine g_putFR X34 hx hby hZ hown w138_ e34 f38 f35 w139_ w24_ (.object "com/example/tidegate/tidegate/engine/Order") (by decide) rfl rfl N30 glv d20_92 (fun T39 h39 X39 e39 W39 F39 N39 => ?_)
 refine g_goto X39 hx hby 109 d20_95 (by decide) (by decide) ?_
 refine g_aloadN X39 hx hby d20_109 rfl rfl ?_
 refine g_aconst_null X39 hx hby d20_110 ?_
 have f40 := ((f8.wr W30).wr W39)
 have ne41 : o ≠ (As.getD i 0) := (Exa.ne oE lE (by decide))
 have f42 := (((o7.other W3 (Or.inl ne5)).other W30 (Or.inl noy)).other W39 (Or.inl ne41))
 refine g_putF X39 hx hby hZ hown (host := "") (Or.inl w136_) Via.refl e39 f42 f40 (Or.inl w137_) w38_ (.object "com/example/tidegate/tidegate/engine/BookSide") (by decide) rfl rfl N39 go d20_111 (fun T43 h43 X43 e43 W43 F43 N43 => ?_)
 refine g_aloadN X43 hx hby d20_114 rfl rfl ?_
 refine g_aconst_null X43 hx hby d20_115 ?_
 have f44 := (f40.wr W43)
 have f45 := ((f33.other W39 (Or.inl ne41)).other W43 (Or.inr (slot_ne (Or.inl w141_) (Or.inl w137_) (by decide) (t := (.object "com/example/tidegate/tidegate/engine/Order")) (t' := (.object "com/example/tidegate/tidegate/engine/BookSide")) (by decide) (by decide))))
 refine g_putF X43 hx hby hZ hown (host := "") (Or.inl w140_) Via.refl e43 f45 f44 (Or.inl w141_) w38_ (.object "com/example/tidegate/tidegate/engine/Order") (by decide) rfl rfl N43 go d20_116 (fun T46 h46 X46 e46 W46 F46 N46 => ?_)
 refine g_aloadN X46 hx hby d20_119 rfl rfl ?_
 refine g_aconst_null X46 hx hby d20_120 ?_
 have f47 := (f44.wr W46)
 have f48 := (((f31.other W39 (Or.inl ne41)).other W43 (Or.inr (slot_ne (Or.inl w143_) (Or.inl w137_) (by decide) (t := (.object "com/example/tidegate/tidegate/engine/Order")) (t' := (.object "com/example/tidegate/tidegate/engine/BookSide")) (by decide) (by decide)))).other W46 (Or.inr (slot_ne (Or.inl w143_) (Or.inl w141_) (by decide) (t := (.object "com/example/tidegate/tidegate/engine/Order")) (t' := (.object "com/example/tidegate/tidegate/engine/Order")) (by decide) (by decide))))
 refine g_putF X46 hx hby hZ hown (host := "") (Or.inl w142_) Via.refl e46 f48 f47 (Or.inl w143_) w38_ (.object "com/example/tidegate/tidegate/engine/Order") (by decide) rfl rfl N46 go d20_121 (fun T49 h49 X49 e49 W49 F49 N49 => ?_)
 refine g_aloadN X49 hx hby d20_124 rfl rfl ?_
 have f50 := ((((((lF.other W3 (Or.inl ne36)).other W30 (Or.inl ne37)).other W39 (Or.inr (slot_ne (Or.inl w66_) (Or.inl w139_) (by decide) (t := (.object "com/example/tidegate/tidegate/engine/Order")) (t' := (.object "com/example/tidegate/tidegate/engine/Order")) (by decide) (by decide)))).other W43 (Or.inl (Ne.symm ne41))).other W46 (Or.inl (Ne.symm ne41))).other W49 (Or.inl (Ne.symm ne41)))
 refine g_getFR X49 hx hby hZ hown w65_ e49 f50 d20_125 (fun T51 X51 e51 => ?_)
 refine g_ifnonnullY X51 hx hby 197 d20_128 (by decide) (by decide) ?_
 have f52 := (((((f12.wr W30).wr W39).wr W43).wr W46).wr W49)
 have f53 := (((((f14.other W30 (Or.inl (Ne.symm ne28))).other W39 (Or.inl (Ne.symm ne36))).other W43 (Or.inl (Ne.symm ne5))).other W46 (Or.inl (Ne.symm ne5))).other W49 (Or.inl (Ne.symm ne5)))
 have f54 := (((((f18.other W30 (Or.inl (Ne.symm ne28))).other W39 (Or.inl (Ne.symm ne36))).other W43 (Or.inl (Ne.symm ne5))).other W46 (Or.inl (Ne.symm ne5))).other W49 (Or.inl (Ne.symm ne5)))
 have f55 := ((((((FU.other W3 (Or.inr (slot_ne (Or.inr w34_) (Or.inl w78_) (by decide) (t := (.object "com/example/tidegate/tidegate/engine/BookSide$Level")) (t' := .long) (by decide) (by decide)))).other W30 (Or.inl (Ne.symm ne28))).other W39 (Or.inl (Ne.symm ne36))).other W43 (Or.inl (Ne.symm ne5))).other W46 (Or.inl (Ne.symm ne5))).other W49 (Or.inl (Ne.symm ne5)))
 have f56 := (((((f13.other W30 (Or.inl (Ne.symm ne28))).other W39 (Or.inl (Ne.symm ne36))).other W43 (Or.inl (Ne.symm ne5))).other W46 (Or.inl (Ne.symm ne5))).other W49 (Or.inl (Ne.symm ne5)))
 have f57 := (((((f15.other W30 (Or.inl (Ne.symm ne28))).other W39 (Or.inl (Ne.symm ne36))).other W43 (Or.inl (Ne.symm ne5))).other W46 (Or.inl (Ne.symm ne5))).other W49 (Or.inl (Ne.symm ne5)))
 have f58 := (((((F3.other W30 (Or.inl (Ne.symm ne28))).other W39 (Or.inl (Ne.symm ne36))).other W43 (Or.inl (Ne.symm ne5))).other W46 (Or.inl (Ne.symm ne5))).other W49 (Or.inl (Ne.symm ne5)))
 have f59 := (f47.wr W49)
 have f60 := (((((f6.other W30 (Or.inl noy)).other W39 (Or.inl ne41)).other W43 (Or.inr (slot_ne (Or.inl w55_) (Or.inl w137_) (by decide) (t := .long) (t' := (.object "com/example/tidegate/tidegate/engine/BookSide")) (by decide) (by decide)))).other W46 (Or.inr (slot_ne (Or.inl w55_) (Or.inl w141_) (by decide) (t := .long) (t' := (.object "com/example/tidegate/tidegate/engine/Order")) (by decide) (by decide)))).other W49 (Or.inr (slot_ne (Or.inl w55_) (Or.inl w143_) (by decide) (t := .long) (t' := (.object "com/example/tidegate/tidegate/engine/Order")) (by decide) (by decide))))
 have f61 := ((((((o2.other W3 (Or.inl ne5)).other W30 (Or.inl noy)).other W39 (Or.inl ne41)).other W43 (Or.inr (slot_ne (Or.inr w57_) (Or.inl w137_) (by decide) (t := .long) (t' := (.object "com/example/tidegate/tidegate/engine/BookSide")) (by decide) (by decide)))).other W46 (Or.inr (slot_ne (Or.inr w57_) (Or.inl w141_) (by decide) (t := .long) (t' := (.object "com/example/tidegate/tidegate/engine/Order")) (by decide) (by decide)))).other W49 (Or.inr (slot_ne (Or.inr w57_) (Or.inl w143_) (by decide) (t := .long) (t' := (.object "com/example/tidegate/tidegate/engine/Order")) (by decide) (by decide))))
 have f62 := ((((((o3.other W3 (Or.inl ne5)).other W30 (Or.inl noy)).other W39 (Or.inl ne41)).other W43 (Or.inr (slot_ne (Or.inl w59_) (Or.inl w137_) (by decide) (t := .long) (t' := (.object "com/example/tidegate/tidegate/engine/BookSide")) (by decide) (by decide)))).other W46 (Or.inr (slot_ne (Or.inl w59_) (Or.inl w141_) (by decide) (t := .long) (t' := (.object "com/example/tidegate/tidegate/engine/Order")) (by decide) (by decide)))).other W49 (Or.inr (slot_ne (Or.inl w59_) (Or.inl w143_) (by decide) (t := .long) (t' := (.object "com/example/tidegate/tidegate/engine/Order")) (by decide) (by decide))))
 have f63 := ((((((o4.other W3 (Or.inl ne5)).other W30 (Or.inl noy)).other W39 (Or.inl ne41)).other W43 (Or.inr (slot_ne (Or.inl w93_) (Or.inl w137_) (by decide) (t := .long) (t' := (.object "com/example/tidegate/tidegate/engine/BookSide")) (by decide) (by decide)))).other W46 (Or.inr (slot_ne (Or.inl w93_) (Or.inl w141_) (by decide) (t := .long) (t' := (.object "com/example/tidegate/tidegate/engine/Order")) (by decide) (by decide)))).other W49 (Or.inr (slot_ne (Or.inl w93_) (Or.inl w143_) (by decide) (t := .long) (t' := (.object "com/example/tidegate/tidegate/engine/Order")) (by decide) (by decide))))
 have f64 := (F46.other W49 (Or.inr (slot_ne (Or.inl w141_) (Or.inl w143_) (by decide) (t := (.object "com/example/tidegate/tidegate/engine/Order")) (t' := (.object "com/example/tidegate/tidegate/engine/Order")) (by decide) (by decide))))
 have f65 := ((F43.other W46 (Or.inr (slot_ne (Or.inl w137_) (Or.inl w141_) (by decide) (t := (.object "com/example/tidegate/tidegate/engine/BookSide")) (t' := (.object "com/example/tidegate/tidegate/engine/Order")) (by decide) (by decide)))).other W49 (Or.inr (slot_ne (Or.inl w137_) (Or.inl w143_) (by decide) (t := (.object "com/example/tidegate/tidegate/engine/BookSide")) (t' := (.object "com/example/tidegate/tidegate/engine/Order")) (by decide) (by decide))))
 have f66 := ((((f35.wr W39).wr W43).wr W46).wr W49)
 have f67 := (((F39.other W43 (Or.inl (Ne.symm ne41))).other W46 (Or.inl (Ne.symm ne41))).other W49 (Or.inl (Ne.symm ne41)))
 have f68 := (((((f27.wr W30).wr W39).wr W43).wr W46).wr W49)
 have f69 := ((((((y1.other W3 (Or.inl ne28)).other W30 (Or.inr (slot_ne (Or.inl w55_) (Or.inl w143_) (by decide) (t := .long) (t' := (.object "com/example/tidegate/tidegate/engine/Order")) (by decide) (by decide)))).other W39 (Or.inl (Ne.symm ne37))).other W43 (Or.inl (Ne.symm noy))).other W46 (Or.inl (Ne.symm noy))).other W49 (Or.inl (Ne.symm noy)))
 have f70 := ((((((y2.other W3 (Or.inl ne28)).other W30 (Or.inr (slot_ne (Or.inr w57_) (Or.inl w143_) (by decide) (t := .long) (t' := (.object "com/example/tidegate/tidegate/engine/Order")) (by decide) (by decide)))).other W39 (Or.inl (Ne.symm ne37))).other W43 (Or.inl (Ne.symm noy))).other W46 (Or.inl (Ne.symm noy))).other W49 (Or.inl (Ne.symm noy)))
 have f71 := ((((((y3.other W3 (Or.inl ne28)).other W30 (Or.inr (slot_ne (Or.inl w59_) (Or.inl w143_) (by decide) (t := .long) (t' := (.object "com/example/tidegate/tidegate/engine/Order")) (by decide) (by decide)))).other W39 (Or.inl (Ne.symm ne37))).other W43 (Or.inl (Ne.symm noy))).other W46 (Or.inl (Ne.symm noy))).other W49 (Or.inl (Ne.symm noy)))
 have f72 := ((((((y4.other W3 (Or.inl ne28)).other W30 (Or.inr (slot_ne (Or.inl w93_) (Or.inl w143_) (by decide) (t := .long) (t' := (.object "com/example/tidegate/tidegate/engine/Order")) (by decide) (by decide)))).other W39 (Or.inl (Ne.symm ne37))).other W43 (Or.inl (Ne.symm noy))).other W46 (Or.inl (Ne.symm noy))).other W49 (Or.inl (Ne.symm noy)))
 have f73 := ((((((y5.other W3 (Or.inl ne28)).other W30 (Or.inr (slot_ne (Or.inl w141_) (Or.inl w143_) (by decide) (t := (.object "com/example/tidegate/tidegate/engine/Order")) (t' := (.object "com/example/tidegate/tidegate/engine/Order")) (by decide) (by decide)))).other W39 (Or.inl (Ne.symm ne37))).other W43 (Or.inl (Ne.symm noy))).other W46 (Or.inl (Ne.symm noy))).other W49 (Or.inl (Ne.symm noy)))
 have f74 := ((((F30.other W39 (Or.inl (Ne.symm ne37))).other W43 (Or.inl (Ne.symm noy))).other W46 (Or.inl (Ne.symm noy))).other W49 (Or.inl (Ne.symm noy)))
 have f75 := ((((((y7.other W3 (Or.inl ne28)).other W30 (Or.inr (slot_ne (Or.inl w137_) (Or.inl w143_) (by decide) (t := (.object "com/example/tidegate/tidegate/engine/BookSide")) (t' := (.object "com/example/tidegate/tidegate/engine/Order")) (by decide) (by decide)))).other W39 (Or.inl (Ne.symm ne37))).other W43 (Or.inl (Ne.symm noy))).other W46 (Or.inl (Ne.symm noy))).other W49 (Or.inl (Ne.symm noy)))
 refine g_ret X51 hx hby Bd.returns Bd.notSynchronized d20_197 e51 (by decide) (by decide) ?_
 show (Q_remPy Z a q sd rk la up qy o t kr kl rs As i y yq ypv yro f0 l0 oro ba h0 n0) none _ _
 exact ⟨rfl, N49, (((((((Keep.refl h0 [a, o, (As.getD i 0), y]).wr W3 (Or.inl (List.mem_of_getElem? (i := 0) rfl))).wr W30 (Or.inl (List.mem_of_getElem? (i := 3) rfl))).wr W39 (Or.inl (List.mem_of_getElem? (i := 2) rfl))).wr W43 (Or.inl (List.mem_of_getElem? (i := 1) rfl))).wr W46 (Or.inl (List.mem_of_getElem? (i := 1) rfl))).wr W49 (Or.inl (List.mem_of_getElem? (i := 1) rfl))), ⟨f52, f53, f54, f55, f56, f57, f58⟩, ⟨f59, f60, f61, f62, f63, f64, F49, f65⟩, ⟨f66, f50, f67⟩, ⟨f68, f69, f70, f71, f72, f73, f74, f75⟩⟩

def Q_remPyx (Z : State) (a : Addr) (q : Int64) (sd : Addr) (rk : Addr) (la : Addr) (up : Addr) (qy : Int64) (o : Addr) (t : Int64) (kr : ClassId) (kl : ClassId) (rs : List Int64) (As : List Addr) (i : Nat) (y : Addr) (yq : Int64) (ypv : Value) (yro : Value) (x : Addr) (xq : Int64) (xnx : Value) (xro : Value) (f0 : Addr) (l0 : Addr) (oro : Value) (ba : Addr) (h0 : Heap) (n0 : Nat) (v : Option Value) (h : Heap) (L : List Loc) : Prop := v = none ∧ Fr n0 L ∧ Keep h0 h [a, o, (As.getD i 0), y, x] ∧ own_BB Z h a rk la up sd (Int32.ofNat rs.length) (qy - (1 : Int64)) ∧ own_OO Z h o q .null .null .null ∧ own_LL Z h (As.getD i 0) (.ref f0) (.ref l0) ∧ own_OO Z h y yq ypv (.ref x) yro ∧ own_OO Z h x xq (.ref y) xnx xro
set_option maxRecDepth 65536 in
set_option maxHeartbeats 40000000 in
theorem rm_remPyx (l : Launch) (Z : State) (a0 : Array Value) (hw : ∀ d ∈ tables_1, d.before a0 Z = true) (ws : List Jvm.Cond) (a : Addr) (q : Int64) (sd : Addr) (rk : Addr) (la : Addr) (up : Addr) (qy : Int64) (o : Addr) (t : Int64) (kr : ClassId) (kl : ClassId) (rs : List Int64) (As : List Addr) (i : Nat) (y : Addr) (yq : Int64) (ypv : Value) (yro : Value) (x : Addr) (xq : Int64) (xnx : Value) (xro : Value) (f0 : Addr) (l0 : Addr) (oro : Value) (ba : Addr) (h0 : Heap) (n0 : Nat) (Z0 : n0 ≤ h0.size) (SB : Sta Z Z.heap "com/example/tidegate/tidegate/engine/Side" "BUY" "Lcom/example/tidegate/tidegate/engine/Side;" (.ref ba)) (OLD : Old Z n0 h0) (BBp : own_BB Z h0 a rk la up sd (Int32.ofNat rs.length) qy) (ORp : own_OO Z h0 o q (.ref y) (.ref x) oro) (ga : n0 ≤ a) (go : n0 ≤ o) (hq : ¬ q = (-9223372036854775808 : Int64)) (LLp : own_LL Z h0 (As.getD i 0) (.ref f0) (.ref l0)) (glv : n0 ≤ (As.getD i 0)) (YRp : own_OO Z h0 y yq ypv (.ref o) yro) (gy : n0 ≤ y) (noy : o ≠ y) (XRp : own_OO Z h0 x xq (.ref o) xnx xro) (gx : n0 ≤ x) (nox : o ≠ x) (nyx : y ≠ x) (ARp : own_AR Z h0 rk la kr kl rs As) (ht : t = if sd = ba then q else -q) (hi : i < rs.length) (hix : own_gix rs t = Int32.ofNat i) :
  MetFree l (⟨"com/example/tidegate/tidegate/engine/BookSide", "remove", "(Lcom/example/tidegate/tidegate/engine/Order;)V"⟩ : MethodName) (head1 (Jvm.Cond.code (⟨"com/example/tidegate/tidegate/engine/BookSide", "remove", "(Lcom/example/tidegate/tidegate/engine/Order;)V"⟩ : MethodName) prog_2_method_10_code 4 none :: ws) ({ frames := 6, cells := 0, slots := 0, locals := 139 } : Room)) (fun aa_ U => aa_ = #[(.ref a), (.ref o)] ∧ Z.Warmed39 U.vm ∧ U.heap = h0) (fun _ _ _ _ _ => True) (fun _ U o_ U' => RetG U (Q_remPyx Z a q sd rk la up qy o t kr kl rs As i y yq ypv yro x xq xnx xro f0 l0 oro ba h0 n0) 0 0 U' o_) := by
 refine MetFree.of_bodySF (plainFor_of_name own_pn1) hisR ?_
 intro p e s m args below meth c_ s₁ Bd hml0 hP hK
 obtain ⟨rfl, hZ, hh⟩ := hP
 have hx := Bd.exec
 have hby := Bd.bytes
 have hml : c_.maxLocals = 4 := hml0
 have hown : s.vm.findClass "com/example/tidegate/tidegate/engine/BookSide" = some m.cls := findClass_of_methodNamed Bd.named
 have hnm := (name_of_methodNamed Bd.named Bd.method).1
 have X0 : Stand p l e ({ frames := 6, cells := 0, slots := 0, locals := 139 } : Room) s m #[(.ref a), (.ref o)] below meth c_ s₁ [] 0 0 := Stand.of_body Bd
 have e0 : s₁.heap = h0 := by rw [← hh, Bd.state]; rfl
 have N0 := Fr.nil n0
 have w9_ := hw _ (List.mem_of_getElem? (i := 9) rfl)
 have w10_ := hw _ (List.mem_of_getElem? (i := 10) rfl)
 have w19_ := hw _ (List.mem_of_getElem? (i := 19) rfl)
 have w22_ := hw _ (List.mem_of_getElem? (i := 22) rfl)
 have w23_ := hw _ (List.mem_of_getElem? (i := 23) rfl)
 have w34_ := hw _ (List.mem_of_getElem? (i := 34) rfl)
 have w36_ := hw _ (List.mem_of_getElem? (i := 36) rfl)
 have w38_ := hw _ (List.mem_of_getElem? (i := 38) rfl)
 have w39_ := hw _ (List.mem_of_getElem? (i := 39) rfl)
 have w55_ := hw _ (List.mem_of_getElem? (i := 55) rfl)
 have w57_ := hw _ (List.mem_of_getElem? (i := 57) rfl)
 have w59_ := hw _ (List.mem_of_getElem? (i := 59) rfl)
 have w65_ := hw _ (List.mem_of_getElem? (i := 65) rfl)
 have w68_ := hw _ (List.mem_of_getElem? (i := 68) rfl)
 have w77_ := hw _ (List.mem_of_getElem? (i := 77) rfl)
 have w78_ := hw _ (List.mem_of_getElem? (i := 78) rfl)
 have w79_ := hw _ (List.mem_of_getElem? (i := 79) rfl)
 have w80_ := hw _ (List.mem_of_getElem? (i := 80) rfl)
 have w81_ := hw _ (List.mem_of_getElem? (i := 81) rfl)
 have w82_ := hw _ (List.mem_of_getElem? (i := 82) rfl)
 have w83_ := hw _ (List.mem_of_getElem? (i := 83) rfl)
 have w93_ := hw _ (List.mem_of_getElem? (i := 93) rfl)
 have w94_ := hw _ (List.mem_of_getElem? (i := 94) rfl)
 have w95_ := hw _ (List.mem_of_getElem? (i := 95) rfl)
 have w96_ := hw _ (List.mem_of_getElem? (i := 96) rfl)
 have w97_ := hw _ (List.mem_of_getElem? (i := 97) rfl)
 have w98_ := hw _ (List.mem_of_getElem? (i := 98) rfl)
 have w100_ := hw _ (List.mem_of_getElem? (i := 100) rfl)
 have w101_ := hw _ (List.mem_of_getElem? (i := 101) rfl)
 have w102_ := hw _ (List.mem_of_getElem? (i := 102) rfl)
 have w103_ := hw _ (List.mem_of_getElem? (i := 103) rfl)
 have w104_ := hw _ (List.mem_of_getElem? (i := 104) rfl)
 have w109_ := hw _ (List.mem_of_getElem? (i := 109) rfl)
 have w110_ := hw _ (List.mem_of_getElem? (i := 110) rfl)
 have w111_ := hw _ (List.mem_of_getElem? (i := 111) rfl)
 have w112_ := hw _ (List.mem_of_getElem? (i := 112) rfl)
 have w136_ := hw _ (List.mem_of_getElem? (i := 136) rfl)
 have w137_ := hw _ (List.mem_of_getElem? (i := 137) rfl)
 have w140_ := hw _ (List.mem_of_getElem? (i := 140) rfl)
 have w141_ := hw _ (List.mem_of_getElem? (i := 141) rfl)
 have w142_ := hw _ (List.mem_of_getElem? (i := 142) rfl)
 have w143_ := hw _ (List.mem_of_getElem? (i := 143) rfl)
 obtain ⟨EB, FR, FL, FU, FS, FN, FQ⟩ := BBp
 obtain ⟨oE, o1, o2, o3, o4, o5, o6, o7⟩ := ORp
 obtain ⟨lE, lF, lL⟩ := LLp
 obtain ⟨yE, y1, y2, y3, y4, y5, y6, y7⟩ := YRp
 obtain ⟨xE, xw1, xw2, xw3, xw4, xw5, xw6, xw7⟩ := XRp
 obtain ⟨⟨vs, VR, hvl, gr⟩, ⟨wl, VL, hwl, gl⟩, hra, hl3⟩ := ARp
 show Go p e below (RetG s (Q_remPyx Z a q sd rk la up qy o t kr kl rs As i y yq ypv yro x xq xnx xro f0 l0 oro ba h0 n0) 0 0) (s₁.setTop (entryFrame m #[(.ref a), (.ref o)] 4))
 rw [show entryFrame m #[(.ref a), (.ref o)] 4 = mkF m 0 #[.val (.ref a), .val (.ref o), .unset, .unset] [] from by first | (simp [entryFrame, mkF, argsToLocals, Value.category]; done) | rfl]
 refine g_aloadN X0 hx hby d20_0 rfl rfl ?_
 refine g_dup X0 hx hby d20_1 rfl ?_
 refine g_getF X0 hx hby hZ hown (host := "") (Or.inl w77_) Via.refl e0 FQ d20_2 (fun T1 X1 e1 => ?_)
 refine g_aloadN X1 hx hby d20_5 rfl rfl ?_
 refine g_virtual X1 hx hby hZ hown (rm_grem l Z a0 hw [] o (1 : Int64) h0 n0 Z0 o3) w79_ w80_ (notFace_of_selects (args := #[]) (mvT hZ w82_)) w82_ w81_ w39_ w83_ (by decide) e1 oE (by rw [hml]; rfl) [] (lenOf own_pd7 rfl) rfl rfl (Nat.le_of_ble_eq_true rfl) (Nat.le_of_ble_eq_true rfl) (Nat.le_of_ble_eq_true rfl) (Nat.le_of_ble_eq_true rfl) d20_6 (fun v2 T2 L2 X2 hQ2 => ?_)
 obtain ⟨rfl, N2q, eh2⟩ := hQ2
 have N2 := Fr.app N0 N2q
 refine g_lsub X2 hx hby d20_9 ?_
 refine g_putF X2 hx hby hZ hown (host := "") (Or.inl w77_) Via.refl eh2 FQ EB (Or.inl w78_) w9_ .long (by decide) rfl rfl N2 ga d20_10 (fun T3 h3 X3 e3 W3 F3 N3 => ?_)
 refine g_aloadN X3 hx hby d20_13 rfl rfl ?_
 have ne5 : o ≠ a := (Exa.ne oE EB (by decide))
 have f6 := (o1.other W3 (Or.inl ne5))
 have z7 := (Nat.le_trans Z0 (Keep.of_wr W3).1)
 have f8 := (oE.wr W3)
 refine g_virtual X3 hx hby hZ hown (rm_hasp l Z a0 hw [] o q h3 n0 z7 f6) w94_ w95_ (notFace_of_selects (args := #[]) (mvT hZ w97_)) w97_ w96_ w39_ w98_ (by decide) e3 f8 (by rw [hml]; rfl) [] (lenOf own_pd9 rfl) rfl rfl (Nat.le_of_ble_eq_true rfl) (Nat.le_of_ble_eq_true rfl) (Nat.le_of_ble_eq_true rfl) (Nat.le_of_ble_eq_true rfl) d20_14 (fun v4 T4 L4 X4 hQ4 => ?_)
 obtain ⟨rfl, N4q, eh4⟩ := hQ4
 have N4 := Fr.app N3 N4q
 refine g_topI (T := T4) (1 : Int32) (if_neg hq) ?_
 refine g_ifN X4 hx hby d20_17 (feq (by decide : ¬ ((1 : Int32) = (0 : Int32)))).1 ?_
 refine g_aloadN X4 hx hby d20_20 rfl rfl ?_
 refine g_aloadN X4 hx hby d20_21 rfl rfl ?_
 refine g_virtual X4 hx hby hZ hown (rm_gpri l Z a0 hw [] o q h3 n0 z7 f6) w100_ w101_ (notFace_of_selects (args := #[]) (mvT hZ w103_)) w103_ w102_ w39_ w104_ (by decide) eh4 f8 (by rw [hml]; rfl) [] (lenOf own_pd7 rfl) rfl rfl (Nat.le_of_ble_eq_true rfl) (Nat.le_of_ble_eq_true rfl) (Nat.le_of_ble_eq_true rfl) (Nat.le_of_ble_eq_true rfl) d20_22 (fun v9 T9 L9 X9 hQ9 => ?_)
 obtain ⟨rfl, N9q, eh9⟩ := hQ9
 have N9 := Fr.app N4 N9q
 refine g_at 25 rfl rfl rfl ?_
 have f11 := (OLD.wr W3 ga)
 have f12 := (EB.wr W3)
 have f13 := (FS.other W3 (Or.inr (slot_ne (Or.inr w36_) (Or.inl w78_) (by decide) (t := (.object "com/example/tidegate/tidegate/engine/Side")) (t' := .long) (by decide) (by decide))))
 have f14 := (FR.other W3 (Or.inr (slot_ne (Or.inl w19_) (Or.inl w78_) (by decide) (t := (.array .long)) (t' := .long) (by decide) (by decide))))
 have f15 := (FN.other W3 (Or.inr (slot_ne (Or.inl w68_) (Or.inl w78_) (by decide) (t := .int) (t' := .long) (by decide) (by decide))))
 have ne16 : rk ≠ a := (Ne.symm (Exa.neArv EB VR w9_))
 have f17 := (VR.other W3 ne16)
 refine g_private X9 hx hby hZ hown (rm_idxG l Z a0 hw [] a q sd t rk kr vs rs ba h3 n0 z7 SB f11 f12 f13 f14 f15 ht f17 gr hl3) w109_ w110_ w9_ w111_ w10_ w112_ (by decide) eh9 f12 (by rw [hml]; rfl) [(.long q)] (lenOf own_pd6 rfl) rfl rfl (Nat.le_of_ble_eq_true rfl) (Nat.le_of_ble_eq_true rfl) (Nat.le_of_ble_eq_true rfl) (Nat.le_of_ble_eq_true rfl) d20_25 (fun v10 T10 L10 X10 hQ10 => ?_)
 obtain ⟨rfl, N10q, eh10⟩ := hQ10
 have N10 := Fr.app N9 N10q
 refine g_topI (T := T10) (Int32.ofNat i) hix ?_
 refine g_goto X10 hx hby 32 d20_28 (by decide) (by decide) ?_
 refine g_istoreN X10 hx hby d20_32 (l' := #[.val (.ref a), .val (.ref o), .val (.int (Int32.ofNat i)), .unset]) rfl ?_
 refine g_iloadN X10 hx hby d20_33 rfl ?_
 refine g_ifY X10 hx hby 44 d20_34 (flt ((own_nneg (by omega)) : ¬ ((Int32.ofNat i) < (0 : Int32)))).2.1 (by decide) (by decide) ?_
 refine g_aloadN X10 hx hby d20_44 rfl rfl ?_
 have f18 := (FL.other W3 (Or.inr (slot_ne (Or.inl w23_) (Or.inl w78_) (by decide) (t := (.array (.object "com/example/tidegate/tidegate/engine/BookSide$Level"))) (t' := .long) (by decide) (by decide))))
 refine g_getF X10 hx hby hZ hown (host := "") (Or.inl w22_) Via.refl eh10 f18 d20_45 (fun T19 X19 e19 => ?_)
 refine g_iloadN X19 hx hby d20_48 rfl ?_
 have ne20 : la ≠ a := (Ne.symm (Exa.neArv EB VL w9_))
 have f21 := (VL.other W3 ne20)
 refine g_aaload X19 hx hby hZ e19 f21 rfl (.ref (As.getD i 0)) (own_in2 (by omega)) (by rw [own_tn2 (by omega)]; exact gl i (by omega)) d20_49 ?_
 refine g_astoreN X19 hx hby d20_50 rfl (l' := #[.val (.ref a), .val (.ref o), .val (.int (Int32.ofNat i)), .val (.ref (As.getD i 0))]) rfl ?_
 refine g_aloadN X19 hx hby d20_51 rfl rfl ?_
 have f22 := (o5.other W3 (Or.inl ne5))
 refine g_getF X19 hx hby hZ hown (host := "") (Or.inl w140_) Via.refl e19 f22 d20_52 (fun T23 X23 e23 => ?_)
 refine g_ifnonnullY X23 hx hby 69 d20_55 (by decide) (by decide) ?_
 refine g_aloadN X23 hx hby d20_69 rfl rfl ?_
 refine g_getF X23 hx hby hZ hown (host := "") (Or.inl w140_) Via.refl e23 f22 d20_70 (fun T24 X24 e24 => ?_)
 refine g_aloadN X24 hx hby d20_73 rfl rfl ?_
 have f25 := (o6.other W3 (Or.inl ne5))
 refine g_getF X24 hx hby hZ hown (host := "") (Or.inl w142_) Via.refl e24 f25 d20_74 (fun T26 X26 e26 => ?_)
 have f27 := (yE.wr W3)
 have ne28 : y ≠ a := (Exa.ne yE EB (by decide))
 have f29 := (y6.other W3 (Or.inl ne28))
 refine g_putF X26 hx hby hZ hown (host := "") (Or.inl w142_) Via.refl e26 f29 f27 (Or.inl w143_) w38_ (.object "com/example/tidegate/tidegate/engine/Order") (by decide) rfl rfl N10 gy d20_77 (fun T30 h30 X30 e30 W30 F30 N30 => ?_)
 refine g_aloadN X30 hx hby d20_80 rfl rfl ?_
 have f31 := (f25.other W30 (Or.inl noy))
 refine g_getF X30 hx hby hZ hown (host := "") (Or.inl w142_) Via.refl e30 f31 d20_81 (fun T32 X32 e32 => ?_)
 refine g_ifnonnullY X32 hx hby 98 d20_84 (by decide) (by decide) ?_
 refine g_aloadN X32 hx hby d20_98 rfl rfl ?_
 refine g_getF X32 hx hby hZ hown (host := "") (Or.inl w142_) Via.refl e32 f31 d20_99 (fun T33 X33 e33 => ?_)
 refine g_aloadN X33 hx hby d20_102 rfl rfl ?_
 have f34 := (f22.other W30 (Or.inl noy))
 refine g_getF X33 hx hby hZ hown (host := "") (Or.inl w140_) Via.refl e33 f34 d20_103 (fun T35 X35 e35 => ?_)
 have f36 := ((xE.wr W3).wr W30)
 have ne37 : x ≠ a := (Exa.ne xE EB (by decide))
 have f38 := ((xw5.other W3 (Or.inl ne37)).other W30 (Or.inl (Ne.symm nyx)))
 refine g_putF X35 hx hby hZ hown (host := "") (Or.inl w140_) Via.refl e35 f38 f36 (Or.inl w141_) w38_ (.object "com/example/tidegate/tidegate/engine/Order") (by decide) rfl rfl N30 gx d20_106 (fun T39 h39 X39 e39 W39 F39 N39 => ?_)
 refine g_aloadN X39 hx hby d20_109 rfl rfl ?_
 refine g_aconst_null X39 hx hby d20_110 ?_
 have f40 := ((f8.wr W30).wr W39)
 have f41 := (((o7.other W3 (Or.inl ne5)).other W30 (Or.inl noy)).other W39 (Or.inl nox))
 refine g_putF X39 hx hby hZ hown (host := "") (Or.inl w136_) Via.refl e39 f41 f40 (Or.inl w137_) w38_ (.object "com/example/tidegate/tidegate/engine/BookSide") (by decide) rfl rfl N39 go d20_111 (fun T42 h42 X42 e42 W42 F42 N42 => ?_)
 refine g_aloadN X42 hx hby d20_114 rfl rfl ?_
 refine g_aconst_null X42 hx hby d20_115 ?_
 have f43 := (f40.wr W42)
 have f44 := ((f34.other W39 (Or.inl nox)).other W42 (Or.inr (slot_ne (Or.inl w141_) (Or.inl w137_) (by decide) (t := (.object "com/example/tidegate/tidegate/engine/Order")) (t' := (.object "com/example/tidegate/tidegate/engine/BookSide")) (by decide) (by decide))))
 refine g_putF X42 hx hby hZ hown (host := "") (Or.inl w140_) Via.refl e42 f44 f43 (Or.inl w141_) w38_ (.object "com/example/tidegate/tidegate/engine/Order") (by decide) rfl rfl N42 go d20_116 (fun T45 h45 X45 e45 W45 F45 N45 => ?_)
 refine g_aloadN X45 hx hby d20_119 rfl rfl ?_
 refine g_aconst_null X45 hx hby d20_120 ?_
 have f46 := (f43.wr W45)
 have f47 := (((f31.other W39 (Or.inl nox)).other W42 (Or.inr (slot_ne (Or.inl w143_) (Or.inl w137_) (by decide) (t := (.object "com/example/tidegate/tidegate/engine/Order")) (t' := (.object "com/example/tidegate/tidegate/engine/BookSide")) (by decide) (by decide)))).other W45 (Or.inr (slot_ne (Or.inl w143_) (Or.inl w141_) (by decide) (t := (.object "com/example/tidegate/tidegate/engine/Order")) (t' := (.object "com/example/tidegate/tidegate/engine/Order")) (by decide) (by decide))))
 refine g_putF X45 hx hby hZ hown (host := "") (Or.inl w142_) Via.refl e45 f47 f46 (Or.inl w143_) w38_ (.object "com/example/tidegate/tidegate/engine/Order") (by decide) rfl rfl N45 go d20_121 (fun T48 h48 X48 e48 W48 F48 N48 => ?_)
 refine g_aloadN X48 hx hby d20_124 rfl rfl ?_
 have ne49 : (As.getD i 0) ≠ a := (Exa.ne lE EB (by decide))
 have ne50 : (As.getD i 0) ≠ y := (Exa.ne lE yE (by decide))
 have ne51 : (As.getD i 0) ≠ x := (Exa.ne lE xE (by decide))
 have ne52 : (As.getD i 0) ≠ o := (Exa.ne lE oE (by decide))
 have f53 := ((((((lF.other W3 (Or.inl ne49)).other W30 (Or.inl ne50)).other W39 (Or.inl ne51)).other W42 (Or.inl ne52)).other W45 (Or.inl ne52)).other W48 (Or.inl ne52))
 refine g_getFR X48 hx hby hZ hown w65_ e48 f53 d20_125 (fun T54 X54 e54 => ?_)
 refine g_ifnonnullY X54 hx hby 197 d20_128 (by decide) (by decide) ?_
 have f55 := (((((f12.wr W30).wr W39).wr W42).wr W45).wr W48)
 have f56 := (((((f14.other W30 (Or.inl (Ne.symm ne28))).other W39 (Or.inl (Ne.symm ne37))).other W42 (Or.inl (Ne.symm ne5))).other W45 (Or.inl (Ne.symm ne5))).other W48 (Or.inl (Ne.symm ne5)))
 have f57 := (((((f18.other W30 (Or.inl (Ne.symm ne28))).other W39 (Or.inl (Ne.symm ne37))).other W42 (Or.inl (Ne.symm ne5))).other W45 (Or.inl (Ne.symm ne5))).other W48 (Or.inl (Ne.symm ne5)))
 have f58 := ((((((FU.other W3 (Or.inr (slot_ne (Or.inr w34_) (Or.inl w78_) (by decide) (t := (.object "com/example/tidegate/tidegate/engine/BookSide$Level")) (t' := .long) (by decide) (by decide)))).other W30 (Or.inl (Ne.symm ne28))).other W39 (Or.inl (Ne.symm ne37))).other W42 (Or.inl (Ne.symm ne5))).other W45 (Or.inl (Ne.symm ne5))).other W48 (Or.inl (Ne.symm ne5)))
 have f59 := (((((f13.other W30 (Or.inl (Ne.symm ne28))).other W39 (Or.inl (Ne.symm ne37))).other W42 (Or.inl (Ne.symm ne5))).other W45 (Or.inl (Ne.symm ne5))).other W48 (Or.inl (Ne.symm ne5)))
 have f60 := (((((f15.other W30 (Or.inl (Ne.symm ne28))).other W39 (Or.inl (Ne.symm ne37))).other W42 (Or.inl (Ne.symm ne5))).other W45 (Or.inl (Ne.symm ne5))).other W48 (Or.inl (Ne.symm ne5)))
 have f61 := (((((F3.other W30 (Or.inl (Ne.symm ne28))).other W39 (Or.inl (Ne.symm ne37))).other W42 (Or.inl (Ne.symm ne5))).other W45 (Or.inl (Ne.symm ne5))).other W48 (Or.inl (Ne.symm ne5)))
 have f62 := (f46.wr W48)
 have f63 := (((((f6.other W30 (Or.inl noy)).other W39 (Or.inl nox)).other W42 (Or.inr (slot_ne (Or.inl w55_) (Or.inl w137_) (by decide) (t := .long) (t' := (.object "com/example/tidegate/tidegate/engine/BookSide")) (by decide) (by decide)))).other W45 (Or.inr (slot_ne (Or.inl w55_) (Or.inl w141_) (by decide) (t := .long) (t' := (.object "com/example/tidegate/tidegate/engine/Order")) (by decide) (by decide)))).other W48 (Or.inr (slot_ne (Or.inl w55_) (Or.inl w143_) (by decide) (t := .long) (t' := (.object "com/example/tidegate/tidegate/engine/Order")) (by decide) (by decide))))
 have f64 := ((((((o2.other W3 (Or.inl ne5)).other W30 (Or.inl noy)).other W39 (Or.inl nox)).other W42 (Or.inr (slot_ne (Or.inr w57_) (Or.inl w137_) (by decide) (t := .long) (t' := (.object "com/example/tidegate/tidegate/engine/BookSide")) (by decide) (by decide)))).other W45 (Or.inr (slot_ne (Or.inr w57_) (Or.inl w141_) (by decide) (t := .long) (t' := (.object "com/example/tidegate/tidegate/engine/Order")) (by decide) (by decide)))).other W48 (Or.inr (slot_ne (Or.inr w57_) (Or.inl w143_) (by decide) (t := .long) (t' := (.object "com/example/tidegate/tidegate/engine/Order")) (by decide) (by decide))))
 have f65 := ((((((o3.other W3 (Or.inl ne5)).other W30 (Or.inl noy)).other W39 (Or.inl nox)).other W42 (Or.inr (slot_ne (Or.inl w59_) (Or.inl w137_) (by decide) (t := .long) (t' := (.object "com/example/tidegate/tidegate/engine/BookSide")) (by decide) (by decide)))).other W45 (Or.inr (slot_ne (Or.inl w59_) (Or.inl w141_) (by decide) (t := .long) (t' := (.object "com/example/tidegate/tidegate/engine/Order")) (by decide) (by decide)))).other W48 (Or.inr (slot_ne (Or.inl w59_) (Or.inl w143_) (by decide) (t := .long) (t' := (.object "com/example/tidegate/tidegate/engine/Order")) (by decide) (by decide))))
 have f66 := ((((((o4.other W3 (Or.inl ne5)).other W30 (Or.inl noy)).other W39 (Or.inl nox)).other W42 (Or.inr (slot_ne (Or.inl w93_) (Or.inl w137_) (by decide) (t := .long) (t' := (.object "com/example/tidegate/tidegate/engine/BookSide")) (by decide) (by decide)))).other W45 (Or.inr (slot_ne (Or.inl w93_) (Or.inl w141_) (by decide) (t := .long) (t' := (.object "com/example/tidegate/tidegate/engine/Order")) (by decide) (by decide)))).other W48 (Or.inr (slot_ne (Or.inl w93_) (Or.inl w143_) (by decide) (t := .long) (t' := (.object "com/example/tidegate/tidegate/engine/Order")) (by decide) (by decide))))
 have f67 := (F45.other W48 (Or.inr (slot_ne (Or.inl w141_) (Or.inl w143_) (by decide) (t := (.object "com/example/tidegate/tidegate/engine/Order")) (t' := (.object "com/example/tidegate/tidegate/engine/Order")) (by decide) (by decide))))
 have f68 := ((F42.other W45 (Or.inr (slot_ne (Or.inl w137_) (Or.inl w141_) (by decide) (t := (.object "com/example/tidegate/tidegate/engine/BookSide")) (t' := (.object "com/example/tidegate/tidegate/engine/Order")) (by decide) (by decide)))).other W48 (Or.inr (slot_ne (Or.inl w137_) (Or.inl w143_) (by decide) (t := (.object "com/example/tidegate/tidegate/engine/BookSide")) (t' := (.object "com/example/tidegate/tidegate/engine/Order")) (by decide) (by decide))))
 have f69 := ((((((lE.wr W3).wr W30).wr W39).wr W42).wr W45).wr W48)
 have f70 := ((((((lL.other W3 (Or.inl ne49)).other W30 (Or.inl ne50)).other W39 (Or.inl ne51)).other W42 (Or.inl ne52)).other W45 (Or.inl ne52)).other W48 (Or.inl ne52))
 have f71 := (((((f27.wr W30).wr W39).wr W42).wr W45).wr W48)
 have f72 := ((((((y1.other W3 (Or.inl ne28)).other W30 (Or.inr (slot_ne (Or.inl w55_) (Or.inl w143_) (by decide) (t := .long) (t' := (.object "com/example/tidegate/tidegate/engine/Order")) (by decide) (by decide)))).other W39 (Or.inl nyx)).other W42 (Or.inl (Ne.symm noy))).other W45 (Or.inl (Ne.symm noy))).other W48 (Or.inl (Ne.symm noy)))
 have f73 := ((((((y2.other W3 (Or.inl ne28)).other W30 (Or.inr (slot_ne (Or.inr w57_) (Or.inl w143_) (by decide) (t := .long) (t' := (.object "com/example/tidegate/tidegate/engine/Order")) (by decide) (by decide)))).other W39 (Or.inl nyx)).other W42 (Or.inl (Ne.symm noy))).other W45 (Or.inl (Ne.symm noy))).other W48 (Or.inl (Ne.symm noy)))
 have f74 := ((((((y3.other W3 (Or.inl ne28)).other W30 (Or.inr (slot_ne (Or.inl w59_) (Or.inl w143_) (by decide) (t := .long) (t' := (.object "com/example/tidegate/tidegate/engine/Order")) (by decide) (by decide)))).other W39 (Or.inl nyx)).other W42 (Or.inl (Ne.symm noy))).other W45 (Or.inl (Ne.symm noy))).other W48 (Or.inl (Ne.symm noy)))
 have f75 := ((((((y4.other W3 (Or.inl ne28)).other W30 (Or.inr (slot_ne (Or.inl w93_) (Or.inl w143_) (by decide) (t := .long) (t' := (.object "com/example/tidegate/tidegate/engine/Order")) (by decide) (by decide)))).other W39 (Or.inl nyx)).other W42 (Or.inl (Ne.symm noy))).other W45 (Or.inl (Ne.symm noy))).other W48 (Or.inl (Ne.symm noy)))
 have f76 := ((((((y5.other W3 (Or.inl ne28)).other W30 (Or.inr (slot_ne (Or.inl w141_) (Or.inl w143_) (by decide) (t := (.object "com/example/tidegate/tidegate/engine/Order")) (t' := (.object "com/example/tidegate/tidegate/engine/Order")) (by decide) (by decide)))).other W39 (Or.inl nyx)).other W42 (Or.inl (Ne.symm noy))).other W45 (Or.inl (Ne.symm noy))).other W48 (Or.inl (Ne.symm noy)))
 have f77 := ((((F30.other W39 (Or.inl nyx)).other W42 (Or.inl (Ne.symm noy))).other W45 (Or.inl (Ne.symm noy))).other W48 (Or.inl (Ne.symm noy)))
 have f78 := ((((((y7.other W3 (Or.inl ne28)).other W30 (Or.inr (slot_ne (Or.inl w137_) (Or.inl w143_) (by decide) (t := (.object "com/example/tidegate/tidegate/engine/BookSide")) (t' := (.object "com/example/tidegate/tidegate/engine/Order")) (by decide) (by decide)))).other W39 (Or.inl nyx)).other W42 (Or.inl (Ne.symm noy))).other W45 (Or.inl (Ne.symm noy))).other W48 (Or.inl (Ne.symm noy)))
 have f79 := ((((f36.wr W39).wr W42).wr W45).wr W48)
 have f80 := ((((((xw1.other W3 (Or.inl ne37)).other W30 (Or.inl (Ne.symm nyx))).other W39 (Or.inr (slot_ne (Or.inl w55_) (Or.inl w141_) (by decide) (t := .long) (t' := (.object "com/example/tidegate/tidegate/engine/Order")) (by decide) (by decide)))).other W42 (Or.inl (Ne.symm nox))).other W45 (Or.inl (Ne.symm nox))).other W48 (Or.inl (Ne.symm nox)))
 have f81 := ((((((xw2.other W3 (Or.inl ne37)).other W30 (Or.inl (Ne.symm nyx))).other W39 (Or.inr (slot_ne (Or.inr w57_) (Or.inl w141_) (by decide) (t := .long) (t' := (.object "com/example/tidegate/tidegate/engine/Order")) (by decide) (by decide)))).other W42 (Or.inl (Ne.symm nox))).other W45 (Or.inl (Ne.symm nox))).other W48 (Or.inl (Ne.symm nox)))
 have f82 := ((((((xw3.other W3 (Or.inl ne37)).other W30 (Or.inl (Ne.symm nyx))).other W39 (Or.inr (slot_ne (Or.inl w59_) (Or.inl w141_) (by decide) (t := .long) (t' := (.object "com/example/tidegate/tidegate/engine/Order")) (by decide) (by decide)))).other W42 (Or.inl (Ne.symm nox))).other W45 (Or.inl (Ne.symm nox))).other W48 (Or.inl (Ne.symm nox)))
 have f83 := ((((((xw4.other W3 (Or.inl ne37)).other W30 (Or.inl (Ne.symm nyx))).other W39 (Or.inr (slot_ne (Or.inl w93_) (Or.inl w141_) (by decide) (t := .long) (t' := (.object "com/example/tidegate/tidegate/engine/Order")) (by decide) (by decide)))).other W42 (Or.inl (Ne.symm nox))).other W45 (Or.inl (Ne.symm nox))).other W48 (Or.inl (Ne.symm nox)))
 have f84 := (((F39.other W42 (Or.inl (Ne.symm nox))).other W45 (Or.inl (Ne.symm nox))).other W48 (Or.inl (Ne.symm nox)))
 have f85 := ((((((xw6.other W3 (Or.inl ne37)).other W30 (Or.inl (Ne.symm nyx))).other W39 (Or.inr (slot_ne (Or.inl w143_) (Or.inl w141_) (by decide) (t := (.object "com/example/tidegate/tidegate/engine/Order")) (t' := (.object "com/example/tidegate/tidegate/engine/Order")) (by decide) (by decide)))).other W42 (Or.inl (Ne.symm nox))).other W45 (Or.inl (Ne.symm nox))).other W48 (Or.inl (Ne.symm nox)))
 have f86 := ((((((xw7.other W3 (Or.inl ne37)).other W30 (Or.inl (Ne.symm nyx))).other W39 (Or.inr (slot_ne (Or.inl w137_) (Or.inl w141_) (by decide) (t := (.object "com/example/tidegate/tidegate/engine/BookSide")) (t' := (.object "com/example/tidegate/tidegate/engine/Order")) (by decide) (by decide)))).other W42 (Or.inl (Ne.symm nox))).other W45 (Or.inl (Ne.symm nox))).other W48 (Or.inl (Ne.symm nox)))
 refine g_ret X54 hx hby Bd.returns Bd.notSynchronized d20_197 e54 (by decide) (by decide) ?_
 show (Q_remPyx Z a q sd rk la up qy o t kr kl rs As i y yq ypv yro x xq xnx xro f0 l0 oro ba h0 n0) none _ _
 exact ⟨rfl, N48, (((((((Keep.refl h0 [a, o, (As.getD i 0), y, x]).wr W3 (Or.inl (List.mem_of_getElem? (i := 0) rfl))).wr W30 (Or.inl (List.mem_of_getElem? (i := 3) rfl))).wr W39 (Or.inl (List.mem_of_getElem? (i := 4) rfl))).wr W42 (Or.inl (List.mem_of_getElem? (i := 1) rfl))).wr W45 (Or.inl (List.mem_of_getElem? (i := 1) rfl))).wr W48 (Or.inl (List.mem_of_getElem? (i := 1) rfl))), ⟨f55, f56, f57, f58, f59, f60, f61⟩, ⟨f62, f63, f64, f65, f66, f67, F48, f68⟩, ⟨f69, f53, f70⟩, ⟨f71, f72, f73, f74, f75, f76, f77, f78⟩, ⟨f79, f80, f81, f82, f83, f84, f85, f86⟩⟩

theorem d20_135 : decode prog_2_method_10_code 135 = .ok (.aload_n 0, 1) := by decide +kernel
theorem d20_136 : decode prog_2_method_10_code 136 = .ok (.dup, 1) := by decide +kernel
theorem d20_137 : decode prog_2_method_10_code 137 = .ok (.getfield 38, 3) := by decide +kernel
theorem d20_140 : decode prog_2_method_10_code 140 = .ok (.iconst 1, 1) := by decide +kernel
theorem d20_141 : decode prog_2_method_10_code 141 = .ok (.isub, 1) := by decide +kernel
theorem d20_142 : decode prog_2_method_10_code 142 = .ok (.putfield 38, 3) := by decide +kernel
theorem d20_145 : decode prog_2_method_10_code 145 = .ok (.aload_n 0, 1) := by decide +kernel
theorem d20_146 : decode prog_2_method_10_code 146 = .ok (.getfield 9, 3) := by decide +kernel
theorem d20_149 : decode prog_2_method_10_code 149 = .ok (.iload_n 2, 1) := by decide +kernel
theorem d20_150 : decode prog_2_method_10_code 150 = .ok (.iconst 1, 1) := by decide +kernel
theorem d20_151 : decode prog_2_method_10_code 151 = .ok (.iadd, 1) := by decide +kernel
theorem d20_152 : decode prog_2_method_10_code 152 = .ok (.aload_n 0, 1) := by decide +kernel
theorem d20_153 : decode prog_2_method_10_code 153 = .ok (.getfield 9, 3) := by decide +kernel
theorem d20_156 : decode prog_2_method_10_code 156 = .ok (.iload_n 2, 1) := by decide +kernel
theorem d20_157 : decode prog_2_method_10_code 157 = .ok (.aload_n 0, 1) := by decide +kernel
theorem d20_158 : decode prog_2_method_10_code 158 = .ok (.getfield 38, 3) := by decide +kernel
theorem d20_161 : decode prog_2_method_10_code 161 = .ok (.iload_n 2, 1) := by decide +kernel
theorem d20_162 : decode prog_2_method_10_code 162 = .ok (.isub, 1) := by decide +kernel
theorem d20_163 : decode prog_2_method_10_code 163 = .ok (.invokestatic 96, 3) := by decide +kernel
theorem d20_166 : decode prog_2_method_10_code 166 = .ok (.aload_n 0, 1) := by decide +kernel
theorem d20_167 : decode prog_2_method_10_code 167 = .ok (.getfield 15, 3) := by decide +kernel
theorem d20_170 : decode prog_2_method_10_code 170 = .ok (.iload_n 2, 1) := by decide +kernel
theorem d20_171 : decode prog_2_method_10_code 171 = .ok (.iconst 1, 1) := by decide +kernel
theorem d20_172 : decode prog_2_method_10_code 172 = .ok (.iadd, 1) := by decide +kernel
theorem d20_173 : decode prog_2_method_10_code 173 = .ok (.aload_n 0, 1) := by decide +kernel
theorem d20_174 : decode prog_2_method_10_code 174 = .ok (.getfield 15, 3) := by decide +kernel
theorem d20_177 : decode prog_2_method_10_code 177 = .ok (.iload_n 2, 1) := by decide +kernel
theorem d20_178 : decode prog_2_method_10_code 178 = .ok (.aload_n 0, 1) := by decide +kernel
theorem d20_179 : decode prog_2_method_10_code 179 = .ok (.getfield 38, 3) := by decide +kernel
theorem d20_182 : decode prog_2_method_10_code 182 = .ok (.iload_n 2, 1) := by decide +kernel
theorem d20_183 : decode prog_2_method_10_code 183 = .ok (.isub, 1) := by decide +kernel
theorem d20_184 : decode prog_2_method_10_code 184 = .ok (.invokestatic 96, 3) := by decide +kernel
theorem d20_187 : decode prog_2_method_10_code 187 = .ok (.aload_n 0, 1) := by decide +kernel
theorem d20_188 : decode prog_2_method_10_code 188 = .ok (.getfield 15, 3) := by decide +kernel
theorem d20_191 : decode prog_2_method_10_code 191 = .ok (.aload_n 0, 1) := by decide +kernel
theorem d20_192 : decode prog_2_method_10_code 192 = .ok (.getfield 38, 3) := by decide +kernel
theorem d20_195 : decode prog_2_method_10_code 195 = .ok (.aconst_null, 1) := by decide +kernel
theorem d20_196 : decode prog_2_method_10_code 196 = .ok (.aastore, 1) := by decide +kernel
def Q_remS (Z : State) (a : Addr) (q : Int64) (sd : Addr) (rk : Addr) (la : Addr) (up : Addr) (qy : Int64) (o : Addr) (t : Int64) (kr : ClassId) (kl : ClassId) (rs : List Int64) (As : List Addr) (i : Nat) (f0 : Addr) (l0 : Addr) (oro : Value) (ba : Addr) (h0 : Heap) (n0 : Nat) (v : Option Value) (h : Heap) (L : List Loc) : Prop := v = none ∧ Fr n0 L ∧ Keep h0 h [a, o, (As.getD i 0), rk, la] ∧ own_AR Z h rk la kr kl (rs.eraseIdx i) (As.eraseIdx i) ∧ own_BB Z h a rk la up sd (Int32.ofNat (rs.eraseIdx i).length) (qy - (1 : Int64)) ∧ own_OO Z h o q .null .null .null ∧ own_LL Z h (As.getD i 0) .null .null
set_option maxRecDepth 65536 in
set_option maxHeartbeats 40000000 in
theorem rm_remS (l : Launch) (Z : State) (a0 : Array Value) (hw : ∀ d ∈ tables_1, d.before a0 Z = true) (ws : List Jvm.Cond) (a : Addr) (q : Int64) (sd : Addr) (rk : Addr) (la : Addr) (up : Addr) (qy : Int64) (o : Addr) (t : Int64) (kr : ClassId) (kl : ClassId) (rs : List Int64) (As : List Addr) (i : Nat) (f0 : Addr) (l0 : Addr) (oro : Value) (ba : Addr) (h0 : Heap) (n0 : Nat) (Z0 : n0 ≤ h0.size) (SB : Sta Z Z.heap "com/example/tidegate/tidegate/engine/Side" "BUY" "Lcom/example/tidegate/tidegate/engine/Side;" (.ref ba)) (OLD : Old Z n0 h0) (BBp : own_BB Z h0 a rk la up sd (Int32.ofNat rs.length) qy) (ORp : own_OO Z h0 o q .null .null oro) (ga : n0 ≤ a) (go : n0 ≤ o) (hq : ¬ q = (-9223372036854775808 : Int64)) (LLp : own_LL Z h0 (As.getD i 0) (.ref f0) (.ref l0)) (glv : n0 ≤ (As.getD i 0)) (ARp : own_AR Z h0 rk la kr kl rs As) (ht : t = if sd = ba then q else -q) (hi : i < rs.length) (hix : own_gix rs t = Int32.ofNat i) (grk : n0 ≤ rk) (gla : n0 ≤ la) (nrl : rk ≠ la) (OV : Ovr Z kl "com/example/tidegate/tidegate/engine/BookSide$Level") (EAs : ∀ x ∈ As, Exa Z h0 x "com/example/tidegate/tidegate/engine/BookSide$Level") :
  MetFree l (⟨"com/example/tidegate/tidegate/engine/BookSide", "remove", "(Lcom/example/tidegate/tidegate/engine/Order;)V"⟩ : MethodName) (head1 (Jvm.Cond.code (⟨"com/example/tidegate/tidegate/engine/BookSide", "remove", "(Lcom/example/tidegate/tidegate/engine/Order;)V"⟩ : MethodName) prog_2_method_10_code 4 none :: ws) ({ frames := 6, cells := 0, slots := 0, locals := 139 } : Room)) (fun aa_ U => aa_ = #[(.ref a), (.ref o)] ∧ Z.Warmed39 U.vm ∧ U.heap = h0) (fun _ _ _ _ _ => True) (fun _ U o_ U' => RetG U (Q_remS Z a q sd rk la up qy o t kr kl rs As i f0 l0 oro ba h0 n0) 0 0 U' o_) := by
 refine MetFree.of_bodySF (plainFor_of_name own_pn1) hisR ?_
 intro p e s m args below meth c_ s₁ Bd hml0 hP hK
 obtain ⟨rfl, hZ, hh⟩ := hP
 have hx := Bd.exec
 have hby := Bd.bytes
 have hml : c_.maxLocals = 4 := hml0
 have hown : s.vm.findClass "com/example/tidegate/tidegate/engine/BookSide" = some m.cls := findClass_of_methodNamed Bd.named
 have hnm := (name_of_methodNamed Bd.named Bd.method).1
 have X0 : Stand p l e ({ frames := 6, cells := 0, slots := 0, locals := 139 } : Room) s m #[(.ref a), (.ref o)] below meth c_ s₁ [] 0 0 := Stand.of_body Bd
 have e0 : s₁.heap = h0 := by rw [← hh, Bd.state]; rfl
 have N0 := Fr.nil n0
 have w9_ := hw _ (List.mem_of_getElem? (i := 9) rfl)
 have w10_ := hw _ (List.mem_of_getElem? (i := 10) rfl)
 have w18_ := hw _ (List.mem_of_getElem? (i := 18) rfl)
 have w19_ := hw _ (List.mem_of_getElem? (i := 19) rfl)
 have w22_ := hw _ (List.mem_of_getElem? (i := 22) rfl)
 have w23_ := hw _ (List.mem_of_getElem? (i := 23) rfl)
 have w24_ := hw _ (List.mem_of_getElem? (i := 24) rfl)
 have w34_ := hw _ (List.mem_of_getElem? (i := 34) rfl)
 have w36_ := hw _ (List.mem_of_getElem? (i := 36) rfl)
 have w38_ := hw _ (List.mem_of_getElem? (i := 38) rfl)
 have w39_ := hw _ (List.mem_of_getElem? (i := 39) rfl)
 have w55_ := hw _ (List.mem_of_getElem? (i := 55) rfl)
 have w57_ := hw _ (List.mem_of_getElem? (i := 57) rfl)
 have w59_ := hw _ (List.mem_of_getElem? (i := 59) rfl)
 have w65_ := hw _ (List.mem_of_getElem? (i := 65) rfl)
 have w66_ := hw _ (List.mem_of_getElem? (i := 66) rfl)
 have w67_ := hw _ (List.mem_of_getElem? (i := 67) rfl)
 have w68_ := hw _ (List.mem_of_getElem? (i := 68) rfl)
 have w77_ := hw _ (List.mem_of_getElem? (i := 77) rfl)
 have w78_ := hw _ (List.mem_of_getElem? (i := 78) rfl)
 have w79_ := hw _ (List.mem_of_getElem? (i := 79) rfl)
 have w80_ := hw _ (List.mem_of_getElem? (i := 80) rfl)
 have w81_ := hw _ (List.mem_of_getElem? (i := 81) rfl)
 have w82_ := hw _ (List.mem_of_getElem? (i := 82) rfl)
 have w83_ := hw _ (List.mem_of_getElem? (i := 83) rfl)
 have w93_ := hw _ (List.mem_of_getElem? (i := 93) rfl)
 have w94_ := hw _ (List.mem_of_getElem? (i := 94) rfl)
 have w95_ := hw _ (List.mem_of_getElem? (i := 95) rfl)
 have w96_ := hw _ (List.mem_of_getElem? (i := 96) rfl)
 have w97_ := hw _ (List.mem_of_getElem? (i := 97) rfl)
 have w98_ := hw _ (List.mem_of_getElem? (i := 98) rfl)
 have w100_ := hw _ (List.mem_of_getElem? (i := 100) rfl)
 have w101_ := hw _ (List.mem_of_getElem? (i := 101) rfl)
 have w102_ := hw _ (List.mem_of_getElem? (i := 102) rfl)
 have w103_ := hw _ (List.mem_of_getElem? (i := 103) rfl)
 have w104_ := hw _ (List.mem_of_getElem? (i := 104) rfl)
 have w109_ := hw _ (List.mem_of_getElem? (i := 109) rfl)
 have w110_ := hw _ (List.mem_of_getElem? (i := 110) rfl)
 have w111_ := hw _ (List.mem_of_getElem? (i := 111) rfl)
 have w112_ := hw _ (List.mem_of_getElem? (i := 112) rfl)
 have w131_ := hw _ (List.mem_of_getElem? (i := 131) rfl)
 have w132_ := hw _ (List.mem_of_getElem? (i := 132) rfl)
 have w133_ := hw _ (List.mem_of_getElem? (i := 133) rfl)
 have w134_ := hw _ (List.mem_of_getElem? (i := 134) rfl)
 have w136_ := hw _ (List.mem_of_getElem? (i := 136) rfl)
 have w137_ := hw _ (List.mem_of_getElem? (i := 137) rfl)
 have w138_ := hw _ (List.mem_of_getElem? (i := 138) rfl)
 have w139_ := hw _ (List.mem_of_getElem? (i := 139) rfl)
 have w140_ := hw _ (List.mem_of_getElem? (i := 140) rfl)
 have w141_ := hw _ (List.mem_of_getElem? (i := 141) rfl)
 have w142_ := hw _ (List.mem_of_getElem? (i := 142) rfl)
 have w143_ := hw _ (List.mem_of_getElem? (i := 143) rfl)
 obtain ⟨EB, FR, FL, FU, FS, FN, FQ⟩ := BBp
 obtain ⟨oE, o1, o2, o3, o4, o5, o6, o7⟩ := ORp
 obtain ⟨lE, lF, lL⟩ := LLp
 obtain ⟨⟨vs, VR, hvl, gr⟩, ⟨wl, VL, hwl, gl⟩, hra, hl3⟩ := ARp
 show Go p e below (RetG s (Q_remS Z a q sd rk la up qy o t kr kl rs As i f0 l0 oro ba h0 n0) 0 0) (s₁.setTop (entryFrame m #[(.ref a), (.ref o)] 4))
 rw [show entryFrame m #[(.ref a), (.ref o)] 4 = mkF m 0 #[.val (.ref a), .val (.ref o), .unset, .unset] [] from by first | (simp [entryFrame, mkF, argsToLocals, Value.category]; done) | rfl]
 refine g_aloadN X0 hx hby d20_0 rfl rfl ?_
 refine g_dup X0 hx hby d20_1 rfl ?_
 refine g_getF X0 hx hby hZ hown (host := "") (Or.inl w77_) Via.refl e0 FQ d20_2 (fun T1 X1 e1 => ?_)
 refine g_aloadN X1 hx hby d20_5 rfl rfl ?_
 refine g_virtual X1 hx hby hZ hown (rm_grem l Z a0 hw [] o (1 : Int64) h0 n0 Z0 o3) w79_ w80_ (notFace_of_selects (args := #[]) (mvT hZ w82_)) w82_ w81_ w39_ w83_ (by decide) e1 oE (by rw [hml]; rfl) [] (lenOf own_pd7 rfl) rfl rfl (Nat.le_of_ble_eq_true rfl) (Nat.le_of_ble_eq_true rfl) (Nat.le_of_ble_eq_true rfl) (Nat.le_of_ble_eq_true rfl) d20_6 (fun v2 T2 L2 X2 hQ2 => ?_)
 obtain ⟨rfl, N2q, eh2⟩ := hQ2
 have N2 := Fr.app N0 N2q
 refine g_lsub X2 hx hby d20_9 ?_
 refine g_putF X2 hx hby hZ hown (host := "") (Or.inl w77_) Via.refl eh2 FQ EB (Or.inl w78_) w9_ .long (by decide) rfl rfl N2 ga d20_10 (fun T3 h3 X3 e3 W3 F3 N3 => ?_)
 refine g_aloadN X3 hx hby d20_13 rfl rfl ?_
 have ne5 : o ≠ a := (Exa.ne oE EB (by decide))
 have f6 := (o1.other W3 (Or.inl ne5))
 have z7 := (Nat.le_trans Z0 (Keep.of_wr W3).1)
 have f8 := (oE.wr W3)
 refine g_virtual X3 hx hby hZ hown (rm_hasp l Z a0 hw [] o q h3 n0 z7 f6) w94_ w95_ (notFace_of_selects (args := #[]) (mvT hZ w97_)) w97_ w96_ w39_ w98_ (by decide) e3 f8 (by rw [hml]; rfl) [] (lenOf own_pd9 rfl) rfl rfl (Nat.le_of_ble_eq_true rfl) (Nat.le_of_ble_eq_true rfl) (Nat.le_of_ble_eq_true rfl) (Nat.le_of_ble_eq_true rfl) d20_14 (fun v4 T4 L4 X4 hQ4 => ?_)
 obtain ⟨rfl, N4q, eh4⟩ := hQ4
 have N4 := Fr.app N3 N4q
 refine g_topI (T := T4) (1 : Int32) (if_neg hq) ?_
 refine g_ifN X4 hx hby d20_17 (feq (by decide : ¬ ((1 : Int32) = (0 : Int32)))).1 ?_
 refine g_aloadN X4 hx hby d20_20 rfl rfl ?_
 refine g_aloadN X4 hx hby d20_21 rfl rfl ?_
 refine g_virtual X4 hx hby hZ hown (rm_gpri l Z a0 hw [] o q h3 n0 z7 f6) w100_ w101_ (notFace_of_selects (args := #[]) (mvT hZ w103_)) w103_ w102_ w39_ w104_ (by decide) eh4 f8 (by rw [hml]; rfl) [] (lenOf own_pd7 rfl) rfl rfl (Nat.le_of_ble_eq_true rfl) (Nat.le_of_ble_eq_true rfl) (Nat.le_of_ble_eq_true rfl) (Nat.le_of_ble_eq_true rfl) d20_22 (fun v9 T9 L9 X9 hQ9 => ?_)
 obtain ⟨rfl, N9q, eh9⟩ := hQ9
 have N9 := Fr.app N4 N9q
 refine g_at 25 rfl rfl rfl ?_
 have f11 := (OLD.wr W3 ga)
 have f12 := (EB.wr W3)
 have f13 := (FS.other W3 (Or.inr (slot_ne (Or.inr w36_) (Or.inl w78_) (by decide) (t := (.object "com/example/tidegate/tidegate/engine/Side")) (t' := .long) (by decide) (by decide))))
 have f14 := (FR.other W3 (Or.inr (slot_ne (Or.inl w19_) (Or.inl w78_) (by decide) (t := (.array .long)) (t' := .long) (by decide) (by decide))))
 have f15 := (FN.other W3 (Or.inr (slot_ne (Or.inl w68_) (Or.inl w78_) (by decide) (t := .int) (t' := .long) (by decide) (by decide))))
 have ne16 : rk ≠ a := (Ne.symm (Exa.neArv EB VR w9_))
 have f17 := (VR.other W3 ne16)
 refine g_private X9 hx hby hZ hown (rm_idxG l Z a0 hw [] a q sd t rk kr vs rs ba h3 n0 z7 SB f11 f12 f13 f14 f15 ht f17 gr hl3) w109_ w110_ w9_ w111_ w10_ w112_ (by decide) eh9 f12 (by rw [hml]; rfl) [(.long q)] (lenOf own_pd6 rfl) rfl rfl (Nat.le_of_ble_eq_true rfl) (Nat.le_of_ble_eq_true rfl) (Nat.le_of_ble_eq_true rfl) (Nat.le_of_ble_eq_true rfl) d20_25 (fun v10 T10 L10 X10 hQ10 => ?_)
 obtain ⟨rfl, N10q, eh10⟩ := hQ10
 have N10 := Fr.app N9 N10q
 refine g_topI (T := T10) (Int32.ofNat i) hix ?_
 refine g_goto X10 hx hby 32 d20_28 (by decide) (by decide) ?_
 refine g_istoreN X10 hx hby d20_32 (l' := #[.val (.ref a), .val (.ref o), .val (.int (Int32.ofNat i)), .unset]) rfl ?_
 refine g_iloadN X10 hx hby d20_33 rfl ?_
 refine g_ifY X10 hx hby 44 d20_34 (flt ((own_nneg (by omega)) : ¬ ((Int32.ofNat i) < (0 : Int32)))).2.1 (by decide) (by decide) ?_
 refine g_aloadN X10 hx hby d20_44 rfl rfl ?_
 have f18 := (FL.other W3 (Or.inr (slot_ne (Or.inl w23_) (Or.inl w78_) (by decide) (t := (.array (.object "com/example/tidegate/tidegate/engine/BookSide$Level"))) (t' := .long) (by decide) (by decide))))
 refine g_getF X10 hx hby hZ hown (host := "") (Or.inl w22_) Via.refl eh10 f18 d20_45 (fun T19 X19 e19 => ?_)
 refine g_iloadN X19 hx hby d20_48 rfl ?_
 have ne20 : la ≠ a := (Ne.symm (Exa.neArv EB VL w9_))
 have f21 := (VL.other W3 ne20)
 refine g_aaload X19 hx hby hZ e19 f21 rfl (.ref (As.getD i 0)) (own_in2 (by omega)) (by rw [own_tn2 (by omega)]; exact gl i (by omega)) d20_49 ?_
 refine g_astoreN X19 hx hby d20_50 rfl (l' := #[.val (.ref a), .val (.ref o), .val (.int (Int32.ofNat i)), .val (.ref (As.getD i 0))]) rfl ?_
 refine g_aloadN X19 hx hby d20_51 rfl rfl ?_
 have f22 := (o5.other W3 (Or.inl ne5))
 refine g_getF X19 hx hby hZ hown (host := "") (Or.inl w140_) Via.refl e19 f22 d20_52 (fun T23 X23 e23 => ?_)
 refine g_ifnonnullN X23 hx hby d20_55 ?_
 refine g_aloadN X23 hx hby d20_58 rfl rfl ?_
 refine g_aloadN X23 hx hby d20_59 rfl rfl ?_
 have f24 := (o6.other W3 (Or.inl ne5))
 refine g_getF X23 hx hby hZ hown (host := "") (Or.inl w142_) Via.refl e23 f24 d20_60 (fun T25 X25 e25 => ?_)
 have f26 := (lE.wr W3)
 have ne27 : (As.getD i 0) ≠ a := (Exa.ne lE EB (by decide))
 have f28 := (lF.other W3 (Or.inl ne27))
 refine g_putFR X25 hx hby hZ hown w65_ e25 f28 f26 w66_ w24_ (.object "com/example/tidegate/tidegate/engine/Order") (by decide) rfl rfl N10 glv d20_63 (fun T29 h29 X29 e29 W29 F29 N29 => ?_)
 refine g_goto X29 hx hby 80 d20_66 (by decide) (by decide) ?_
 refine g_aloadN X29 hx hby d20_80 rfl rfl ?_
 have ne30 : o ≠ (As.getD i 0) := (Exa.ne oE lE (by decide))
 have f31 := (f24.other W29 (Or.inl ne30))
 refine g_getF X29 hx hby hZ hown (host := "") (Or.inl w142_) Via.refl e29 f31 d20_81 (fun T32 X32 e32 => ?_)
 refine g_ifnonnullN X32 hx hby d20_84 ?_
 refine g_aloadN X32 hx hby d20_87 rfl rfl ?_
 refine g_aloadN X32 hx hby d20_88 rfl rfl ?_
 have f33 := (f22.other W29 (Or.inl ne30))
 refine g_getF X32 hx hby hZ hown (host := "") (Or.inl w140_) Via.refl e32 f33 d20_89 (fun T34 X34 e34 => ?_)
 have f35 := (f26.wr W29)
 have f36 := ((lL.other W3 (Or.inl ne27)).other W29 (Or.inr (slot_ne (Or.inl w139_) (Or.inl w66_) (by decide) (t := (.object "com/example/tidegate/tidegate/engine/Order")) (t' := (.object "com/example/tidegate/tidegate/engine/Order")) (by decide) (by decide))))
 refine g_putFR X34 hx hby hZ hown w138_ e34 f36 f35 w139_ w24_ (.object "com/example/tidegate/tidegate/engine/Order") (by decide) rfl rfl N29 glv d20_92 (fun T37 h37 X37 e37 W37 F37 N37 => ?_)
 refine g_goto X37 hx hby 109 d20_95 (by decide) (by decide) ?_
 refine g_aloadN X37 hx hby d20_109 rfl rfl ?_
 refine g_aconst_null X37 hx hby d20_110 ?_
 have f38 := ((f8.wr W29).wr W37)
 have f39 := (((o7.other W3 (Or.inl ne5)).other W29 (Or.inl ne30)).other W37 (Or.inl ne30))
 refine g_putF X37 hx hby hZ hown (host := "") (Or.inl w136_) Via.refl e37 f39 f38 (Or.inl w137_) w38_ (.object "com/example/tidegate/tidegate/engine/BookSide") (by decide) rfl rfl N37 go d20_111 (fun T40 h40 X40 e40 W40 F40 N40 => ?_)
 refine g_aloadN X40 hx hby d20_114 rfl rfl ?_
 refine g_aconst_null X40 hx hby d20_115 ?_
 have f41 := (f38.wr W40)
 have f42 := ((f33.other W37 (Or.inl ne30)).other W40 (Or.inr (slot_ne (Or.inl w141_) (Or.inl w137_) (by decide) (t := (.object "com/example/tidegate/tidegate/engine/Order")) (t' := (.object "com/example/tidegate/tidegate/engine/BookSide")) (by decide) (by decide))))
 refine g_putF X40 hx hby hZ hown (host := "") (Or.inl w140_) Via.refl e40 f42 f41 (Or.inl w141_) w38_ (.object "com/example/tidegate/tidegate/engine/Order") (by decide) rfl rfl N40 go d20_116 (fun T43 h43 X43 e43 W43 F43 N43 => ?_)
 refine g_aloadN X43 hx hby d20_119 rfl rfl ?_
 refine g_aconst_null X43 hx hby d20_120 ?_
 have f44 := (f41.wr W43)
 have f45 := (((f31.other W37 (Or.inl ne30)).other W40 (Or.inr (slot_ne (Or.inl w143_) (Or.inl w137_) (by decide) (t := (.object "com/example/tidegate/tidegate/engine/Order")) (t' := (.object "com/example/tidegate/tidegate/engine/BookSide")) (by decide) (by decide)))).other W43 (Or.inr (slot_ne (Or.inl w143_) (Or.inl w141_) (by decide) (t := (.object "com/example/tidegate/tidegate/engine/Order")) (t' := (.object "com/example/tidegate/tidegate/engine/Order")) (by decide) (by decide))))
 refine g_putF X43 hx hby hZ hown (host := "") (Or.inl w142_) Via.refl e43 f45 f44 (Or.inl w143_) w38_ (.object "com/example/tidegate/tidegate/engine/Order") (by decide) rfl rfl N43 go d20_121 (fun T46 h46 X46 e46 W46 F46 N46 => ?_)
 refine g_aloadN X46 hx hby d20_124 rfl rfl ?_
 have f47 := ((((F29.other W37 (Or.inr (slot_ne (Or.inl w66_) (Or.inl w139_) (by decide) (t := (.object "com/example/tidegate/tidegate/engine/Order")) (t' := (.object "com/example/tidegate/tidegate/engine/Order")) (by decide) (by decide)))).other W40 (Or.inl (Ne.symm ne30))).other W43 (Or.inl (Ne.symm ne30))).other W46 (Or.inl (Ne.symm ne30)))
 refine g_getFR X46 hx hby hZ hown w65_ e46 f47 d20_125 (fun T48 X48 e48 => ?_)
 refine g_ifnonnullN X48 hx hby d20_128 ?_
 refine g_iloadN X48 hx hby d20_131 rfl ?_
 refine g_ifN X48 hx hby d20_132 (flt ((own_nneg (by omega)) : ¬ ((Int32.ofNat i) < (0 : Int32)))).1 ?_
 refine g_aloadN X48 hx hby d20_135 rfl rfl ?_
 refine g_dup X48 hx hby d20_136 rfl ?_
 have f49 := (((((f15.other W29 (Or.inl (Ne.symm ne27))).other W37 (Or.inl (Ne.symm ne27))).other W40 (Or.inl (Ne.symm ne5))).other W43 (Or.inl (Ne.symm ne5))).other W46 (Or.inl (Ne.symm ne5)))
 refine g_getF X48 hx hby hZ hown (host := "") (Or.inl w67_) Via.refl e48 f49 d20_137 (fun T50 X50 e50 => ?_)
 refine g_iconst X50 hx hby (1 : Int32) d20_140 rfl ?_
 refine g_isub X50 hx hby d20_141 ?_
 refine g_topI (Int32.ofNat (rs.length - 1)) (own_sub1 (by omega) (by omega)) ?_
 have f51 := (((((f12.wr W29).wr W37).wr W40).wr W43).wr W46)
 refine g_putF X50 hx hby hZ hown (host := "") (Or.inl w67_) Via.refl e50 f49 f51 (Or.inl w68_) w9_ .int (by decide) rfl rfl N46 ga d20_142 (fun T52 h52 X52 e52 W52 F52 N52 => ?_)
 refine g_aloadN X52 hx hby d20_145 rfl rfl ?_
 have f53 := ((((((f14.other W29 (Or.inl (Ne.symm ne27))).other W37 (Or.inl (Ne.symm ne27))).other W40 (Or.inl (Ne.symm ne5))).other W43 (Or.inl (Ne.symm ne5))).other W46 (Or.inl (Ne.symm ne5))).other W52 (Or.inr (slot_ne (Or.inl w19_) (Or.inl w68_) (by decide) (t := (.array .long)) (t' := .int) (by decide) (by decide))))
 refine g_getF X52 hx hby hZ hown (host := "") (Or.inl w18_) Via.refl e52 f53 d20_146 (fun T54 X54 e54 => ?_)
 refine g_iloadN X54 hx hby d20_149 rfl ?_
 refine g_iconst X54 hx hby (1 : Int32) d20_150 rfl ?_
 refine g_iadd X54 hx hby d20_151 ?_
 refine g_topI (Int32.ofNat (i + 1)) (own_up i) ?_
 refine g_at 152 rfl rfl rfl ?_
 refine g_aloadN X54 hx hby d20_152 rfl rfl ?_
 refine g_getF X54 hx hby hZ hown (host := "") (Or.inl w18_) Via.refl e54 f53 d20_153 (fun T55 X55 e55 => ?_)
 refine g_iloadN X55 hx hby d20_156 rfl ?_
 refine g_aloadN X55 hx hby d20_157 rfl rfl ?_
 refine g_getF X55 hx hby hZ hown (host := "") (Or.inl w67_) Via.refl e55 F52 d20_158 (fun T56 X56 e56 => ?_)
 refine g_iloadN X56 hx hby d20_161 rfl ?_
 refine g_isub X56 hx hby d20_162 ?_
 refine g_topI (Int32.ofNat (rs.length - 1 - i)) (own_subN (by omega) (by omega)) ?_
 have ne58 : rk ≠ (As.getD i 0) := (Ne.symm (Exa.neArv lE VR w24_))
 have ne59 : rk ≠ o := (Ne.symm (Exa.neArv oE VR w38_))
 have f60 := ((((((f17.other W29 ne58).other W37 ne58).other W40 ne59).other W43 ne59).other W46 ne59).other W52 ne16)
 refine g_arraycopyE X56 hx hby hZ hown w131_ w134_ w132_ w133_ e56 f60 f60 (Or.inl ⟨rfl, rfl⟩) (own_nneg (by omega)) (own_nneg (by omega)) (own_nneg (by omega)) (by rw [own_tn2 (by omega), own_tn2 (by omega)]; show _ ≤ 16; omega) (by rw [own_tn2 (by omega), own_tn2 (by omega)]; show _ ≤ 16; omega) rfl (by rw [own_tn2 (by omega), own_tn2 (by omega)]; omega) N52 grk (by rw [hml]; rfl) d20_163 (Nat.le_of_ble_eq_true rfl) (Nat.le_of_ble_eq_true rfl) (fun T57 h57 L57 vs57 evs57 X57 e57 N57 K57 V57 => ?_)
 rw [own_tn2 (i := i) (by omega), own_tn2 (i := rs.length - 1 - i) (by omega), own_tn2 (i := i + 1) (by omega)] at evs57
 have hv57 : 16 ≤ vs57.length := by rw [evs57, own_cplen (by omega)]; exact hvl
 refine g_aloadN X57 hx hby d20_166 rfl rfl ?_
 have f61 := (((((((f18.other W29 (Or.inl (Ne.symm ne27))).other W37 (Or.inl (Ne.symm ne27))).other W40 (Or.inl (Ne.symm ne5))).other W43 (Or.inl (Ne.symm ne5))).other W46 (Or.inl (Ne.symm ne5))).other W52 (Or.inr (slot_ne (Or.inl w23_) (Or.inl w68_) (by decide) (t := (.array (.object "com/example/tidegate/tidegate/engine/BookSide$Level"))) (t' := .int) (by decide) (by decide)))).keep K57 (ninS (Ne.symm ne16) nin0))
 refine g_getF X57 hx hby hZ hown (host := "") (Or.inl w22_) Via.refl e57 f61 d20_167 (fun T62 X62 e62 => ?_)
 refine g_iloadN X62 hx hby d20_170 rfl ?_
 refine g_iconst X62 hx hby (1 : Int32) d20_171 rfl ?_
 refine g_iadd X62 hx hby d20_172 ?_
 refine g_topI (Int32.ofNat (i + 1)) (own_up i) ?_
 refine g_aloadN X62 hx hby d20_173 rfl rfl ?_
 refine g_getF X62 hx hby hZ hown (host := "") (Or.inl w22_) Via.refl e62 f61 d20_174 (fun T63 X63 e63 => ?_)
 refine g_iloadN X63 hx hby d20_177 rfl ?_
 refine g_aloadN X63 hx hby d20_178 rfl rfl ?_
 have f64 := (F52.keep K57 (ninS (Ne.symm ne16) nin0))
 refine g_getF X63 hx hby hZ hown (host := "") (Or.inl w67_) Via.refl e63 f64 d20_179 (fun T65 X65 e65 => ?_)
 refine g_iloadN X65 hx hby d20_182 rfl ?_
 refine g_isub X65 hx hby d20_183 ?_
 refine g_topI (Int32.ofNat (rs.length - 1 - i)) (own_subN (by omega) (by omega)) ?_
 have ne66 : la ≠ (As.getD i 0) := (Ne.symm (Exa.neArv lE VL w24_))
 have ne67 : la ≠ o := (Ne.symm (Exa.neArv oE VL w38_))
 have f68 := (((((((f21.other W29 ne66).other W37 ne66).other W40 ne67).other W43 ne67).other W46 ne67).other W52 ne20).keep K57 (ninS (Ne.symm nrl) nin0))
 refine g_arraycopyE X65 hx hby hZ hown w131_ w134_ w132_ w133_ e65 f68 f68 (Or.inr ⟨rfl, rfl, own_stoR f68 OV (fun k hk => by
    rw [own_tn2 (by omega)] at hk
    refine Or.inr ⟨As.getD ((i + 1) + k) 0, ?_, Ins.self ((EAs _ (own_mem (by omega))).keep (((((((((Keep.refl h0 [a, o, (As.getD i 0), rk, la]).wr W3 (Or.inl (List.mem_of_getElem? (i := 0) rfl))).wr W29 (Or.inl (List.mem_of_getElem? (i := 2) rfl))).wr W37 (Or.inl (List.mem_of_getElem? (i := 2) rfl))).wr W40 (Or.inl (List.mem_of_getElem? (i := 1) rfl))).wr W43 (Or.inl (List.mem_of_getElem? (i := 1) rfl))).wr W46 (Or.inl (List.mem_of_getElem? (i := 1) rfl))).wr W52 (Or.inl (List.mem_of_getElem? (i := 0) rfl))).trans K57 (allS (Or.inl (List.mem_of_getElem? (i := 3) rfl)) all0)))⟩
    rw [own_tn2 (by omega)]; exact gl ((i + 1) + k) (by omega))⟩) (own_nneg (by omega)) (own_nneg (by omega)) (own_nneg (by omega)) (by rw [own_tn2 (by omega), own_tn2 (by omega)]; show _ ≤ 16; omega) (by rw [own_tn2 (by omega), own_tn2 (by omega)]; show _ ≤ 16; omega) rfl (by rw [own_tn2 (by omega), own_tn2 (by omega)]; omega) N57 gla (by rw [hml]; rfl) d20_184 (Nat.le_of_ble_eq_true rfl) (Nat.le_of_ble_eq_true rfl) (fun T69 h69 L69 vs69 evs69 X69 e69 N69 K69 V69 => ?_)
 rw [own_tn2 (i := i) (by omega), own_tn2 (i := rs.length - 1 - i) (by omega), own_tn2 (i := i + 1) (by omega)] at evs69
 have hv69 : 16 ≤ vs69.length := by rw [evs69, own_cplen (by omega)]; exact hwl
 refine g_aloadN X69 hx hby d20_187 rfl rfl ?_
 have f70 := (f61.keep K69 (ninS (Ne.symm ne20) nin0))
 refine g_getF X69 hx hby hZ hown (host := "") (Or.inl w22_) Via.refl e69 f70 d20_188 (fun T71 X71 e71 => ?_)
 refine g_aloadN X71 hx hby d20_191 rfl rfl ?_
 have f72 := (f64.keep K69 (ninS (Ne.symm ne20) nin0))
 refine g_getF X71 hx hby hZ hown (host := "") (Or.inl w67_) Via.refl e71 f72 d20_192 (fun T73 X73 e73 => ?_)
 refine g_aconst_null X73 hx hby d20_195 ?_
 refine g_at 196 rfl rfl rfl ?_
 refine g_aastore X73 hx hby hZ e73 V69 OV (Or.inl rfl) (rs.length - 1) (vs69.set (rs.length - 1) .null) rfl (own_in2 (by omega)) (own_tn2 (by omega)) (by omega) N69 gla d20_196 (fun T74 h74 X74 e74 W74 V74 N74 => ?_)
 have f75 := ((((f51.wr W52).keep K57).keep K69).wr W74)
 have f76 := (((f53.keep K57 (ninS (Ne.symm ne16) nin0)).keep K69 (ninS (Ne.symm ne20) nin0)).other W74 (Or.inl (Ne.symm ne20)))
 have f77 := (f70.other W74 (Or.inl (Ne.symm ne20)))
 have f78 := ((((((((((FU.other W3 (Or.inr (slot_ne (Or.inr w34_) (Or.inl w78_) (by decide) (t := (.object "com/example/tidegate/tidegate/engine/BookSide$Level")) (t' := .long) (by decide) (by decide)))).other W29 (Or.inl (Ne.symm ne27))).other W37 (Or.inl (Ne.symm ne27))).other W40 (Or.inl (Ne.symm ne5))).other W43 (Or.inl (Ne.symm ne5))).other W46 (Or.inl (Ne.symm ne5))).other W52 (Or.inr (slot_ne (Or.inr w34_) (Or.inl w68_) (by decide) (t := (.object "com/example/tidegate/tidegate/engine/BookSide$Level")) (t' := .int) (by decide) (by decide)))).keep K57 (ninS (Ne.symm ne16) nin0)).keep K69 (ninS (Ne.symm ne20) nin0)).other W74 (Or.inl (Ne.symm ne20)))
 have f79 := (((((((((f13.other W29 (Or.inl (Ne.symm ne27))).other W37 (Or.inl (Ne.symm ne27))).other W40 (Or.inl (Ne.symm ne5))).other W43 (Or.inl (Ne.symm ne5))).other W46 (Or.inl (Ne.symm ne5))).other W52 (Or.inr (slot_ne (Or.inr w36_) (Or.inl w68_) (by decide) (t := (.object "com/example/tidegate/tidegate/engine/Side")) (t' := .int) (by decide) (by decide)))).keep K57 (ninS (Ne.symm ne16) nin0)).keep K69 (ninS (Ne.symm ne20) nin0)).other W74 (Or.inl (Ne.symm ne20)))
 have f80 := (f72.other W74 (Or.inl (Ne.symm ne20)))
 have f81 := (((((((((F3.other W29 (Or.inl (Ne.symm ne27))).other W37 (Or.inl (Ne.symm ne27))).other W40 (Or.inl (Ne.symm ne5))).other W43 (Or.inl (Ne.symm ne5))).other W46 (Or.inl (Ne.symm ne5))).other W52 (Or.inr (slot_ne (Or.inl w78_) (Or.inl w68_) (by decide) (t := .long) (t' := .int) (by decide) (by decide)))).keep K57 (ninS (Ne.symm ne16) nin0)).keep K69 (ninS (Ne.symm ne20) nin0)).other W74 (Or.inl (Ne.symm ne20)))
 have iR := own_delD (f := Value.long) (i := i) (vs' := vs57) hi hvl hl3 gr evs57
 have iL := own_delD (f := Value.ref) (i := i) (vs' := vs69) (z := 0) (rs := As) (by omega) hwl (by omega) gl (by rw [← hra]; exact evs69)
 have lA : (As.eraseIdx i).length = As.length - 1 := List.length_eraseIdx_of_lt (by omega)
 have lR : (rs.eraseIdx i).length = rs.length - 1 := List.length_eraseIdx_of_lt hi
 have f82 := ((V57.keep K69 (ninS nrl nin0)).other W74 nrl)
 have f83 := (((((f44.wr W46).wr W52).keep K57).keep K69).wr W74)
 have f84 := (((((((((f6.other W29 (Or.inl ne30)).other W37 (Or.inl ne30)).other W40 (Or.inr (slot_ne (Or.inl w55_) (Or.inl w137_) (by decide) (t := .long) (t' := (.object "com/example/tidegate/tidegate/engine/BookSide")) (by decide) (by decide)))).other W43 (Or.inr (slot_ne (Or.inl w55_) (Or.inl w141_) (by decide) (t := .long) (t' := (.object "com/example/tidegate/tidegate/engine/Order")) (by decide) (by decide)))).other W46 (Or.inr (slot_ne (Or.inl w55_) (Or.inl w143_) (by decide) (t := .long) (t' := (.object "com/example/tidegate/tidegate/engine/Order")) (by decide) (by decide)))).other W52 (Or.inl ne5)).keep K57 (ninS (Ne.symm ne59) nin0)).keep K69 (ninS (Ne.symm ne67) nin0)).other W74 (Or.inl (Ne.symm ne67)))
 have f85 := ((((((((((o2.other W3 (Or.inl ne5)).other W29 (Or.inl ne30)).other W37 (Or.inl ne30)).other W40 (Or.inr (slot_ne (Or.inr w57_) (Or.inl w137_) (by decide) (t := .long) (t' := (.object "com/example/tidegate/tidegate/engine/BookSide")) (by decide) (by decide)))).other W43 (Or.inr (slot_ne (Or.inr w57_) (Or.inl w141_) (by decide) (t := .long) (t' := (.object "com/example/tidegate/tidegate/engine/Order")) (by decide) (by decide)))).other W46 (Or.inr (slot_ne (Or.inr w57_) (Or.inl w143_) (by decide) (t := .long) (t' := (.object "com/example/tidegate/tidegate/engine/Order")) (by decide) (by decide)))).other W52 (Or.inl ne5)).keep K57 (ninS (Ne.symm ne59) nin0)).keep K69 (ninS (Ne.symm ne67) nin0)).other W74 (Or.inl (Ne.symm ne67)))
 have f86 := ((((((((((o3.other W3 (Or.inl ne5)).other W29 (Or.inl ne30)).other W37 (Or.inl ne30)).other W40 (Or.inr (slot_ne (Or.inl w59_) (Or.inl w137_) (by decide) (t := .long) (t' := (.object "com/example/tidegate/tidegate/engine/BookSide")) (by decide) (by decide)))).other W43 (Or.inr (slot_ne (Or.inl w59_) (Or.inl w141_) (by decide) (t := .long) (t' := (.object "com/example/tidegate/tidegate/engine/Order")) (by decide) (by decide)))).other W46 (Or.inr (slot_ne (Or.inl w59_) (Or.inl w143_) (by decide) (t := .long) (t' := (.object "com/example/tidegate/tidegate/engine/Order")) (by decide) (by decide)))).other W52 (Or.inl ne5)).keep K57 (ninS (Ne.symm ne59) nin0)).keep K69 (ninS (Ne.symm ne67) nin0)).other W74 (Or.inl (Ne.symm ne67)))
 have f87 := ((((((((((o4.other W3 (Or.inl ne5)).other W29 (Or.inl ne30)).other W37 (Or.inl ne30)).other W40 (Or.inr (slot_ne (Or.inl w93_) (Or.inl w137_) (by decide) (t := .long) (t' := (.object "com/example/tidegate/tidegate/engine/BookSide")) (by decide) (by decide)))).other W43 (Or.inr (slot_ne (Or.inl w93_) (Or.inl w141_) (by decide) (t := .long) (t' := (.object "com/example/tidegate/tidegate/engine/Order")) (by decide) (by decide)))).other W46 (Or.inr (slot_ne (Or.inl w93_) (Or.inl w143_) (by decide) (t := .long) (t' := (.object "com/example/tidegate/tidegate/engine/Order")) (by decide) (by decide)))).other W52 (Or.inl ne5)).keep K57 (ninS (Ne.symm ne59) nin0)).keep K69 (ninS (Ne.symm ne67) nin0)).other W74 (Or.inl (Ne.symm ne67)))
 have f88 := (((((F43.other W46 (Or.inr (slot_ne (Or.inl w141_) (Or.inl w143_) (by decide) (t := (.object "com/example/tidegate/tidegate/engine/Order")) (t' := (.object "com/example/tidegate/tidegate/engine/Order")) (by decide) (by decide)))).other W52 (Or.inl ne5)).keep K57 (ninS (Ne.symm ne59) nin0)).keep K69 (ninS (Ne.symm ne67) nin0)).other W74 (Or.inl (Ne.symm ne67)))
 have f89 := ((((F46.other W52 (Or.inl ne5)).keep K57 (ninS (Ne.symm ne59) nin0)).keep K69 (ninS (Ne.symm ne67) nin0)).other W74 (Or.inl (Ne.symm ne67)))
 have f90 := ((((((F40.other W43 (Or.inr (slot_ne (Or.inl w137_) (Or.inl w141_) (by decide) (t := (.object "com/example/tidegate/tidegate/engine/BookSide")) (t' := (.object "com/example/tidegate/tidegate/engine/Order")) (by decide) (by decide)))).other W46 (Or.inr (slot_ne (Or.inl w137_) (Or.inl w143_) (by decide) (t := (.object "com/example/tidegate/tidegate/engine/BookSide")) (t' := (.object "com/example/tidegate/tidegate/engine/Order")) (by decide) (by decide)))).other W52 (Or.inl ne5)).keep K57 (ninS (Ne.symm ne59) nin0)).keep K69 (ninS (Ne.symm ne67) nin0)).other W74 (Or.inl (Ne.symm ne67)))
 have f91 := ((((((((f35.wr W37).wr W40).wr W43).wr W46).wr W52).keep K57).keep K69).wr W74)
 have f92 := ((((f47.other W52 (Or.inl ne27)).keep K57 (ninS (Ne.symm ne58) nin0)).keep K69 (ninS (Ne.symm ne66) nin0)).other W74 (Or.inl (Ne.symm ne66)))
 have f93 := (((((((F37.other W40 (Or.inl (Ne.symm ne30))).other W43 (Or.inl (Ne.symm ne30))).other W46 (Or.inl (Ne.symm ne30))).other W52 (Or.inl ne27)).keep K57 (ninS (Ne.symm ne58) nin0)).keep K69 (ninS (Ne.symm ne66) nin0)).other W74 (Or.inl (Ne.symm ne66)))
 refine g_ret X74 hx hby Bd.returns Bd.notSynchronized d20_197 e74 (by decide) (by decide) ?_
 show (Q_remS Z a q sd rk la up qy o t kr kl rs As i f0 l0 oro ba h0 n0) none _ _
 exact ⟨rfl, N74, (((((((((((Keep.refl h0 [a, o, (As.getD i 0), rk, la]).wr W3 (Or.inl (List.mem_of_getElem? (i := 0) rfl))).wr W29 (Or.inl (List.mem_of_getElem? (i := 2) rfl))).wr W37 (Or.inl (List.mem_of_getElem? (i := 2) rfl))).wr W40 (Or.inl (List.mem_of_getElem? (i := 1) rfl))).wr W43 (Or.inl (List.mem_of_getElem? (i := 1) rfl))).wr W46 (Or.inl (List.mem_of_getElem? (i := 1) rfl))).wr W52 (Or.inl (List.mem_of_getElem? (i := 0) rfl))).trans K57 (allS (Or.inl (List.mem_of_getElem? (i := 3) rfl)) all0)).trans K69 (allS (Or.inl (List.mem_of_getElem? (i := 4) rfl)) all0)).wr W74 (Or.inl (List.mem_of_getElem? (i := 4) rfl))), ⟨⟨_, f82, iR.1, iR.2⟩, ⟨_, V74, by rw [List.length_set]; exact iL.1, fun k hk => by rw [own_setN (by omega)]; exact iL.2 k hk⟩, by omega, by omega⟩, ⟨f75, f76, f77, f78, f79, (by rw [lR]; exact f80), f81⟩, ⟨f83, f84, f85, f86, f87, f88, f89, f90⟩, ⟨f91, f92, f93⟩⟩

theorem d6_0 : decode prog_2_method_2_code 0 = .ok (.aload_n 0, 1) := by decide +kernel
theorem d6_1 : decode prog_2_method_2_code 1 = .ok (.getfield 26, 3) := by decide +kernel
theorem d6_4 : decode prog_2_method_2_code 4 = .ok (.getfield 34, 3) := by decide +kernel
theorem d6_7 : decode prog_2_method_2_code 7 = .ok (.ifnull 11, 3) := by decide +kernel
theorem d6_10 : decode prog_2_method_2_code 10 = .ok (.aload_n 0, 1) := by decide +kernel
theorem d6_11 : decode prog_2_method_2_code 11 = .ok (.getfield 26, 3) := by decide +kernel
theorem d6_14 : decode prog_2_method_2_code 14 = .ok (.getfield 34, 3) := by decide +kernel
theorem d6_17 : decode prog_2_method_2_code 17 = .ok (.areturn, 1) := by decide +kernel
def Q_firU (Z : State) (a : Addr) (sd : Addr) (rk : Addr) (la : Addr) (up : Addr) (qy : Int64) (cn : Int32) (f0 : Addr) (lv : Value) (h0 : Heap) (n0 : Nat) (v : Option Value) (h : Heap) (L : List Loc) : Prop := v = some (.ref f0) ∧ Fr n0 L ∧ h = h0
set_option maxRecDepth 65536 in
set_option maxHeartbeats 40000000 in
theorem rm_firU (l : Launch) (Z : State) (a0 : Array Value) (hw : ∀ d ∈ tables_1, d.before a0 Z = true) (ws : List Jvm.Cond) (a : Addr) (sd : Addr) (rk : Addr) (la : Addr) (up : Addr) (qy : Int64) (cn : Int32) (f0 : Addr) (lv : Value) (h0 : Heap) (n0 : Nat) (Z0 : n0 ≤ h0.size) (BBp : own_BB Z h0 a rk la up sd cn qy) (LLp : own_LL Z h0 up (.ref f0) lv) :
  MetFree l (⟨"com/example/tidegate/tidegate/engine/BookSide", "first", "()Lcom/example/tidegate/tidegate/engine/Order;"⟩ : MethodName) (head1 (Jvm.Cond.code (⟨"com/example/tidegate/tidegate/engine/BookSide", "first", "()Lcom/example/tidegate/tidegate/engine/Order;"⟩ : MethodName) prog_2_method_2_code 1 (some (.object "com/example/tidegate/tidegate/engine/Order")) :: ws) ({ frames := 1, cells := 0, slots := 0, locals := 1 } : Room)) (fun aa_ U => aa_ = #[(.ref a)] ∧ Z.Warmed39 U.vm ∧ U.heap = h0) (fun _ _ _ _ _ => True) (fun _ U o_ U' => RetG U (Q_firU Z a sd rk la up qy cn f0 lv h0 n0) 0 0 U' o_) := by
 refine MetFree.of_bodySF (plainFor_of_name own_pn1) hisR ?_
 intro p e s m args below meth c_ s₁ Bd hml0 hP hK
 obtain ⟨rfl, hZ, hh⟩ := hP
 have hx := Bd.exec
 have hby := Bd.bytes
 have hml : c_.maxLocals = 1 := hml0
 have hown : s.vm.findClass "com/example/tidegate/tidegate/engine/BookSide" = some m.cls := findClass_of_methodNamed Bd.named
 have hnm := (name_of_methodNamed Bd.named Bd.method).1
 have X0 : Stand p l e ({ frames := 1, cells := 0, slots := 0, locals := 1 } : Room) s m #[(.ref a)] below meth c_ s₁ [] 0 0 := Stand.of_body Bd
 have e0 : s₁.heap = h0 := by rw [← hh, Bd.state]; rfl
 have N0 := Fr.nil n0
 have w33_ := hw _ (List.mem_of_getElem? (i := 33) rfl)
 have w65_ := hw _ (List.mem_of_getElem? (i := 65) rfl)
 obtain ⟨EB, FR, FL, FU, FS, FN, FQ⟩ := BBp
 obtain ⟨lE, lF, lL⟩ := LLp
 show Go p e below (RetG s (Q_firU Z a sd rk la up qy cn f0 lv h0 n0) 0 0) (s₁.setTop (entryFrame m #[(.ref a)] 1))
 rw [show entryFrame m #[(.ref a)] 1 = mkF m 0 #[.val (.ref a)] [] from by first | (simp [entryFrame, mkF, argsToLocals, Value.category]; done) | rfl]
 refine g_aloadN X0 hx hby d6_0 rfl rfl ?_
 refine g_getF X0 hx hby hZ hown (host := "") (Or.inl w33_) Via.refl e0 FU d6_1 (fun T1 X1 e1 => ?_)
 refine g_getFR X1 hx hby hZ hown w65_ e1 lF d6_4 (fun T2 X2 e2 => ?_)
 refine g_ifnullN X2 hx hby d6_7 ?_
 refine g_aloadN X2 hx hby d6_10 rfl rfl ?_
 refine g_getF X2 hx hby hZ hown (host := "") (Or.inl w33_) Via.refl e2 FU d6_11 (fun T3 X3 e3 => ?_)
 refine g_getFR X3 hx hby hZ hown w65_ e3 lF d6_14 (fun T4 X4 e4 => ?_)
 refine g_aret X4 hx hby (t := (.object "com/example/tidegate/tidegate/engine/Order")) rfl rfl rfl Bd.returns Bd.notSynchronized d6_17 e4 (by decide) (by decide) ?_
 show (Q_firU Z a sd rk la up qy cn f0 lv h0 n0) (some (.ref f0)) _ _
 exact ⟨rfl, N0, rfl⟩

theorem d6_18 : decode prog_2_method_2_code 18 = .ok (.aload_n 0, 1) := by decide +kernel
theorem d6_19 : decode prog_2_method_2_code 19 = .ok (.getfield 38, 3) := by decide +kernel
theorem d6_22 : decode prog_2_method_2_code 22 = .ok (.ifCond .ne 7, 3) := by decide +kernel
theorem d6_25 : decode prog_2_method_2_code 25 = .ok (.aconst_null, 1) := by decide +kernel
theorem d6_26 : decode prog_2_method_2_code 26 = .ok (.goto 17, 3) := by decide +kernel
theorem d6_43 : decode prog_2_method_2_code 43 = .ok (.areturn, 1) := by decide +kernel
def Q_firE (Z : State) (a : Addr) (sd : Addr) (rk : Addr) (la : Addr) (up : Addr) (qy : Int64) (lv : Value) (h0 : Heap) (n0 : Nat) (v : Option Value) (h : Heap) (L : List Loc) : Prop := v = some .null ∧ Fr n0 L ∧ h = h0
set_option maxRecDepth 65536 in
set_option maxHeartbeats 40000000 in
theorem rm_firE (l : Launch) (Z : State) (a0 : Array Value) (hw : ∀ d ∈ tables_1, d.before a0 Z = true) (ws : List Jvm.Cond) (a : Addr) (sd : Addr) (rk : Addr) (la : Addr) (up : Addr) (qy : Int64) (lv : Value) (h0 : Heap) (n0 : Nat) (Z0 : n0 ≤ h0.size) (BBp : own_BB Z h0 a rk la up sd (0 : Int32) qy) (LLp : own_LL Z h0 up .null lv) :
  MetFree l (⟨"com/example/tidegate/tidegate/engine/BookSide", "first", "()Lcom/example/tidegate/tidegate/engine/Order;"⟩ : MethodName) (head1 (Jvm.Cond.code (⟨"com/example/tidegate/tidegate/engine/BookSide", "first", "()Lcom/example/tidegate/tidegate/engine/Order;"⟩ : MethodName) prog_2_method_2_code 1 (some (.object "com/example/tidegate/tidegate/engine/Order")) :: ws) ({ frames := 1, cells := 0, slots := 0, locals := 1 } : Room)) (fun aa_ U => aa_ = #[(.ref a)] ∧ Z.Warmed39 U.vm ∧ U.heap = h0) (fun _ _ _ _ _ => True) (fun _ U o_ U' => RetG U (Q_firE Z a sd rk la up qy lv h0 n0) 0 0 U' o_) := by
 refine MetFree.of_bodySF (plainFor_of_name own_pn1) hisR ?_
 intro p e s m args below meth c_ s₁ Bd hml0 hP hK
 obtain ⟨rfl, hZ, hh⟩ := hP
 have hx := Bd.exec
 have hby := Bd.bytes
 have hml : c_.maxLocals = 1 := hml0
 have hown : s.vm.findClass "com/example/tidegate/tidegate/engine/BookSide" = some m.cls := findClass_of_methodNamed Bd.named
 have hnm := (name_of_methodNamed Bd.named Bd.method).1
 have X0 : Stand p l e ({ frames := 1, cells := 0, slots := 0, locals := 1 } : Room) s m #[(.ref a)] below meth c_ s₁ [] 0 0 := Stand.of_body Bd
 have e0 : s₁.heap = h0 := by rw [← hh, Bd.state]; rfl
 have N0 := Fr.nil n0
 have w33_ := hw _ (List.mem_of_getElem? (i := 33) rfl)
 have w65_ := hw _ (List.mem_of_getElem? (i := 65) rfl)
 have w67_ := hw _ (List.mem_of_getElem? (i := 67) rfl)
 obtain ⟨EB, FR, FL, FU, FS, FN, FQ⟩ := BBp
 obtain ⟨lE, lF, lL⟩ := LLp
 show Go p e below (RetG s (Q_firE Z a sd rk la up qy lv h0 n0) 0 0) (s₁.setTop (entryFrame m #[(.ref a)] 1))
 rw [show entryFrame m #[(.ref a)] 1 = mkF m 0 #[.val (.ref a)] [] from by first | (simp [entryFrame, mkF, argsToLocals, Value.category]; done) | rfl]
 refine g_aloadN X0 hx hby d6_0 rfl rfl ?_
 refine g_getF X0 hx hby hZ hown (host := "") (Or.inl w33_) Via.refl e0 FU d6_1 (fun T1 X1 e1 => ?_)
 refine g_getFR X1 hx hby hZ hown w65_ e1 lF d6_4 (fun T2 X2 e2 => ?_)
 refine g_ifnullY X2 hx hby 18 d6_7 (by decide) (by decide) ?_
 refine g_aloadN X2 hx hby d6_18 rfl rfl ?_
 refine g_getF X2 hx hby hZ hown (host := "") (Or.inl w67_) Via.refl e2 FN d6_19 (fun T3 X3 e3 => ?_)
 refine g_ifN X3 hx hby d6_22 (teq (by decide : (0 : Int32) = (0 : Int32))).2 ?_
 refine g_aconst_null X3 hx hby d6_25 ?_
 refine g_goto X3 hx hby 43 d6_26 (by decide) (by decide) ?_
 refine g_aret X3 hx hby (t := (.object "com/example/tidegate/tidegate/engine/Order")) rfl rfl rfl Bd.returns Bd.notSynchronized d6_43 e3 (by decide) (by decide) ?_
 show (Q_firE Z a sd rk la up qy lv h0 n0) (some .null) _ _
 exact ⟨rfl, N0, rfl⟩

theorem d6_29 : decode prog_2_method_2_code 29 = .ok (.aload_n 0, 1) := by decide +kernel
theorem d6_30 : decode prog_2_method_2_code 30 = .ok (.getfield 15, 3) := by decide +kernel
theorem d6_33 : decode prog_2_method_2_code 33 = .ok (.aload_n 0, 1) := by decide +kernel
theorem d6_34 : decode prog_2_method_2_code 34 = .ok (.getfield 38, 3) := by decide +kernel
theorem d6_37 : decode prog_2_method_2_code 37 = .ok (.iconst 1, 1) := by decide +kernel
theorem d6_38 : decode prog_2_method_2_code 38 = .ok (.isub, 1) := by decide +kernel
theorem d6_39 : decode prog_2_method_2_code 39 = .ok (.aaload, 1) := by decide +kernel
theorem d6_40 : decode prog_2_method_2_code 40 = .ok (.getfield 34, 3) := by decide +kernel
def Q_firP (Z : State) (a : Addr) (sd : Addr) (rk : Addr) (la : Addr) (up : Addr) (qy : Int64) (lv : Value) (kr : ClassId) (kl : ClassId) (rs : List Int64) (As : List Addr) (f0 : Addr) (mv : Value) (h0 : Heap) (n0 : Nat) (v : Option Value) (h : Heap) (L : List Loc) : Prop := v = some (.ref f0) ∧ Fr n0 L ∧ h = h0
set_option maxRecDepth 65536 in
set_option maxHeartbeats 40000000 in
theorem rm_firP (l : Launch) (Z : State) (a0 : Array Value) (hw : ∀ d ∈ tables_1, d.before a0 Z = true) (ws : List Jvm.Cond) (a : Addr) (sd : Addr) (rk : Addr) (la : Addr) (up : Addr) (qy : Int64) (lv : Value) (kr : ClassId) (kl : ClassId) (rs : List Int64) (As : List Addr) (f0 : Addr) (mv : Value) (h0 : Heap) (n0 : Nat) (Z0 : n0 ≤ h0.size) (BBp : own_BB Z h0 a rk la up sd (Int32.ofNat rs.length) qy) (LLp : own_LL Z h0 up .null lv) (ARp : own_AR Z h0 rk la kr kl rs As) (h1p : 1 ≤ rs.length) (MMp : own_LL Z h0 (As.getD (rs.length - 1) 0) (.ref f0) mv) :
  MetFree l (⟨"com/example/tidegate/tidegate/engine/BookSide", "first", "()Lcom/example/tidegate/tidegate/engine/Order;"⟩ : MethodName) (head1 (Jvm.Cond.code (⟨"com/example/tidegate/tidegate/engine/BookSide", "first", "()Lcom/example/tidegate/tidegate/engine/Order;"⟩ : MethodName) prog_2_method_2_code 1 (some (.object "com/example/tidegate/tidegate/engine/Order")) :: ws) ({ frames := 1, cells := 0, slots := 0, locals := 1 } : Room)) (fun aa_ U => aa_ = #[(.ref a)] ∧ Z.Warmed39 U.vm ∧ U.heap = h0) (fun _ _ _ _ _ => True) (fun _ U o_ U' => RetG U (Q_firP Z a sd rk la up qy lv kr kl rs As f0 mv h0 n0) 0 0 U' o_) := by
 refine MetFree.of_bodySF (plainFor_of_name own_pn1) hisR ?_
 intro p e s m args below meth c_ s₁ Bd hml0 hP hK
 obtain ⟨rfl, hZ, hh⟩ := hP
 have hx := Bd.exec
 have hby := Bd.bytes
 have hml : c_.maxLocals = 1 := hml0
 have hown : s.vm.findClass "com/example/tidegate/tidegate/engine/BookSide" = some m.cls := findClass_of_methodNamed Bd.named
 have hnm := (name_of_methodNamed Bd.named Bd.method).1
 have X0 : Stand p l e ({ frames := 1, cells := 0, slots := 0, locals := 1 } : Room) s m #[(.ref a)] below meth c_ s₁ [] 0 0 := Stand.of_body Bd
 have e0 : s₁.heap = h0 := by rw [← hh, Bd.state]; rfl
 have N0 := Fr.nil n0
 have w22_ := hw _ (List.mem_of_getElem? (i := 22) rfl)
 have w33_ := hw _ (List.mem_of_getElem? (i := 33) rfl)
 have w65_ := hw _ (List.mem_of_getElem? (i := 65) rfl)
 have w67_ := hw _ (List.mem_of_getElem? (i := 67) rfl)
 obtain ⟨EB, FR, FL, FU, FS, FN, FQ⟩ := BBp
 obtain ⟨lE, lF, lL⟩ := LLp
 obtain ⟨⟨vs, VR, hvl, gr⟩, ⟨wl, VL, hwl, gl⟩, hra, hl3⟩ := ARp
 obtain ⟨mE, mF, mL⟩ := MMp
 show Go p e below (RetG s (Q_firP Z a sd rk la up qy lv kr kl rs As f0 mv h0 n0) 0 0) (s₁.setTop (entryFrame m #[(.ref a)] 1))
 rw [show entryFrame m #[(.ref a)] 1 = mkF m 0 #[.val (.ref a)] [] from by first | (simp [entryFrame, mkF, argsToLocals, Value.category]; done) | rfl]
 refine g_aloadN X0 hx hby d6_0 rfl rfl ?_
 refine g_getF X0 hx hby hZ hown (host := "") (Or.inl w33_) Via.refl e0 FU d6_1 (fun T1 X1 e1 => ?_)
 refine g_getFR X1 hx hby hZ hown w65_ e1 lF d6_4 (fun T2 X2 e2 => ?_)
 refine g_ifnullY X2 hx hby 18 d6_7 (by decide) (by decide) ?_
 refine g_aloadN X2 hx hby d6_18 rfl rfl ?_
 refine g_getF X2 hx hby hZ hown (host := "") (Or.inl w67_) Via.refl e2 FN d6_19 (fun T3 X3 e3 => ?_)
 refine g_ifY X3 hx hby 29 d6_22 (feq ((own_ofpos (by omega) (by omega)) : ¬ ((Int32.ofNat rs.length) = (0 : Int32)))).2 (by decide) (by decide) ?_
 refine g_aloadN X3 hx hby d6_29 rfl rfl ?_
 refine g_getF X3 hx hby hZ hown (host := "") (Or.inl w22_) Via.refl e3 FL d6_30 (fun T4 X4 e4 => ?_)
 refine g_aloadN X4 hx hby d6_33 rfl rfl ?_
 refine g_getF X4 hx hby hZ hown (host := "") (Or.inl w67_) Via.refl e4 FN d6_34 (fun T5 X5 e5 => ?_)
 refine g_iconst X5 hx hby (1 : Int32) d6_37 rfl ?_
 refine g_isub X5 hx hby d6_38 ?_
 refine g_topI (Int32.ofNat (rs.length - 1)) (own_sub1 h1p (by omega)) ?_
 refine g_aaload X5 hx hby hZ e5 VL rfl (.ref (As.getD (rs.length - 1) 0)) (own_in2 (by omega)) (by rw [own_tn2 (by omega)]; exact gl (rs.length - 1) (by omega)) d6_39 ?_
 refine g_getFR X5 hx hby hZ hown w65_ e5 mF d6_40 (fun T6 X6 e6 => ?_)
 refine g_aret X6 hx hby (t := (.object "com/example/tidegate/tidegate/engine/Order")) rfl rfl rfl Bd.returns Bd.notSynchronized d6_43 e6 (by decide) (by decide) ?_
 show (Q_firP Z a sd rk la up qy lv kr kl rs As f0 mv h0 n0) (some (.ref f0)) _ _
 exact ⟨rfl, N0, rfl⟩

def Q_addW (Z : State) (a : Addr) (q : Int64) (sd : Addr) (o : Addr) (b : Nat) (xs : List own_Or) (ba : Addr) (h0 : Heap) (n0 : Nat) (v : Option Value) (h : Heap) (L : List Loc) : Prop := v = none ∧ Fr n0 L ∧ own_Bk Z h n0 a sd ba (b + 1) (xs ++ [(o, q)]) ∧ own_Po Z n0 h0 h (o :: xs.map Prod.fst)
theorem rm_addW (l : Launch) (Z : State) (a0 : Array Value) (hw : ∀ d ∈ tables_1, d.before a0 Z = true) (ws : List Jvm.Cond) (a : Addr) (q : Int64) (sd : Addr) (o : Addr) (b : Nat) (xs : List own_Or) (ba : Addr) (h0 : Heap) (n0 : Nat) (Z0 : n0 ≤ h0.size) (SB : Sta Z Z.heap "com/example/tidegate/tidegate/engine/Side" "BUY" "Lcom/example/tidegate/tidegate/engine/Side;" (.ref ba)) (OLD : Old Z n0 h0) (BK : own_Bk Z h0 n0 a sd ba b xs) (ORp : own_OO Z h0 o q .null .null .null) (go : n0 ≤ o) (hox : o ∉ xs.map Prod.fst) (hb : b ≤ 2) :
  MetFree l (⟨"com/example/tidegate/tidegate/engine/BookSide", "add", "(Lcom/example/tidegate/tidegate/engine/Order;)V"⟩ : MethodName) (head1 (Jvm.Cond.code (⟨"com/example/tidegate/tidegate/engine/BookSide", "add", "(Lcom/example/tidegate/tidegate/engine/Order;)V"⟩ : MethodName) prog_2_method_7_code 3 none :: ws) ({ frames := 6, cells := 1, slots := 3, locals := 155 } : Room)) (fun aa_ U => aa_ = #[(.ref a), (.ref o)] ∧ Z.Warmed39 U.vm ∧ U.heap = h0) (fun _ _ _ _ _ => True) (fun _ U o_ U' => RetG U (Q_addW Z a q sd o b xs ba h0 n0) 1 3 U' o_) := by
 obtain ⟨rk, la, up, kr, kl, qy, gs, BB, AR, UP, LV, ⟨ga, grk, gla, gup⟩, nrl, OV, PP⟩ := BK
 have wB : (Jvm.Cond.instantiable "com/example/tidegate/tidegate/engine/BookSide" (6 : Nat)).before a0 Z = true := (hw _ (List.mem_of_getElem? (i := 9) rfl))
 have wL : (Jvm.Cond.instantiable "com/example/tidegate/tidegate/engine/BookSide$Level" (3 : Nat)).before a0 Z = true := (hw _ (List.mem_of_getElem? (i := 24) rfl))
 have wO : (Jvm.Cond.instantiable "com/example/tidegate/tidegate/engine/Order" (12 : Nat)).before a0 Z = true := (hw _ (List.mem_of_getElem? (i := 38) rfl))
 have hgl := PP.1
 have hup := PP.2.1
 have hgn := PP.2.2.1
 have hpw := PP.2.2.2.1
 have hrs := PP.2.2.2.2.1
 have hlo := PP.2.2.2.2.2.1
 have hnd := PP.2.2.2.2.2.2.1
 have hgb := PP.2.2.2.2.2.2.2
 by_cases hq : q = (-9223372036854775808 : Int64)
 ·rcases own_last (own_us xs) with eu | ⟨us, y, eu⟩
  ·rw [eu] at UP
   refine MetFree.mono (rm_addU l Z a0 hw ws a q sd rk la up qy o (Int32.ofNat (gs.map Prod.snd).length) ba h0 n0 Z0 SB OLD BB ORp ga go hq UP.1 gup) (fun _ _ k => k) (fun _ _ _ _ _ k => k) (fun _ _ _ _ _ k => ?_)
   obtain ⟨v, L, e1, ⟨rfl, N, K, BB', OO', LL'⟩, fe⟩ := k
   have W : ∀ w ∈ [a, o, up], own_Wd Z h0 n0 [] [up] [o] w := (allS ⟨ga, Or.inl BB.1⟩ (allS ⟨go, Or.inr (Or.inr (Or.inr ⟨ORp.1, by simp⟩))⟩ (allS ⟨gup, Or.inr (Or.inr (Or.inl ⟨UP.1.1, by simp⟩))⟩ all0)))
   refine ⟨_, L, e1, ⟨rfl, N, ⟨rk, la, up, kr, kl, _, gs, BB', AR.kept wB wL wO W K, ?_, fun g hg => ?_, ⟨ga, grk, gla, gup⟩, nrl, OV, own_P_U (x := (o, q)) PP hq go hox⟩, own_Po.of wO W K OLD (by simp)⟩, fe⟩
   ·rw [own_us_app, eu, own_us_y (x := (o, q)) hq]; exact ⟨LL', OO', trivial⟩
   ·rw [own_at_snoc (x := (o, q)) (Or.inl hq)]; exact (LV g hg).kept wL wO W K (own_nu hup hg) fun x hx => ninS (own_nx hox (own_at_mem hx).1) nin0
  ·have hy : y ∈ own_us xs := by rw [eu]; simp
   have hyx := (own_us_mem hy).1
   rw [eu] at UP
   have C := own_CH_app.mp UP.2
   have LL := UP.1
   rw [own_ls_snoc] at LL
   refine MetFree.mono (rm_addUn l Z a0 hw ws a q sd rk la up qy o (Int32.ofNat (gs.map Prod.snd).length) y.1 y.2 (own_ls .null us) (.ref a) (own_hd (us ++ [y]) .null) ba h0 n0 Z0 SB OLD BB ORp ga go hq LL gup C.2.1 (hlo y hyx) (own_nx hox hyx).symm) (fun _ _ k => k) (fun _ _ _ _ _ k => k) (fun _ _ _ _ _ k => ?_)
   obtain ⟨v, L, e1, ⟨rfl, N, K, BB', OO', LL', YO⟩, fe⟩ := k
   have W : ∀ w ∈ [a, o, up, y.1], own_Wd Z h0 n0 [] [up] [o, y.1] w := (allS ⟨ga, Or.inl BB.1⟩ (allS ⟨go, Or.inr (Or.inr (Or.inr ⟨ORp.1, by simp⟩))⟩ (allS ⟨gup, Or.inr (Or.inr (Or.inl ⟨UP.1.1, by simp⟩))⟩ (allS ⟨hlo y hyx, Or.inr (Or.inr (Or.inr ⟨C.2.1.1, by simp⟩))⟩ all0))))
   refine ⟨_, L, e1, ⟨rfl, N, ⟨rk, la, up, kr, kl, _, gs, BB', AR.kept wB wL wO W K, ?_, fun g hg => ?_, ⟨ga, grk, gla, gup⟩, nrl, OV, own_P_U (x := (o, q)) PP hq go hox⟩, own_Po.of wO W K OLD (allS (by simp) (allS (List.mem_cons_of_mem _ (List.mem_map_of_mem (f := Prod.fst) hyx)) all0))⟩, fe⟩
   ·rw [own_us_app, eu, own_us_y (x := (o, q)) hq]
    have nd := (own_sub (sd := sd) (ba := ba) (r := 0) hnd).1
    rw [eu] at nd
    exact own_LV_add1 UP K (fun x hx => own_ninO wO W (own_CH_exa C.1 x hx) (ninS (own_nx hox (own_us_mem (xs := xs) (by rw [eu]; exact List.mem_append_left _ hx)).1) (ninS (own_snoc nd hx) nin0))) LL' OO' YO
   ·rw [own_at_snoc (x := (o, q)) (Or.inl hq)]; exact (LV g hg).kept wL wO W K (own_nu hup hg) fun x hx => ninS (own_nx hox (own_at_mem hx).1) (ninS (fun e => own_othU hnd hx (by rw [e]; exact List.mem_map_of_mem (f := Prod.fst) hy)) nin0)
 ·by_cases hat : own_at sd ba xs (own_rk sd ba q) = []
  ·have hg2 : gs.length ≤ 2 := Nat.le_trans hgb hb
   obtain ⟨g1, g2, egs, k1, k2, hi, hix, hins⟩ := own_place PP hg2 hat
   refine MetFree.mono (rm_addN l Z a0 hw ws a q sd rk la up qy o (own_rk sd ba q) kr kl (gs.map Prod.snd) (gs.map Prod.fst) g1.length ba h0 n0 Z0 SB OLD BB ORp ga go hq AR rfl hi hix (by rw [List.length_map]; exact hg2) grk gla nrl OV (fun z hz => by obtain ⟨g, hg, rfl⟩ := List.mem_map.mp hz; exact (LV g hg).1.1)) (fun _ _ k => k) (fun _ _ _ _ _ k => k) (fun _ _ _ _ _ k => ?_)
   obtain ⟨v, L, e1, ⟨rfl, N, K, B, lB, AR', BB', OO', LL'⟩, fe⟩ := k
   rw [(hins B).1, (hins B).2] at AR'
   rw [(hins B).1] at BB'
   obtain ⟨⟨vs, V1_, -⟩, ⟨wl, V2_, -⟩, -⟩ := AR
   have W : ∀ w ∈ [a, o, rk, la], own_Wd Z h0 n0 [rk, la] [] [o] w := (allS ⟨ga, Or.inl BB.1⟩ (allS ⟨go, Or.inr (Or.inr (Or.inr ⟨ORp.1, by simp⟩))⟩ (allS ⟨grk, Or.inr (Or.inl ⟨by simp, _, _, _, _, _, V1_⟩)⟩ (allS ⟨gla, Or.inr (Or.inl ⟨by simp, _, _, _, _, _, V2_⟩)⟩ all0))))
   have nr : ∀ g ∈ gs, ¬ (own_rk sd ba q) = g.2 := fun g hg e => (hrs _).mp (List.mem_map_of_mem (f := Prod.snd) hg) (e ▸ hat)
   refine ⟨_, L, e1, ⟨rfl, N, ⟨rk, la, up, kr, kl, _, g1 ++ (B, (own_rk sd ba q)) :: g2, BB', AR', ?_, fun g hg => ?_, ⟨ga, grk, gla, gup⟩, nrl, OV, own_P_N (x := (o, q)) (egs ▸ PP) hq rfl k1 k2 go hox (Nat.le_trans Z0 lB) ?_ ?_⟩, own_Po.of wO W K OLD (by simp)⟩, fe⟩
   ·rw [own_us_app, own_us_n (x := (o, q)) hq, List.append_nil]; exact UP.kept wL wO W K nin0 fun x hx => ninS (own_nx hox (own_us_mem hx).1) nin0
   ·have hg' : g ∈ gs ∨ g = (B, (own_rk sd ba q)) := by
     rw [egs]
     rcases List.mem_append.mp hg with z | z
     ·exact Or.inl (List.mem_append_left _ z)
     ·rcases List.mem_cons.mp z with z | z
      ·exact Or.inr z
      ·exact Or.inl (List.mem_append_right _ z)
    rcases hg' with hg | rfl
    ·rw [own_at_snoc (x := (o, q)) (Or.inr (nr g hg))]; exact (LV g hg).kept wL wO W K nin0 fun x hx => ninS (own_nx hox (own_at_mem hx).1) nin0
    ·show own_LV Z _ a B (own_at sd ba (xs ++ [(o, q)]) (own_rk sd ba q))
     rw [own_at_app, hat, own_at_y (x := (o, q)) hq rfl]; exact ⟨LL', OO', trivial⟩
   ·rw [← egs]
    intro z
    obtain ⟨g, hg, e⟩ := List.mem_map.mp z
    have := (LV g hg).1.1.lt
    rw [e] at this
    exact absurd this (Nat.not_lt.mpr lB)
   ·intro z
    have := UP.1.1.lt
    rw [z] at this
    exact absurd this (Nat.not_lt.mpr lB)
  ·obtain ⟨g1, A, g2, egs, eA, hi, hix⟩ := own_found PP AR.2.2.2 hat
   have hg : (A, (own_rk sd ba q)) ∈ gs := by rw [egs]; simp
   obtain ⟨us, y, eu⟩ := (own_last (own_at sd ba xs (own_rk sd ba q))).resolve_left hat
   have hy : y ∈ own_at sd ba xs (own_rk sd ba q) := by rw [eu]; simp
   have hyx := (own_at_mem hy).1
   have FL : own_LV Z h0 a A (us ++ [y]) := eu ▸ LV _ hg
   have C := own_CH_app.mp FL.2
   have LL := FL.1
   rw [own_ls_snoc] at LL
   have gA : n0 ≤ A := hgl _ hg
   refine MetFree.mono (rm_addFn l Z a0 hw ws a q sd rk la up qy o (own_rk sd ba q) kr kl (gs.map Prod.snd) (gs.map Prod.fst) g1.length y.1 y.2 (own_ls .null us) (.ref a) (own_hd (us ++ [y]) .null) ba h0 n0 Z0 SB OLD BB ORp ga go hq (by rw [eA]; exact LL) (by rw [eA]; exact gA) C.2.1 (hlo y hyx) (own_nx hox hyx).symm AR rfl hi hix) (fun _ _ k => k) (fun _ _ _ _ _ k => k) (fun _ _ _ _ _ k => ?_)
   obtain ⟨v, L, e1, ⟨rfl, N, K, BB', OO', LL', YO⟩, fe⟩ := k
   rw [eA] at K LL'
   have W : ∀ w ∈ [a, o, A, y.1], own_Wd Z h0 n0 [] [A] [o, y.1] w := (allS ⟨ga, Or.inl BB.1⟩ (allS ⟨go, Or.inr (Or.inr (Or.inr ⟨ORp.1, by simp⟩))⟩ (allS ⟨gA, Or.inr (Or.inr (Or.inl ⟨FL.1.1, by simp⟩))⟩ (allS ⟨hlo y hyx, Or.inr (Or.inr (Or.inr ⟨C.2.1.1, by simp⟩))⟩ all0))))
   refine ⟨_, L, e1, ⟨rfl, N, ⟨rk, la, up, kr, kl, _, gs, BB', AR.kept wB wL wO W K, ?_, fun g hg2 => ?_, ⟨ga, grk, gla, gup⟩, nrl, OV, own_P_F (x := (o, q)) PP rfl hat go hox⟩, own_Po.of wO W K OLD (allS (by simp) (allS (List.mem_cons_of_mem _ (List.mem_map_of_mem (f := Prod.fst) hyx)) all0))⟩, fe⟩
   ·rw [own_us_app, own_us_n (x := (o, q)) hq, List.append_nil]; exact UP.kept wL wO W K (own_un hup hg) fun x hx => ninS (own_nx hox (own_us_mem hx).1) (ninS (fun e => own_othV hnd hx (by rw [e]; exact List.mem_map_of_mem (f := Prod.fst) hy)) nin0)
   ·by_cases eg : g.2 = (own_rk sd ba q)
    ·obtain rfl : g = (A, (own_rk sd ba q)) := own_two hpw hg2 hg eg
     show own_LV Z _ a A (own_at sd ba (xs ++ [(o, q)]) (own_rk sd ba q))
     rw [own_at_app, eu, own_at_y (x := (o, q)) hq rfl]
     have nd := (own_sub (sd := sd) (ba := ba) (r := (own_rk sd ba q)) hnd).2
     rw [eu] at nd
     exact own_LV_add1 FL K (fun x hx => own_ninO wO W (own_CH_exa C.1 x hx) (ninS (own_nx hox (own_at_mem (xs := xs) (r := (own_rk sd ba q)) (by rw [eu]; exact List.mem_append_left _ hx)).1) (ninS (own_snoc nd hx) nin0))) LL' OO' YO
    ·rw [own_at_snoc (x := (o, q)) (Or.inr fun z => eg z.symm)]
     exact (LV g hg2).kept wL wO W K (ninS (fun e => eg (congrArg Prod.snd (own_one hgn hg2 hg e))) nin0) fun x hx => ninS (own_nx hox (own_at_mem hx).1) (ninS (fun e => own_othA hnd hx eg (by rw [e]; exact List.mem_map_of_mem (f := Prod.fst) hy)) nin0)

def Q_remW (Z : State) (a : Addr) (q : Int64) (sd : Addr) (o : Addr) (b : Nat) (pp : List own_Or) (ss : List own_Or) (ba : Addr) (h0 : Heap) (n0 : Nat) (v : Option Value) (h : Heap) (L : List Loc) : Prop := v = none ∧ Fr n0 L ∧ own_Bk Z h n0 a sd ba b (pp ++ ss) ∧ (h0.size ≤ h.size ∧ True) ∧ Old Z n0 h
theorem rm_remW (l : Launch) (Z : State) (a0 : Array Value) (hw : ∀ d ∈ tables_1, d.before a0 Z = true) (ws : List Jvm.Cond) (a : Addr) (q : Int64) (sd : Addr) (o : Addr) (b : Nat) (pp : List own_Or) (ss : List own_Or) (ba : Addr) (h0 : Heap) (n0 : Nat) (Z0 : n0 ≤ h0.size) (SB : Sta Z Z.heap "com/example/tidegate/tidegate/engine/Side" "BUY" "Lcom/example/tidegate/tidegate/engine/Side;" (.ref ba)) (OLD : Old Z n0 h0) (BK : own_Bk Z h0 n0 a sd ba b (pp ++ (o, q) :: ss)) :
  MetFree l (⟨"com/example/tidegate/tidegate/engine/BookSide", "remove", "(Lcom/example/tidegate/tidegate/engine/Order;)V"⟩ : MethodName) (head1 (Jvm.Cond.code (⟨"com/example/tidegate/tidegate/engine/BookSide", "remove", "(Lcom/example/tidegate/tidegate/engine/Order;)V"⟩ : MethodName) prog_2_method_10_code 4 none :: ws) ({ frames := 6, cells := 0, slots := 0, locals := 139 } : Room)) (fun aa_ U => aa_ = #[(.ref a), (.ref o)] ∧ Z.Warmed39 U.vm ∧ U.heap = h0) (fun _ _ _ _ _ => True) (fun _ U o_ U' => RetG U (Q_remW Z a q sd o b pp ss ba h0 n0) 0 0 U' o_) := by
 obtain ⟨rk, la, up, kr, kl, qy, gs, BB, AR, UP, LV, ⟨ga, grk, gla, gup⟩, nrl, OV, PP⟩ := BK
 have wB : (Jvm.Cond.instantiable "com/example/tidegate/tidegate/engine/BookSide" (6 : Nat)).before a0 Z = true := (hw _ (List.mem_of_getElem? (i := 9) rfl))
 have wL : (Jvm.Cond.instantiable "com/example/tidegate/tidegate/engine/BookSide$Level" (3 : Nat)).before a0 Z = true := (hw _ (List.mem_of_getElem? (i := 24) rfl))
 have wO : (Jvm.Cond.instantiable "com/example/tidegate/tidegate/engine/Order" (12 : Nat)).before a0 Z = true := (hw _ (List.mem_of_getElem? (i := 38) rfl))
 have hgl := PP.1
 have hup := PP.2.1
 have hgn := PP.2.2.1
 have hpw := PP.2.2.2.1
 have hrs := PP.2.2.2.2.1
 have hlo := PP.2.2.2.2.2.1
 have hnd := PP.2.2.2.2.2.2.1
 have hgb := PP.2.2.2.2.2.2.2
 have go : n0 ≤ o := hlo (o, q) (by simp)
 by_cases hq : q = (-9223372036854775808 : Int64)
 ·have eu : own_us (pp ++ (o, q) :: ss) = own_us pp ++ (o, q) :: own_us ss := by rw [own_us_app, own_us_cons, own_us_y (x := (o, q)) hq]; rfl
  have eu2 : own_us (pp ++ ss) = own_us pp ++ own_us ss := own_us_app
  have nd := (own_sub (sd := sd) (ba := ba) (r := 0) hnd).1
  have F := UP
  have mem : ∀ x ∈ own_us (pp ++ (o, q) :: ss), n0 ≤ x.1 := fun x hx => hlo x (own_us_mem hx).1
  rw [eu] at nd F mem
  have PP2 := own_P_r PP (fun r => by rw [own_at_mid (x := (o, q)) (Or.inl hq)])
  obtain ⟨p, ep⟩ : ∃ z, z = own_us pp := ⟨_, rfl⟩
  obtain ⟨s, es⟩ : ∃ z, z = own_us ss := ⟨_, rfl⟩
  rw [← ep, ← es] at eu eu2 nd F mem
  clear ep es
  rcases own_last p with e | ⟨p', y, e⟩
  ·subst e
   cases s with
   | nil =>
    have C := own_CH_app.mp F.2
    have hpv : own_ls .null [] = .null := rfl
    have C2 := C.2
    rw [hpv] at C2
    obtain ⟨f0, ef⟩ := own_hd_ref [] (o, q) [] .null
    obtain ⟨l0, el⟩ := own_ls_ref [] (o, q) [] .null
    have LL := F.1
    rw [ef, el] at LL
    refine MetFree.mono (rm_remU l Z a0 hw ws a q sd rk la up qy o (Int32.ofNat (gs.map Prod.snd).length) f0 l0 (.ref a) ba h0 n0 Z0 SB OLD BB C2.1 ga go hq LL gup) (fun _ _ k => k) (fun _ _ _ _ _ k => k) (fun _ _ _ T9 _ k => ?_)
    obtain ⟨v, L, e1, ⟨rfl, N, K, BB', OO', LL'⟩, fe⟩ := k
    have W : ∀ w ∈ [a, o, up], own_Wd Z h0 n0 [] [up] [o] w := (allS ⟨ga, Or.inl BB.1⟩ (allS ⟨go, Or.inr (Or.inr (Or.inr ⟨C2.1.1, by simp⟩))⟩ (allS ⟨gup, Or.inr (Or.inr (Or.inl ⟨F.1.1, by simp⟩))⟩ all0)))
    have hds : ∀ d ∈ [o], d ∈ ([] ++ (o, q) :: []).map Prod.fst := (allS (List.mem_map_of_mem (f := Prod.fst) (a := (o, q)) (by simp)) all0)
    have eF : Value.null = own_hd ([] ++ []) .null := rfl
    have eL : Value.null = own_ls .null ([] ++ []) := by rw [List.append_nil]; exact hpv.symm
    have FL : own_LV Z T9.heap a up ([] ++ []) := ⟨by rw [← eF, ← eL]; exact LL', own_CH_app.mpr ⟨trivial, by rw [hpv]; exact trivial⟩⟩
    refine ⟨_, L, e1, ⟨rfl, N, ⟨rk, la, up, kr, kl, _, gs, BB', AR.kept wB wL wO W K, ?_, fun g hg2 => ?_, ⟨ga, grk, gla, gup⟩, nrl, OV, PP2⟩, ⟨K.1, trivial⟩, OLD.keep K fun w hw => (W w hw).1⟩, fe⟩
    ·rw [eu2]; exact FL
    ·rw [← own_at_mid (x := (o, q)) (Or.inl hq)]; exact (LV g hg2).kept wL wO W K (own_nu hup hg2) fun x hx z => own_othU hnd hx (by rw [eu]; exact hds _ z)
   | cons x s' =>
    have C := own_CH_app.mp F.2
    have nR := own_ndR nd
    have hpv : own_ls .null [] = .null := rfl
    have C2 := C.2
    rw [hpv] at C2
    obtain ⟨f0, ef⟩ := own_hd_ref [] (o, q) (x :: s') .null
    obtain ⟨l0, el⟩ := own_ls_ref [] (o, q) (x :: s') .null
    have LL := F.1
    rw [ef, el] at LL
    refine MetFree.mono (rm_remUx l Z a0 hw ws a q sd rk la up qy o (Int32.ofNat (gs.map Prod.snd).length) x.1 x.2 (own_hd s' .null) (.ref a) f0 l0 (.ref a) ba h0 n0 Z0 SB OLD BB C2.1 ga go hq LL gup C2.2.1 (mem x (by simp)) nR.2) (fun _ _ k => k) (fun _ _ _ _ _ k => k) (fun _ _ _ T9 _ k => ?_)
    obtain ⟨v, L, e1, ⟨rfl, N, K, BB', OO', LL', XO⟩, fe⟩ := k
    have W : ∀ w ∈ [a, o, up, x.1], own_Wd Z h0 n0 [] [up] [o, x.1] w := (allS ⟨ga, Or.inl BB.1⟩ (allS ⟨go, Or.inr (Or.inr (Or.inr ⟨C2.1.1, by simp⟩))⟩ (allS ⟨gup, Or.inr (Or.inr (Or.inl ⟨F.1.1, by simp⟩))⟩ (allS ⟨mem x (by simp), Or.inr (Or.inr (Or.inr ⟨C2.2.1.1, by simp⟩))⟩ all0))))
    have hds : ∀ d ∈ [o, x.1], d ∈ ([] ++ (o, q) :: (x :: s')).map Prod.fst := (allS (List.mem_map_of_mem (f := Prod.fst) (a := (o, q)) (by simp)) (allS (List.mem_map_of_mem (f := Prod.fst) (a := x) (by simp)) all0))
    have eF : (Value.ref x.1) = own_hd ([] ++ (x :: s')) .null := rfl
    have eL : Value.ref l0 = own_ls .null ([] ++ (x :: s')) := el.symm.trans (own_ls_skip ..)
    have FL : own_LV Z T9.heap a up ([] ++ (x :: s')) := ⟨by rw [← eF, ← eL]; exact LL', own_CH_app.mpr ⟨trivial, by rw [hpv]; exact ⟨XO, C2.2.2.keep K (fun u hu => own_ninO wO W (own_CH_exa C2.2.2 u hu) (ninS (nR.1 u hu).1 (ninS (nR.1 u hu).2 nin0)))⟩⟩⟩
    refine ⟨_, L, e1, ⟨rfl, N, ⟨rk, la, up, kr, kl, _, gs, BB', AR.kept wB wL wO W K, ?_, fun g hg2 => ?_, ⟨ga, grk, gla, gup⟩, nrl, OV, PP2⟩, ⟨K.1, trivial⟩, OLD.keep K fun w hw => (W w hw).1⟩, fe⟩
    ·rw [eu2]; exact FL
    ·rw [← own_at_mid (x := (o, q)) (Or.inl hq)]; exact (LV g hg2).kept wL wO W K (own_nu hup hg2) fun x hx z => own_othU hnd hx (by rw [eu]; exact hds _ z)
  ·subst e
   cases s with
   | nil =>
    have C := own_CH_app.mp F.2
    have D := own_CH_app.mp C.1
    have nL := own_ndL nd
    have hpv : own_ls .null (p' ++ [y]) = (.ref y.1) := own_ls_snoc ..
    have C2 := C.2
    rw [hpv] at C2
    obtain ⟨f0, ef⟩ := own_hd_ref (p' ++ [y]) (o, q) [] .null
    obtain ⟨l0, el⟩ := own_ls_ref (p' ++ [y]) (o, q) [] .null
    have LL := F.1
    rw [ef, el] at LL
    refine MetFree.mono (rm_remUy l Z a0 hw ws a q sd rk la up qy o (Int32.ofNat (gs.map Prod.snd).length) y.1 y.2 (own_ls .null p') (.ref a) f0 l0 (.ref a) ba h0 n0 Z0 SB OLD BB C2.1 ga go hq LL gup D.2.1 (mem y (by simp)) nL.2.1) (fun _ _ k => k) (fun _ _ _ _ _ k => k) (fun _ _ _ T9 _ k => ?_)
    obtain ⟨v, L, e1, ⟨rfl, N, K, BB', OO', LL', YO⟩, fe⟩ := k
    have W : ∀ w ∈ [a, o, up, y.1], own_Wd Z h0 n0 [] [up] [o, y.1] w := (allS ⟨ga, Or.inl BB.1⟩ (allS ⟨go, Or.inr (Or.inr (Or.inr ⟨C2.1.1, by simp⟩))⟩ (allS ⟨gup, Or.inr (Or.inr (Or.inl ⟨F.1.1, by simp⟩))⟩ (allS ⟨mem y (by simp), Or.inr (Or.inr (Or.inr ⟨D.2.1.1, by simp⟩))⟩ all0))))
    have hds : ∀ d ∈ [o, y.1], d ∈ ((p' ++ [y]) ++ (o, q) :: []).map Prod.fst := (allS (List.mem_map_of_mem (f := Prod.fst) (a := (o, q)) (by simp)) (allS (List.mem_map_of_mem (f := Prod.fst) (a := y) (by simp)) all0))
    have eF : Value.ref f0 = own_hd ((p' ++ [y]) ++ []) .null := ef.symm.trans (own_hd_same ..)
    have eL : (Value.ref y.1) = own_ls .null ((p' ++ [y]) ++ []) := by rw [List.append_nil]; exact hpv.symm
    have FL : own_LV Z T9.heap a up ((p' ++ [y]) ++ []) := ⟨by rw [← eF, ← eL]; exact LL', own_CH_app.mpr ⟨own_CH_app.mpr ⟨D.1.keep K (fun u hu => own_ninO wO W (own_CH_exa D.1 u hu) (ninS (nL.1 u hu).1 (ninS (nL.1 u hu).2 nin0))), YO, trivial⟩, by rw [hpv]; exact trivial⟩⟩
    refine ⟨_, L, e1, ⟨rfl, N, ⟨rk, la, up, kr, kl, _, gs, BB', AR.kept wB wL wO W K, ?_, fun g hg2 => ?_, ⟨ga, grk, gla, gup⟩, nrl, OV, PP2⟩, ⟨K.1, trivial⟩, OLD.keep K fun w hw => (W w hw).1⟩, fe⟩
    ·rw [eu2]; exact FL
    ·rw [← own_at_mid (x := (o, q)) (Or.inl hq)]; exact (LV g hg2).kept wL wO W K (own_nu hup hg2) fun x hx z => own_othU hnd hx (by rw [eu]; exact hds _ z)
   | cons x s' =>
    have C := own_CH_app.mp F.2
    have D := own_CH_app.mp C.1
    have nL := own_ndL nd
    have nR := own_ndR nd
    have hpv : own_ls .null (p' ++ [y]) = (.ref y.1) := own_ls_snoc ..
    have C2 := C.2
    rw [hpv] at C2
    obtain ⟨f0, ef⟩ := own_hd_ref (p' ++ [y]) (o, q) (x :: s') .null
    obtain ⟨l0, el⟩ := own_ls_ref (p' ++ [y]) (o, q) (x :: s') .null
    have LL := F.1
    rw [ef, el] at LL
    refine MetFree.mono (rm_remUyx l Z a0 hw ws a q sd rk la up qy o (Int32.ofNat (gs.map Prod.snd).length) y.1 y.2 (own_ls .null p') (.ref a) x.1 x.2 (own_hd s' .null) (.ref a) f0 l0 (.ref a) ba h0 n0 Z0 SB OLD BB C2.1 ga go hq LL gup D.2.1 (mem y (by simp)) nL.2.1 C2.2.1 (mem x (by simp)) nR.2 (nL.2.2.1 x (by simp))) (fun _ _ k => k) (fun _ _ _ _ _ k => k) (fun _ _ _ T9 _ k => ?_)
    obtain ⟨v, L, e1, ⟨rfl, N, K, BB', OO', LL', YO, XO⟩, fe⟩ := k
    have W : ∀ w ∈ [a, o, up, y.1, x.1], own_Wd Z h0 n0 [] [up] [o, y.1, x.1] w := (allS ⟨ga, Or.inl BB.1⟩ (allS ⟨go, Or.inr (Or.inr (Or.inr ⟨C2.1.1, by simp⟩))⟩ (allS ⟨gup, Or.inr (Or.inr (Or.inl ⟨F.1.1, by simp⟩))⟩ (allS ⟨mem y (by simp), Or.inr (Or.inr (Or.inr ⟨D.2.1.1, by simp⟩))⟩ (allS ⟨mem x (by simp), Or.inr (Or.inr (Or.inr ⟨C2.2.1.1, by simp⟩))⟩ all0)))))
    have hds : ∀ d ∈ [o, y.1, x.1], d ∈ ((p' ++ [y]) ++ (o, q) :: (x :: s')).map Prod.fst := (allS (List.mem_map_of_mem (f := Prod.fst) (a := (o, q)) (by simp)) (allS (List.mem_map_of_mem (f := Prod.fst) (a := y) (by simp)) (allS (List.mem_map_of_mem (f := Prod.fst) (a := x) (by simp)) all0)))
    have eF : Value.ref f0 = own_hd ((p' ++ [y]) ++ (x :: s')) .null := ef.symm.trans (own_hd_same ..)
    have eL : Value.ref l0 = own_ls .null ((p' ++ [y]) ++ (x :: s')) := el.symm.trans (own_ls_skip ..)
    have FL : own_LV Z T9.heap a up ((p' ++ [y]) ++ (x :: s')) := ⟨by rw [← eF, ← eL]; exact LL', own_CH_app.mpr ⟨own_CH_app.mpr ⟨D.1.keep K (fun u hu => own_ninO wO W (own_CH_exa D.1 u hu) (ninS (nL.1 u hu).1 (ninS (nL.1 u hu).2 (ninS (nL.2.2.2 u hu x (by simp)) nin0)))), YO, trivial⟩, by rw [hpv]; exact ⟨XO, C2.2.2.keep K (fun u hu => own_ninO wO W (own_CH_exa C2.2.2 u hu) (ninS (nR.1 u hu).1 (ninS (nL.2.2.1 u (List.mem_cons_of_mem _ hu)).symm (ninS (nR.1 u hu).2 nin0))))⟩⟩⟩
    refine ⟨_, L, e1, ⟨rfl, N, ⟨rk, la, up, kr, kl, _, gs, BB', AR.kept wB wL wO W K, ?_, fun g hg2 => ?_, ⟨ga, grk, gla, gup⟩, nrl, OV, PP2⟩, ⟨K.1, trivial⟩, OLD.keep K fun w hw => (W w hw).1⟩, fe⟩
    ·rw [eu2]; exact FL
    ·rw [← own_at_mid (x := (o, q)) (Or.inl hq)]; exact (LV g hg2).kept wL wO W K (own_nu hup hg2) fun x hx z => own_othU hnd hx (by rw [eu]; exact hds _ z)
 ·have et : own_at sd ba (pp ++ (o, q) :: ss) (own_rk sd ba q) = own_at sd ba pp (own_rk sd ba q) ++ (o, q) :: own_at sd ba ss (own_rk sd ba q) := by rw [own_at_app, own_at_cons, own_at_y (x := (o, q)) hq rfl]; rfl
  have et2 : own_at sd ba (pp ++ ss) (own_rk sd ba q) = own_at sd ba pp (own_rk sd ba q) ++ own_at sd ba ss (own_rk sd ba q) := own_at_app
  have eu3 : own_us (pp ++ (o, q) :: ss) = own_us (pp ++ ss) := by rw [own_us_app, own_us_cons, own_us_n (x := (o, q)) hq, own_us_app]; rfl
  have hat : own_at sd ba (pp ++ (o, q) :: ss) (own_rk sd ba q) ≠ [] := by rw [et]; simp
  have nd := (own_sub (sd := sd) (ba := ba) (r := (own_rk sd ba q)) hnd).2
  obtain ⟨g1, A, g2, egs, eA, hi, hix⟩ := own_found PP AR.2.2.2 hat
  have hg : (A, (own_rk sd ba q)) ∈ gs := by rw [egs]; simp
  have gA : n0 ≤ A := hgl _ hg
  have F : own_LV Z h0 a A (own_at sd ba (pp ++ (o, q) :: ss) (own_rk sd ba q)) := LV _ hg
  have mem : ∀ x ∈ own_at sd ba (pp ++ (o, q) :: ss) (own_rk sd ba q), n0 ≤ x.1 := fun x hx => hlo x (own_at_mem hx).1
  rw [et] at nd F mem
  obtain ⟨p, ep⟩ : ∃ z, z = own_at sd ba pp (own_rk sd ba q) := ⟨_, rfl⟩
  obtain ⟨s, es⟩ : ∃ z, z = own_at sd ba ss (own_rk sd ba q) := ⟨_, rfl⟩
  rw [← ep, ← es] at et et2 nd F mem
  clear ep es
  rcases own_last p with e | ⟨p', y, e⟩
  ·subst e
   cases s with
   | nil =>
    have C := own_CH_app.mp F.2
    have hpv : own_ls .null [] = .null := rfl
    have C2 := C.2
    rw [hpv] at C2
    obtain ⟨f0, ef⟩ := own_hd_ref [] (o, q) [] .null
    obtain ⟨l0, el⟩ := own_ls_ref [] (o, q) [] .null
    have LL := F.1
    rw [ef, el] at LL
    refine MetFree.mono (rm_remS l Z a0 hw ws a q sd rk la up qy o (own_rk sd ba q) kr kl (gs.map Prod.snd) (gs.map Prod.fst) g1.length f0 l0 (.ref a) ba h0 n0 Z0 SB OLD BB C2.1 ga go hq (by rw [eA]; exact LL) (by rw [eA]; exact gA) AR rfl hi hix grk gla nrl OV (fun z hz => by obtain ⟨g, hg, rfl⟩ := List.mem_map.mp hz; exact (LV g hg).1.1)) (fun _ _ k => k) (fun _ _ _ _ _ k => k) (fun _ _ _ T9 _ k => ?_)
    obtain ⟨v, L, e1, ⟨rfl, N, K, AR', BB', OO', LL'⟩, fe⟩ := k
    rw [eA] at K LL'
    obtain ⟨⟨vs, V1_, -⟩, ⟨wl, V2_, -⟩, -⟩ := AR
    have W : ∀ w ∈ [a, o, A, rk, la], own_Wd Z h0 n0 [rk, la] [A] [o] w := (allS ⟨ga, Or.inl BB.1⟩ (allS ⟨go, Or.inr (Or.inr (Or.inr ⟨C2.1.1, by simp⟩))⟩ (allS ⟨gA, Or.inr (Or.inr (Or.inl ⟨F.1.1, by simp⟩))⟩ (allS ⟨grk, Or.inr (Or.inl ⟨by simp, _, _, _, _, _, V1_⟩)⟩ (allS ⟨gla, Or.inr (Or.inl ⟨by simp, _, _, _, _, _, V2_⟩)⟩ all0)))))
    have hds : ∀ d ∈ [o], d ∈ ([] ++ (o, q) :: []).map Prod.fst := (allS (List.mem_map_of_mem (f := Prod.fst) (a := (o, q)) (by simp)) all0)
    have PP2 := own_P_S (x := (o, q)) (egs ▸ PP) rfl (by rw [et2]; rfl)
    have her := own_eraM egs
    rw [her.1, her.2] at AR'
    rw [her.1] at BB'
    refine ⟨_, L, e1, ⟨rfl, N, ⟨rk, la, up, kr, kl, _, (g1 ++ g2), BB', AR', ?_, fun g hg2 => ?_, ⟨ga, grk, gla, gup⟩, nrl, OV, PP2⟩, ⟨K.1, trivial⟩, OLD.keep K fun w hw => (W w hw).1⟩, fe⟩
    ·rw [← eu3]; exact UP.kept wL wO W K (own_un hup hg) fun x hx z => own_othV hnd hx (by rw [et]; exact hds _ z)
    ·have hg3 : g ∈ gs := by
      rw [egs]
      exact (List.mem_append.mp hg2).elim (List.mem_append_left _) fun z => List.mem_append_right _ (List.mem_cons_of_mem _ z)
     have eg : ¬ g.2 = (own_rk sd ba q) := fun e => (PP2.2.2.2.2.1 g.2).mp (List.mem_map_of_mem (f := Prod.snd) hg2) (by rw [e, et2]; rfl)
     rw [← own_at_mid (x := (o, q)) (Or.inr fun z => eg z.symm)]
     exact (LV g hg3).kept wL wO W K (ninS (fun e => eg (congrArg Prod.snd (own_one hgn hg3 hg e))) nin0) fun x hx z => own_othA hnd hx eg (by rw [et]; exact hds _ z)
   | cons x s' =>
    have C := own_CH_app.mp F.2
    have nR := own_ndR nd
    have hpv : own_ls .null [] = .null := rfl
    have C2 := C.2
    rw [hpv] at C2
    obtain ⟨f0, ef⟩ := own_hd_ref [] (o, q) (x :: s') .null
    obtain ⟨l0, el⟩ := own_ls_ref [] (o, q) (x :: s') .null
    have LL := F.1
    rw [ef, el] at LL
    refine MetFree.mono (rm_remPx l Z a0 hw ws a q sd rk la up qy o (own_rk sd ba q) kr kl (gs.map Prod.snd) (gs.map Prod.fst) g1.length x.1 x.2 (own_hd s' .null) (.ref a) f0 l0 (.ref a) ba h0 n0 Z0 SB OLD BB C2.1 ga go hq (by rw [eA]; exact LL) (by rw [eA]; exact gA) C2.2.1 (mem x (by simp)) nR.2 AR rfl hi hix) (fun _ _ k => k) (fun _ _ _ _ _ k => k) (fun _ _ _ T9 _ k => ?_)
    obtain ⟨v, L, e1, ⟨rfl, N, K, BB', OO', LL', XO⟩, fe⟩ := k
    rw [eA] at K LL'
    have W : ∀ w ∈ [a, o, A, x.1], own_Wd Z h0 n0 [] [A] [o, x.1] w := (allS ⟨ga, Or.inl BB.1⟩ (allS ⟨go, Or.inr (Or.inr (Or.inr ⟨C2.1.1, by simp⟩))⟩ (allS ⟨gA, Or.inr (Or.inr (Or.inl ⟨F.1.1, by simp⟩))⟩ (allS ⟨mem x (by simp), Or.inr (Or.inr (Or.inr ⟨C2.2.1.1, by simp⟩))⟩ all0))))
    have hds : ∀ d ∈ [o, x.1], d ∈ ([] ++ (o, q) :: (x :: s')).map Prod.fst := (allS (List.mem_map_of_mem (f := Prod.fst) (a := (o, q)) (by simp)) (allS (List.mem_map_of_mem (f := Prod.fst) (a := x) (by simp)) all0))
    have eF : (Value.ref x.1) = own_hd ([] ++ (x :: s')) .null := rfl
    have eL : Value.ref l0 = own_ls .null ([] ++ (x :: s')) := el.symm.trans (own_ls_skip ..)
    have FL : own_LV Z T9.heap a A ([] ++ (x :: s')) := ⟨by rw [← eF, ← eL]; exact LL', own_CH_app.mpr ⟨trivial, by rw [hpv]; exact ⟨XO, C2.2.2.keep K (fun u hu => own_ninO wO W (own_CH_exa C2.2.2 u hu) (ninS (nR.1 u hu).1 (ninS (nR.1 u hu).2 nin0)))⟩⟩⟩
    have ne2 : own_at sd ba (pp ++ ss) (own_rk sd ba q) ≠ [] := by rw [et2]; simp
    have fin : ∀ r, own_at sd ba (pp ++ (o, q) :: ss) r ≠ [] ↔ own_at sd ba (pp ++ ss) r ≠ [] := by
     intro r
     by_cases e : r = (own_rk sd ba q)
     ·rw [e]; exact ⟨fun _ => ne2, fun _ => hat⟩
     ·rw [own_at_mid (x := (o, q)) (Or.inr fun z => e z.symm)]
    have PP2 := own_P_r PP fin
    refine ⟨_, L, e1, ⟨rfl, N, ⟨rk, la, up, kr, kl, _, gs, BB', AR.kept wB wL wO W K, ?_, fun g hg2 => ?_, ⟨ga, grk, gla, gup⟩, nrl, OV, PP2⟩, ⟨K.1, trivial⟩, OLD.keep K fun w hw => (W w hw).1⟩, fe⟩
    ·rw [← eu3]; exact UP.kept wL wO W K (own_un hup hg) fun x hx z => own_othV hnd hx (by rw [et]; exact hds _ z)
    ·have hg3 := hg2
     by_cases eg : g.2 = (own_rk sd ba q)
     ·obtain rfl : g = (A, (own_rk sd ba q)) := own_two hpw hg2 hg eg
      show own_LV Z _ a A (own_at sd ba (pp ++ ss) (own_rk sd ba q))
      rw [et2]; exact FL
     ·rw [← own_at_mid (x := (o, q)) (Or.inr fun z => eg z.symm)]
      exact (LV g hg2).kept wL wO W K (ninS (fun e => eg (congrArg Prod.snd (own_one hgn hg3 hg e))) nin0) fun x hx z => own_othA hnd hx eg (by rw [et]; exact hds _ z)
  ·subst e
   cases s with
   | nil =>
    have C := own_CH_app.mp F.2
    have D := own_CH_app.mp C.1
    have nL := own_ndL nd
    have hpv : own_ls .null (p' ++ [y]) = (.ref y.1) := own_ls_snoc ..
    have C2 := C.2
    rw [hpv] at C2
    obtain ⟨f0, ef⟩ := own_hd_ref (p' ++ [y]) (o, q) [] .null
    obtain ⟨l0, el⟩ := own_ls_ref (p' ++ [y]) (o, q) [] .null
    have LL := F.1
    rw [ef, el] at LL
    refine MetFree.mono (rm_remPy l Z a0 hw ws a q sd rk la up qy o (own_rk sd ba q) kr kl (gs.map Prod.snd) (gs.map Prod.fst) g1.length y.1 y.2 (own_ls .null p') (.ref a) f0 l0 (.ref a) ba h0 n0 Z0 SB OLD BB C2.1 ga go hq (by rw [eA]; exact LL) (by rw [eA]; exact gA) D.2.1 (mem y (by simp)) nL.2.1 AR rfl hi hix) (fun _ _ k => k) (fun _ _ _ _ _ k => k) (fun _ _ _ T9 _ k => ?_)
    obtain ⟨v, L, e1, ⟨rfl, N, K, BB', OO', LL', YO⟩, fe⟩ := k
    rw [eA] at K LL'
    have W : ∀ w ∈ [a, o, A, y.1], own_Wd Z h0 n0 [] [A] [o, y.1] w := (allS ⟨ga, Or.inl BB.1⟩ (allS ⟨go, Or.inr (Or.inr (Or.inr ⟨C2.1.1, by simp⟩))⟩ (allS ⟨gA, Or.inr (Or.inr (Or.inl ⟨F.1.1, by simp⟩))⟩ (allS ⟨mem y (by simp), Or.inr (Or.inr (Or.inr ⟨D.2.1.1, by simp⟩))⟩ all0))))
    have hds : ∀ d ∈ [o, y.1], d ∈ ((p' ++ [y]) ++ (o, q) :: []).map Prod.fst := (allS (List.mem_map_of_mem (f := Prod.fst) (a := (o, q)) (by simp)) (allS (List.mem_map_of_mem (f := Prod.fst) (a := y) (by simp)) all0))
    have eF : Value.ref f0 = own_hd ((p' ++ [y]) ++ []) .null := ef.symm.trans (own_hd_same ..)
    have eL : (Value.ref y.1) = own_ls .null ((p' ++ [y]) ++ []) := by rw [List.append_nil]; exact hpv.symm
    have FL : own_LV Z T9.heap a A ((p' ++ [y]) ++ []) := ⟨by rw [← eF, ← eL]; exact LL', own_CH_app.mpr ⟨own_CH_app.mpr ⟨D.1.keep K (fun u hu => own_ninO wO W (own_CH_exa D.1 u hu) (ninS (nL.1 u hu).1 (ninS (nL.1 u hu).2 nin0))), YO, trivial⟩, by rw [hpv]; exact trivial⟩⟩
    have ne2 : own_at sd ba (pp ++ ss) (own_rk sd ba q) ≠ [] := by rw [et2]; simp
    have fin : ∀ r, own_at sd ba (pp ++ (o, q) :: ss) r ≠ [] ↔ own_at sd ba (pp ++ ss) r ≠ [] := by
     intro r
     by_cases e : r = (own_rk sd ba q)
     ·rw [e]; exact ⟨fun _ => ne2, fun _ => hat⟩
     ·rw [own_at_mid (x := (o, q)) (Or.inr fun z => e z.symm)]
    have PP2 := own_P_r PP fin
    refine ⟨_, L, e1, ⟨rfl, N, ⟨rk, la, up, kr, kl, _, gs, BB', AR.kept wB wL wO W K, ?_, fun g hg2 => ?_, ⟨ga, grk, gla, gup⟩, nrl, OV, PP2⟩, ⟨K.1, trivial⟩, OLD.keep K fun w hw => (W w hw).1⟩, fe⟩
    ·rw [← eu3]; exact UP.kept wL wO W K (own_un hup hg) fun x hx z => own_othV hnd hx (by rw [et]; exact hds _ z)
    ·have hg3 := hg2
     by_cases eg : g.2 = (own_rk sd ba q)
     ·obtain rfl : g = (A, (own_rk sd ba q)) := own_two hpw hg2 hg eg
      show own_LV Z _ a A (own_at sd ba (pp ++ ss) (own_rk sd ba q))
      rw [et2]; exact FL
     ·rw [← own_at_mid (x := (o, q)) (Or.inr fun z => eg z.symm)]
      exact (LV g hg2).kept wL wO W K (ninS (fun e => eg (congrArg Prod.snd (own_one hgn hg3 hg e))) nin0) fun x hx z => own_othA hnd hx eg (by rw [et]; exact hds _ z)
   | cons x s' =>
    have C := own_CH_app.mp F.2
    have D := own_CH_app.mp C.1
    have nL := own_ndL nd
    have nR := own_ndR nd
    have hpv : own_ls .null (p' ++ [y]) = (.ref y.1) := own_ls_snoc ..
    have C2 := C.2
    rw [hpv] at C2
    obtain ⟨f0, ef⟩ := own_hd_ref (p' ++ [y]) (o, q) (x :: s') .null
    obtain ⟨l0, el⟩ := own_ls_ref (p' ++ [y]) (o, q) (x :: s') .null
    have LL := F.1
    rw [ef, el] at LL
    refine MetFree.mono (rm_remPyx l Z a0 hw ws a q sd rk la up qy o (own_rk sd ba q) kr kl (gs.map Prod.snd) (gs.map Prod.fst) g1.length y.1 y.2 (own_ls .null p') (.ref a) x.1 x.2 (own_hd s' .null) (.ref a) f0 l0 (.ref a) ba h0 n0 Z0 SB OLD BB C2.1 ga go hq (by rw [eA]; exact LL) (by rw [eA]; exact gA) D.2.1 (mem y (by simp)) nL.2.1 C2.2.1 (mem x (by simp)) nR.2 (nL.2.2.1 x (by simp)) AR rfl hi hix) (fun _ _ k => k) (fun _ _ _ _ _ k => k) (fun _ _ _ T9 _ k => ?_)
    obtain ⟨v, L, e1, ⟨rfl, N, K, BB', OO', LL', YO, XO⟩, fe⟩ := k
    rw [eA] at K LL'
    have W : ∀ w ∈ [a, o, A, y.1, x.1], own_Wd Z h0 n0 [] [A] [o, y.1, x.1] w := (allS ⟨ga, Or.inl BB.1⟩ (allS ⟨go, Or.inr (Or.inr (Or.inr ⟨C2.1.1, by simp⟩))⟩ (allS ⟨gA, Or.inr (Or.inr (Or.inl ⟨F.1.1, by simp⟩))⟩ (allS ⟨mem y (by simp), Or.inr (Or.inr (Or.inr ⟨D.2.1.1, by simp⟩))⟩ (allS ⟨mem x (by simp), Or.inr (Or.inr (Or.inr ⟨C2.2.1.1, by simp⟩))⟩ all0)))))
    have hds : ∀ d ∈ [o, y.1, x.1], d ∈ ((p' ++ [y]) ++ (o, q) :: (x :: s')).map Prod.fst := (allS (List.mem_map_of_mem (f := Prod.fst) (a := (o, q)) (by simp)) (allS (List.mem_map_of_mem (f := Prod.fst) (a := y) (by simp)) (allS (List.mem_map_of_mem (f := Prod.fst) (a := x) (by simp)) all0)))
    have eF : Value.ref f0 = own_hd ((p' ++ [y]) ++ (x :: s')) .null := ef.symm.trans (own_hd_same ..)
    have eL : Value.ref l0 = own_ls .null ((p' ++ [y]) ++ (x :: s')) := el.symm.trans (own_ls_skip ..)
    have FL : own_LV Z T9.heap a A ((p' ++ [y]) ++ (x :: s')) := ⟨by rw [← eF, ← eL]; exact LL', own_CH_app.mpr ⟨own_CH_app.mpr ⟨D.1.keep K (fun u hu => own_ninO wO W (own_CH_exa D.1 u hu) (ninS (nL.1 u hu).1 (ninS (nL.1 u hu).2 (ninS (nL.2.2.2 u hu x (by simp)) nin0)))), YO, trivial⟩, by rw [hpv]; exact ⟨XO, C2.2.2.keep K (fun u hu => own_ninO wO W (own_CH_exa C2.2.2 u hu) (ninS (nR.1 u hu).1 (ninS (nL.2.2.1 u (List.mem_cons_of_mem _ hu)).symm (ninS (nR.1 u hu).2 nin0))))⟩⟩⟩
    have ne2 : own_at sd ba (pp ++ ss) (own_rk sd ba q) ≠ [] := by rw [et2]; simp
    have fin : ∀ r, own_at sd ba (pp ++ (o, q) :: ss) r ≠ [] ↔ own_at sd ba (pp ++ ss) r ≠ [] := by
     intro r
     by_cases e : r = (own_rk sd ba q)
     ·rw [e]; exact ⟨fun _ => ne2, fun _ => hat⟩
     ·rw [own_at_mid (x := (o, q)) (Or.inr fun z => e z.symm)]
    have PP2 := own_P_r PP fin
    refine ⟨_, L, e1, ⟨rfl, N, ⟨rk, la, up, kr, kl, _, gs, BB', AR.kept wB wL wO W K, ?_, fun g hg2 => ?_, ⟨ga, grk, gla, gup⟩, nrl, OV, PP2⟩, ⟨K.1, trivial⟩, OLD.keep K fun w hw => (W w hw).1⟩, fe⟩
    ·rw [← eu3]; exact UP.kept wL wO W K (own_un hup hg) fun x hx z => own_othV hnd hx (by rw [et]; exact hds _ z)
    ·have hg3 := hg2
     by_cases eg : g.2 = (own_rk sd ba q)
     ·obtain rfl : g = (A, (own_rk sd ba q)) := own_two hpw hg2 hg eg
      show own_LV Z _ a A (own_at sd ba (pp ++ ss) (own_rk sd ba q))
      rw [et2]; exact FL
     ·rw [← own_at_mid (x := (o, q)) (Or.inr fun z => eg z.symm)]
      exact (LV g hg2).kept wL wO W K (ninS (fun e => eg (congrArg Prod.snd (own_one hgn hg3 hg e))) nin0) fun x hx z => own_othA hnd hx eg (by rw [et]; exact hds _ z)

def Q_firW (Z : State) (a : Addr) (sd : Addr) (b : Nat) (xs : List own_Or) (bu : Int32) (ba : Addr) (h0 : Heap) (n0 : Nat) (v : Option Value) (h : Heap) (L : List Loc) : Prop := v = some (own_exp bu xs) ∧ Fr n0 L ∧ h = h0
theorem rm_firW (l : Launch) (Z : State) (a0 : Array Value) (hw : ∀ d ∈ tables_1, d.before a0 Z = true) (ws : List Jvm.Cond) (a : Addr) (sd : Addr) (b : Nat) (xs : List own_Or) (bu : Int32) (ba : Addr) (h0 : Heap) (n0 : Nat) (Z0 : n0 ≤ h0.size) (BK : own_Bk Z h0 n0 a sd ba b xs) (hqs : ∀ y ∈ xs, y.2 = (-9223372036854775808 : Int64) ∨ 1 ≤ y.2) (hsb : own_sdb bu sd ba) :
  MetFree l (⟨"com/example/tidegate/tidegate/engine/BookSide", "first", "()Lcom/example/tidegate/tidegate/engine/Order;"⟩ : MethodName) (head1 (Jvm.Cond.code (⟨"com/example/tidegate/tidegate/engine/BookSide", "first", "()Lcom/example/tidegate/tidegate/engine/Order;"⟩ : MethodName) prog_2_method_2_code 1 (some (.object "com/example/tidegate/tidegate/engine/Order")) :: ws) ({ frames := 1, cells := 0, slots := 0, locals := 1 } : Room)) (fun aa_ U => aa_ = #[(.ref a)] ∧ Z.Warmed39 U.vm ∧ U.heap = h0) (fun _ _ _ _ _ => True) (fun _ U o_ U' => RetG U (Q_firW Z a sd b xs bu ba h0 n0) 0 0 U' o_) := by
 obtain ⟨rk, la, up, kr, kl, qy, gs, BB, AR, UP, LV, ⟨ga, grk, gla, gup⟩, nrl, OV, PP⟩ := BK
 have hpw := PP.2.2.2.1
 have hrs := PP.2.2.2.2.1
 cases eu : own_us xs with
 | cons x r =>
  rw [eu] at UP
  refine MetFree.mono (rm_firU l Z a0 hw ws a sd rk la up qy (Int32.ofNat (gs.map Prod.snd).length) x.1 (own_ls .null (x :: r)) h0 n0 Z0 BB UP.1) (fun _ _ k => k) (fun _ _ _ _ _ k => k) (fun _ _ _ _ _ k => ?_)
  obtain ⟨v, L, e1, ⟨rfl, N, hh⟩, fe⟩ := k
  exact ⟨_, L, e1, ⟨by rw [own_exp_U eu], N, hh⟩, fe⟩
 | nil =>
  rw [eu] at UP
  rcases own_last gs with eg | ⟨g', g, eg⟩
  ·subst eg
   refine MetFree.mono (rm_firE l Z a0 hw ws a sd rk la up qy (own_ls .null []) h0 n0 Z0 BB UP.1) (fun _ _ k => k) (fun _ _ _ _ _ k => k) (fun _ _ _ _ _ k => ?_)
   obtain ⟨v, L, e1, ⟨rfl, N, hh⟩, fe⟩ := k
   exact ⟨_, L, e1, ⟨by rw [own_exp_0 (sd := sd) (ba := ba) eu fun r => Classical.byContradiction fun z => absurd ((hrs r).mpr z) (by simp)], N, hh⟩, fe⟩
  ·have hg : g ∈ gs := by rw [eg]; simp
   have F := LV g hg
   have ne : own_at sd ba xs g.2 ≠ [] := (hrs _).mp (List.mem_map_of_mem (f := Prod.snd) hg)
   have eA : (gs.map Prod.fst).getD ((gs.map Prod.snd).length - 1) 0 = g.1 := by
    have := own_getA (g'.map Prod.fst) [] g.1 0
    rw [List.length_map] at this
    rw [eg]
    simpa using this
   cases ea : own_at sd ba xs g.2 with
   | nil => exact absurd ea ne
   | cons x r =>
    rw [ea] at F
    refine MetFree.mono (rm_firP l Z a0 hw ws a sd rk la up qy (own_ls .null []) kr kl (gs.map Prod.snd) (gs.map Prod.fst) x.1 (own_ls .null (x :: r)) h0 n0 Z0 BB UP.1 AR (by rw [eg]; simp) (by rw [eA]; exact F.1)) (fun _ _ k => k) (fun _ _ _ _ _ k => k) (fun _ _ _ _ _ k => ?_)
    obtain ⟨v, L, e1, ⟨rfl, N, hh⟩, fe⟩ := k
    refine ⟨_, L, e1, ⟨?_, N, hh⟩, fe⟩
    rw [own_exp_P hsb hqs eu (fun r hr => ?_) ea]
    have hr2 := (hrs r).mpr hr
    rw [eg, List.map_append, List.pairwise_append] at hpw
    rw [eg, List.map_append, List.mem_append] at hr2
    rcases hr2 with z | z
    ·have := hpw.2.2 r z g.2 (by simp)
     rw [own_ltI] at *
     omega
    ·rw [show r = g.2 by simpa using z]; exact fun q => Int64.lt_irrefl q

theorem own_pd11 : parseMethodDescriptor "(Lcom/example/tidegate/tidegate/engine/Side;)V" = some ⟨[(.object "com/example/tidegate/tidegate/engine/Side")], none⟩ := by decide +kernel
theorem own_pd12 : parseMethodDescriptor "(Ljava/lang/String;Lcom/example/tidegate/tidegate/engine/Security;Lcom/example/tidegate/tidegate/engine/Side;Lcom/example/tidegate/tidegate/engine/OrderType;JJJ)V" = some ⟨[(.object "java/lang/String"), (.object "com/example/tidegate/tidegate/engine/Security"), (.object "com/example/tidegate/tidegate/engine/Side"), (.object "com/example/tidegate/tidegate/engine/OrderType"), .long, .long, .long], none⟩ := by decide +kernel
theorem own_pd13 : parseMethodDescriptor "()Lcom/example/tidegate/tidegate/engine/Order;" = some ⟨[], some (.object "com/example/tidegate/tidegate/engine/Order")⟩ := by decide +kernel
theorem own_pd14 : parseMethodDescriptor "(ZJJ)Z" = some ⟨[.boolean, .long, .long], some .boolean⟩ := by decide +kernel
theorem own_pd15 : parseMethodDescriptor "(Lcom/example/tidegate/tidegate/engine/Order;)V" = some ⟨[(.object "com/example/tidegate/tidegate/engine/Order")], none⟩ := by decide +kernel
def Q_law (Z : State) (fl : Int32) (px : Int64) (py : Int64) (pz : Int64) (ba : Addr) (se : Addr) (h0 : Heap) (n0 : Nat) (v : Option Value) (h : Heap) (L : List Loc) : Prop := v = some (.int 1) ∧ Fr n0 L
set_option maxRecDepth 65536 in
set_option maxHeartbeats 40000000 in
theorem rm_law (l : Launch) (Z : State) (a0 : Array Value) (hw : ∀ d ∈ tables_1, d.before a0 Z = true) (ws : List Jvm.Cond) (fl : Int32) (px : Int64) (py : Int64) (pz : Int64) (ba : Addr) (se : Addr) (h0 : Heap) (n0 : Nat) (Z0 : n0 ≤ h0.size) (SB : Sta Z Z.heap "com/example/tidegate/tidegate/engine/Side" "BUY" "Lcom/example/tidegate/tidegate/engine/Side;" (.ref ba)) (OLD : Old Z n0 h0) (SS : Sta Z Z.heap "com/example/tidegate/tidegate/engine/Side" "SELL" "Lcom/example/tidegate/tidegate/engine/Side;" (.ref se)) (nsb : ¬ se = ba) :
  MetFree l Jvm.Pilot.@@N@@.x (head1 (Jvm.Cond.code Jvm.Pilot.@@N@@.x Jvm.Pilot.@@N@@.code Jvm.Pilot.@@N@@.maxLocals Jvm.Pilot.@@N@@.ret :: ws) room_1) (fun aa_ U => aa_ = #[(.int fl), (.long px), (.long py), (.long pz)] ∧ Z.Warmed39 U.vm ∧ U.heap = h0) (fun _ _ _ _ _ => True) (fun _ U o_ U' => RetG U (Q_law Z fl px py pz ba se h0 n0) 32 256 U' o_) := by
 refine MetFree.of_bodySF (plainFor_of_name own_pn3) hisR ?_
 intro p e s m args below meth c_ s₁ Bd hml0 hP hK
 obtain ⟨rfl, hZ, hh⟩ := hP
 have hx := Bd.exec
 have hby := Bd.bytes
 have hml : c_.maxLocals = 33 := hml0
 have hown : s.vm.findClass "com/example/tidegate/tidegate/engine/BookSideFirstPinLaw" = some m.cls := findClass_of_methodNamed Bd.named
 have hnm := (name_of_methodNamed Bd.named Bd.method).1
 have X0 : Stand p l e room_1 s m #[(.int fl), (.long px), (.long py), (.long pz)] below meth c_ s₁ [] 0 0 := Stand.of_body Bd
 have e0 : s₁.heap = h0 := by rw [← hh, Bd.state]; rfl
 have N0 := Fr.nil n0
 have w0_ := hw _ (List.mem_of_getElem? (i := 0) rfl)
 have w3_ := hw _ (List.mem_of_getElem? (i := 3) rfl)
 have w4_ := hw _ (List.mem_of_getElem? (i := 4) rfl)
 have w5_ := hw _ (List.mem_of_getElem? (i := 5) rfl)
 have w6_ := hw _ (List.mem_of_getElem? (i := 6) rfl)
 have w7_ := hw _ (List.mem_of_getElem? (i := 7) rfl)
 have w8_ := hw _ (List.mem_of_getElem? (i := 8) rfl)
 have w9_ := hw _ (List.mem_of_getElem? (i := 9) rfl)
 have w10_ := hw _ (List.mem_of_getElem? (i := 10) rfl)
 have w11_ := hw _ (List.mem_of_getElem? (i := 11) rfl)
 have w12_ := hw _ (List.mem_of_getElem? (i := 12) rfl)
 have w13_ := hw _ (List.mem_of_getElem? (i := 13) rfl)
 have w19_ := hw _ (List.mem_of_getElem? (i := 19) rfl)
 have w23_ := hw _ (List.mem_of_getElem? (i := 23) rfl)
 have w34_ := hw _ (List.mem_of_getElem? (i := 34) rfl)
 have w36_ := hw _ (List.mem_of_getElem? (i := 36) rfl)
 have w37_ := hw _ (List.mem_of_getElem? (i := 37) rfl)
 have w38_ := hw _ (List.mem_of_getElem? (i := 38) rfl)
 have w39_ := hw _ (List.mem_of_getElem? (i := 39) rfl)
 have w40_ := hw _ (List.mem_of_getElem? (i := 40) rfl)
 have w41_ := hw _ (List.mem_of_getElem? (i := 41) rfl)
 have w42_ := hw _ (List.mem_of_getElem? (i := 42) rfl)
 have w45_ := hw _ (List.mem_of_getElem? (i := 45) rfl)
 have w47_ := hw _ (List.mem_of_getElem? (i := 47) rfl)
 have w49_ := hw _ (List.mem_of_getElem? (i := 49) rfl)
 have w51_ := hw _ (List.mem_of_getElem? (i := 51) rfl)
 have w53_ := hw _ (List.mem_of_getElem? (i := 53) rfl)
 have w55_ := hw _ (List.mem_of_getElem? (i := 55) rfl)
 have w57_ := hw _ (List.mem_of_getElem? (i := 57) rfl)
 have w59_ := hw _ (List.mem_of_getElem? (i := 59) rfl)
 have w60_ := hw _ (List.mem_of_getElem? (i := 60) rfl)
 have w61_ := hw _ (List.mem_of_getElem? (i := 61) rfl)
 have w62_ := hw _ (List.mem_of_getElem? (i := 62) rfl)
 have w63_ := hw _ (List.mem_of_getElem? (i := 63) rfl)
 have w64_ := hw _ (List.mem_of_getElem? (i := 64) rfl)
 have w68_ := hw _ (List.mem_of_getElem? (i := 68) rfl)
 have w69_ := hw _ (List.mem_of_getElem? (i := 69) rfl)
 have w71_ := hw _ (List.mem_of_getElem? (i := 71) rfl)
 have w72_ := hw _ (List.mem_of_getElem? (i := 72) rfl)
 have w73_ := hw _ (List.mem_of_getElem? (i := 73) rfl)
 have w74_ := hw _ (List.mem_of_getElem? (i := 74) rfl)
 have w75_ := hw _ (List.mem_of_getElem? (i := 75) rfl)
 have w76_ := hw _ (List.mem_of_getElem? (i := 76) rfl)
 have w78_ := hw _ (List.mem_of_getElem? (i := 78) rfl)
 have w93_ := hw _ (List.mem_of_getElem? (i := 93) rfl)
 have w137_ := hw _ (List.mem_of_getElem? (i := 137) rfl)
 have w141_ := hw _ (List.mem_of_getElem? (i := 141) rfl)
 have w143_ := hw _ (List.mem_of_getElem? (i := 143) rfl)
 have w144_ := hw _ (List.mem_of_getElem? (i := 144) rfl)
 have w145_ := hw _ (List.mem_of_getElem? (i := 145) rfl)
 have w146_ := hw _ (List.mem_of_getElem? (i := 146) rfl)
 have w147_ := hw _ (List.mem_of_getElem? (i := 147) rfl)
 have w148_ := hw _ (List.mem_of_getElem? (i := 148) rfl)
 have w149_ := hw _ (List.mem_of_getElem? (i := 149) rfl)
 have w150_ := hw _ (List.mem_of_getElem? (i := 150) rfl)
 have w151_ := hw _ (List.mem_of_getElem? (i := 151) rfl)
 have w152_ := hw _ (List.mem_of_getElem? (i := 152) rfl)
 show Go p e below (RetG s (Q_law Z fl px py pz ba se h0 n0) 32 256) (s₁.setTop (entryFrame m #[(.int fl), (.long px), (.long py), (.long pz)] maxLocals))
 rw [show entryFrame m #[(.int fl), (.long px), (.long py), (.long pz)] maxLocals = mkF m 0 #[.val (.int fl), .val (.long px), .second, .val (.long py), .second, .val (.long pz), .second, .unset, .unset, .unset, .unset, .unset, .unset, .unset, .unset, .unset, .unset, .unset, .unset, .unset, .unset, .unset, .unset, .unset, .unset, .unset, .unset, .unset, .unset, .unset, .unset, .unset, .unset] [] from by first | (simp [entryFrame, mkF, argsToLocals, Value.category, maxLocals]; done) | rfl]
 refine g_iloadN X0 hx hby at_0 rfl ?_
 refine g_iconst X0 hx hby (1 : Int32) at_1 rfl ?_
 refine g_iand X0 hx hby at_2 ?_
 have J1 : ∀ (T1 : State) (L1 : List Loc) (bu : Int32) (sd : Addr), Stand p l e room_1 s m #[(.int fl), (.long px), (.long py), (.long pz)] below meth c_ T1 L1 0 0 → T1.heap = h0 → Fr n0 L1 → own_sdb bu sd ba → Go p e below (RetG s (Q_law Z fl px py pz ba se h0 n0) 32 256) (T1.setTop (mkF m 29 #[.val (.int fl), .val (.long px), .second, .val (.long py), .second, .val (.long pz), .second, .val (.int bu), .val (.ref sd), .unset, .unset, .unset, .unset, .unset, .unset, .unset, .unset, .unset, .unset, .unset, .unset, .unset, .unset, .unset, .unset, .unset, .unset, .unset, .unset, .unset, .unset, .unset, .unset] [])) := by
  intro T1 L1 bu sd X1 e1 N1 hsb
  refine g_iloadN X1 hx hby at_29 rfl ?_
  refine g_iconst X1 hx hby (2 : Int32) at_30 rfl ?_
  refine g_iand X1 hx hby at_31 ?_
  have J2 : ∀ (T2 : State) (L2 : List Loc) (ua0 : Int32), Stand p l e room_1 s m #[(.int fl), (.long px), (.long py), (.long pz)] below meth c_ T2 L2 0 0 → T2.heap = h0 → Fr n0 L2 → (ua0 = (0 : Int32) ∨ ua0 = (1 : Int32)) → Go p e below (RetG s (Q_law Z fl px py pz ba se h0 n0) 32 256) (T2.setTop (mkF m 40 #[.val (.int fl), .val (.long px), .second, .val (.long py), .second, .val (.long pz), .second, .val (.int bu), .val (.ref sd), .unset, .unset, .unset, .unset, .unset, .unset, .unset, .unset, .unset, .unset, .unset, .unset, .unset, .unset, .unset, .unset, .unset, .unset, .unset, .unset, .unset, .unset, .unset, .unset] [(.int ua0)])) := by
   intro T2 L2 ua0 X2 e2 N2 h_ua0
   refine g_istore X2 hx hby at_40 (l' := #[.val (.int fl), .val (.long px), .second, .val (.long py), .second, .val (.long pz), .second, .val (.int bu), .val (.ref sd), .val (.int ua0), .unset, .unset, .unset, .unset, .unset, .unset, .unset, .unset, .unset, .unset, .unset, .unset, .unset, .unset, .unset, .unset, .unset, .unset, .unset, .unset, .unset, .unset, .unset]) rfl ?_
   refine g_iloadN X2 hx hby at_42 rfl ?_
   refine g_iconst X2 hx hby (4 : Int32) at_43 rfl ?_
   refine g_iand X2 hx hby at_44 ?_
   have J3 : ∀ (T3 : State) (L3 : List Loc) (ua1 : Int32), Stand p l e room_1 s m #[(.int fl), (.long px), (.long py), (.long pz)] below meth c_ T3 L3 0 0 → T3.heap = h0 → Fr n0 L3 → (ua1 = (0 : Int32) ∨ ua1 = (1 : Int32)) → Go p e below (RetG s (Q_law Z fl px py pz ba se h0 n0) 32 256) (T3.setTop (mkF m 53 #[.val (.int fl), .val (.long px), .second, .val (.long py), .second, .val (.long pz), .second, .val (.int bu), .val (.ref sd), .val (.int ua0), .unset, .unset, .unset, .unset, .unset, .unset, .unset, .unset, .unset, .unset, .unset, .unset, .unset, .unset, .unset, .unset, .unset, .unset, .unset, .unset, .unset, .unset, .unset] [(.int ua1)])) := by
    intro T3 L3 ua1 X3 e3 N3 h_ua1
    refine g_istore X3 hx hby at_53 (l' := #[.val (.int fl), .val (.long px), .second, .val (.long py), .second, .val (.long pz), .second, .val (.int bu), .val (.ref sd), .val (.int ua0), .val (.int ua1), .unset, .unset, .unset, .unset, .unset, .unset, .unset, .unset, .unset, .unset, .unset, .unset, .unset, .unset, .unset, .unset, .unset, .unset, .unset, .unset, .unset, .unset]) rfl ?_
    refine g_iloadN X3 hx hby at_55 rfl ?_
    refine g_bipush X3 hx hby (8 : Int32) at_56 rfl ?_
    refine g_iand X3 hx hby at_58 ?_
    have J4 : ∀ (T4 : State) (L4 : List Loc) (ua2 : Int32), Stand p l e room_1 s m #[(.int fl), (.long px), (.long py), (.long pz)] below meth c_ T4 L4 0 0 → T4.heap = h0 → Fr n0 L4 → (ua2 = (0 : Int32) ∨ ua2 = (1 : Int32)) → Go p e below (RetG s (Q_law Z fl px py pz ba se h0 n0) 32 256) (T4.setTop (mkF m 67 #[.val (.int fl), .val (.long px), .second, .val (.long py), .second, .val (.long pz), .second, .val (.int bu), .val (.ref sd), .val (.int ua0), .val (.int ua1), .unset, .unset, .unset, .unset, .unset, .unset, .unset, .unset, .unset, .unset, .unset, .unset, .unset, .unset, .unset, .unset, .unset, .unset, .unset, .unset, .unset, .unset] [(.int ua2)])) := by
     intro T4 L4 ua2 X4 e4 N4 h_ua2
     refine g_istore X4 hx hby at_67 (l' := #[.val (.int fl), .val (.long px), .second, .val (.long py), .second, .val (.long pz), .second, .val (.int bu), .val (.ref sd), .val (.int ua0), .val (.int ua1), .val (.int ua2), .unset, .unset, .unset, .unset, .unset, .unset, .unset, .unset, .unset, .unset, .unset, .unset, .unset, .unset, .unset, .unset, .unset, .unset, .unset, .unset, .unset]) rfl ?_
     refine g_iloadN X4 hx hby at_69 rfl ?_
     refine g_bipush X4 hx hby (16 : Int32) at_70 rfl ?_
     refine g_iand X4 hx hby at_72 ?_
     have J5 : ∀ (T5 : State) (L5 : List Loc) (fa0 : Int32), Stand p l e room_1 s m #[(.int fl), (.long px), (.long py), (.long pz)] below meth c_ T5 L5 0 0 → T5.heap = h0 → Fr n0 L5 → (fa0 = (0 : Int32) ∨ fa0 = (1 : Int32)) → Go p e below (RetG s (Q_law Z fl px py pz ba se h0 n0) 32 256) (T5.setTop (mkF m 81 #[.val (.int fl), .val (.long px), .second, .val (.long py), .second, .val (.long pz), .second, .val (.int bu), .val (.ref sd), .val (.int ua0), .val (.int ua1), .val (.int ua2), .unset, .unset, .unset, .unset, .unset, .unset, .unset, .unset, .unset, .unset, .unset, .unset, .unset, .unset, .unset, .unset, .unset, .unset, .unset, .unset, .unset] [(.int fa0)])) := by
      intro T5 L5 fa0 X5 e5 N5 h_fa0
      refine g_istore X5 hx hby at_81 (l' := #[.val (.int fl), .val (.long px), .second, .val (.long py), .second, .val (.long pz), .second, .val (.int bu), .val (.ref sd), .val (.int ua0), .val (.int ua1), .val (.int ua2), .val (.int fa0), .unset, .unset, .unset, .unset, .unset, .unset, .unset, .unset, .unset, .unset, .unset, .unset, .unset, .unset, .unset, .unset, .unset, .unset, .unset, .unset]) rfl ?_
      refine g_iloadN X5 hx hby at_83 rfl ?_
      refine g_bipush X5 hx hby (32 : Int32) at_84 rfl ?_
      refine g_iand X5 hx hby at_86 ?_
      have J6 : ∀ (T6 : State) (L6 : List Loc) (fa1 : Int32), Stand p l e room_1 s m #[(.int fl), (.long px), (.long py), (.long pz)] below meth c_ T6 L6 0 0 → T6.heap = h0 → Fr n0 L6 → (fa1 = (0 : Int32) ∨ fa1 = (1 : Int32)) → Go p e below (RetG s (Q_law Z fl px py pz ba se h0 n0) 32 256) (T6.setTop (mkF m 95 #[.val (.int fl), .val (.long px), .second, .val (.long py), .second, .val (.long pz), .second, .val (.int bu), .val (.ref sd), .val (.int ua0), .val (.int ua1), .val (.int ua2), .val (.int fa0), .unset, .unset, .unset, .unset, .unset, .unset, .unset, .unset, .unset, .unset, .unset, .unset, .unset, .unset, .unset, .unset, .unset, .unset, .unset, .unset] [(.int fa1)])) := by
       intro T6 L6 fa1 X6 e6 N6 h_fa1
       refine g_istore X6 hx hby at_95 (l' := #[.val (.int fl), .val (.long px), .second, .val (.long py), .second, .val (.long pz), .second, .val (.int bu), .val (.ref sd), .val (.int ua0), .val (.int ua1), .val (.int ua2), .val (.int fa0), .val (.int fa1), .unset, .unset, .unset, .unset, .unset, .unset, .unset, .unset, .unset, .unset, .unset, .unset, .unset, .unset, .unset, .unset, .unset, .unset, .unset]) rfl ?_
       refine g_iloadN X6 hx hby at_97 rfl ?_
       refine g_bipush X6 hx hby (64 : Int32) at_98 rfl ?_
       refine g_iand X6 hx hby at_100 ?_
       have J7 : ∀ (T7 : State) (L7 : List Loc) (fa2 : Int32), Stand p l e room_1 s m #[(.int fl), (.long px), (.long py), (.long pz)] below meth c_ T7 L7 0 0 → T7.heap = h0 → Fr n0 L7 → (fa2 = (0 : Int32) ∨ fa2 = (1 : Int32)) → Go p e below (RetG s (Q_law Z fl px py pz ba se h0 n0) 32 256) (T7.setTop (mkF m 109 #[.val (.int fl), .val (.long px), .second, .val (.long py), .second, .val (.long pz), .second, .val (.int bu), .val (.ref sd), .val (.int ua0), .val (.int ua1), .val (.int ua2), .val (.int fa0), .val (.int fa1), .unset, .unset, .unset, .unset, .unset, .unset, .unset, .unset, .unset, .unset, .unset, .unset, .unset, .unset, .unset, .unset, .unset, .unset, .unset] [(.int fa2)])) := by
        intro T7 L7 fa2 X7 e7 N7 h_fa2
        refine g_istore X7 hx hby at_109 (l' := #[.val (.int fl), .val (.long px), .second, .val (.long py), .second, .val (.long pz), .second, .val (.int bu), .val (.ref sd), .val (.int ua0), .val (.int ua1), .val (.int ua2), .val (.int fa0), .val (.int fa1), .val (.int fa2), .unset, .unset, .unset, .unset, .unset, .unset, .unset, .unset, .unset, .unset, .unset, .unset, .unset, .unset, .unset, .unset, .unset, .unset]) rfl ?_
        refine g_iloadN X7 hx hby at_111 rfl ?_
        refine g_bipush X7 hx hby (7 : Int32) at_112 rfl ?_
        refine g_iushr X7 hx hby at_114 ?_
        refine g_iconst X7 hx hby (3 : Int32) at_115 rfl ?_
        refine g_iand X7 hx hby at_116 ?_
        obtain ⟨rmv, e_rm⟩ : ∃ z, z = (((fl.toUInt32 >>> ((7 : Int32) &&& 31).toUInt32).toInt32) &&& (3 : Int32)) := ⟨_, rfl⟩
        rw [← e_rm]
        clear e_rm
        refine g_istore X7 hx hby at_117 (l' := #[.val (.int fl), .val (.long px), .second, .val (.long py), .second, .val (.long pz), .second, .val (.int bu), .val (.ref sd), .val (.int ua0), .val (.int ua1), .val (.int ua2), .val (.int fa0), .val (.int fa1), .val (.int fa2), .val (.int rmv), .unset, .unset, .unset, .unset, .unset, .unset, .unset, .unset, .unset, .unset, .unset, .unset, .unset, .unset, .unset, .unset, .unset]) rfl ?_
        refine g_iload X7 hx hby at_119 rfl ?_
        have J8 : ∀ (T8 : State) (L8 : List Loc) (q0 : Int64), Stand p l e room_1 s m #[(.int fl), (.long px), (.long py), (.long pz)] below meth c_ T8 L8 0 0 → T8.heap = h0 → Fr n0 L8 → (q0 = (-9223372036854775808 : Int64) ∨ 1 ≤ q0) → Go p e below (RetG s (Q_law Z fl px py pz ba se h0 n0) 32 256) (T8.setTop (mkF m 139 #[.val (.int fl), .val (.long px), .second, .val (.long py), .second, .val (.long pz), .second, .val (.int bu), .val (.ref sd), .val (.int ua0), .val (.int ua1), .val (.int ua2), .val (.int fa0), .val (.int fa1), .val (.int fa2), .val (.int rmv), .unset, .unset, .unset, .unset, .unset, .unset, .unset, .unset, .unset, .unset, .unset, .unset, .unset, .unset, .unset, .unset, .unset] [(.long q0)])) := by
         intro T8 L8 q0 X8 e8 N8 h_q0
         refine g_lstore X8 hx hby at_139 (l' := #[.val (.int fl), .val (.long px), .second, .val (.long py), .second, .val (.long pz), .second, .val (.int bu), .val (.ref sd), .val (.int ua0), .val (.int ua1), .val (.int ua2), .val (.int fa0), .val (.int fa1), .val (.int fa2), .val (.int rmv), .val (.long q0), .second, .unset, .unset, .unset, .unset, .unset, .unset, .unset, .unset, .unset, .unset, .unset, .unset, .unset, .unset, .unset]) rfl ?_
         refine g_iload X8 hx hby at_141 rfl ?_
         have J9 : ∀ (T9 : State) (L9 : List Loc) (q1 : Int64), Stand p l e room_1 s m #[(.int fl), (.long px), (.long py), (.long pz)] below meth c_ T9 L9 0 0 → T9.heap = h0 → Fr n0 L9 → (q1 = (-9223372036854775808 : Int64) ∨ 1 ≤ q1) → Go p e below (RetG s (Q_law Z fl px py pz ba se h0 n0) 32 256) (T9.setTop (mkF m 161 #[.val (.int fl), .val (.long px), .second, .val (.long py), .second, .val (.long pz), .second, .val (.int bu), .val (.ref sd), .val (.int ua0), .val (.int ua1), .val (.int ua2), .val (.int fa0), .val (.int fa1), .val (.int fa2), .val (.int rmv), .val (.long q0), .second, .unset, .unset, .unset, .unset, .unset, .unset, .unset, .unset, .unset, .unset, .unset, .unset, .unset, .unset, .unset] [(.long q1)])) := by
          intro T9 L9 q1 X9 e9 N9 h_q1
          refine g_lstore X9 hx hby at_161 (l' := #[.val (.int fl), .val (.long px), .second, .val (.long py), .second, .val (.long pz), .second, .val (.int bu), .val (.ref sd), .val (.int ua0), .val (.int ua1), .val (.int ua2), .val (.int fa0), .val (.int fa1), .val (.int fa2), .val (.int rmv), .val (.long q0), .second, .val (.long q1), .second, .unset, .unset, .unset, .unset, .unset, .unset, .unset, .unset, .unset, .unset, .unset, .unset, .unset]) rfl ?_
          refine g_iload X9 hx hby at_163 rfl ?_
          have J10 : ∀ (T10 : State) (L10 : List Loc) (q2 : Int64), Stand p l e room_1 s m #[(.int fl), (.long px), (.long py), (.long pz)] below meth c_ T10 L10 0 0 → T10.heap = h0 → Fr n0 L10 → (q2 = (-9223372036854775808 : Int64) ∨ 1 ≤ q2) → Go p e below (RetG s (Q_law Z fl px py pz ba se h0 n0) 32 256) (T10.setTop (mkF m 184 #[.val (.int fl), .val (.long px), .second, .val (.long py), .second, .val (.long pz), .second, .val (.int bu), .val (.ref sd), .val (.int ua0), .val (.int ua1), .val (.int ua2), .val (.int fa0), .val (.int fa1), .val (.int fa2), .val (.int rmv), .val (.long q0), .second, .val (.long q1), .second, .unset, .unset, .unset, .unset, .unset, .unset, .unset, .unset, .unset, .unset, .unset, .unset, .unset] [(.long q2)])) := by
           intro T10 L10 q2 X10 e10 N10 h_q2
           refine g_lstore X10 hx hby at_184 (l' := #[.val (.int fl), .val (.long px), .second, .val (.long py), .second, .val (.long pz), .second, .val (.int bu), .val (.ref sd), .val (.int ua0), .val (.int ua1), .val (.int ua2), .val (.int fa0), .val (.int fa1), .val (.int fa2), .val (.int rmv), .val (.long q0), .second, .val (.long q1), .second, .val (.long q2), .second, .unset, .unset, .unset, .unset, .unset, .unset, .unset, .unset, .unset, .unset, .unset]) rfl ?_
           refine g_new X10 hx hby hZ hown w8_ w9_ w10_ e10 (by decide) (by decide) at_186 (fun T11 h11 b11 g11 X11 e11 E11 A11 D11 => ?_)
           have F_ranks_b11 : Fld Z h11 b11 "com/example/tidegate/tidegate/engine/BookSide" "ranks" "[J" .null := D11 (Or.inl w19_) (ty := (.array .long)) (by decide)
           have F_levels_b11 : Fld Z h11 b11 "com/example/tidegate/tidegate/engine/BookSide" "levels" "[Lcom/example/tidegate/tidegate/engine/BookSide$Level;" .null := D11 (Or.inl w23_) (ty := (.array (.object "com/example/tidegate/tidegate/engine/BookSide$Level"))) (by decide)
           have F_unpriced_b11 : Fld Z h11 b11 "com/example/tidegate/tidegate/engine/BookSide" "unpriced" "Lcom/example/tidegate/tidegate/engine/BookSide$Level;" .null := D11 (Or.inr w34_) (ty := (.object "com/example/tidegate/tidegate/engine/BookSide$Level")) (by decide)
           have F_side_b11 : Fld Z h11 b11 "com/example/tidegate/tidegate/engine/BookSide" "side" "Lcom/example/tidegate/tidegate/engine/Side;" .null := D11 (Or.inr w36_) (ty := (.object "com/example/tidegate/tidegate/engine/Side")) (by decide)
           have F_levelCount_b11 : Fld Z h11 b11 "com/example/tidegate/tidegate/engine/BookSide" "levelCount" "I" (.int (0 : Int32)) := D11 (Or.inl w68_) (ty := .int) (by decide)
           have F_quantity_b11 : Fld Z h11 b11 "com/example/tidegate/tidegate/engine/BookSide" "quantity" "J" (.long (0 : Int64)) := D11 (Or.inl w78_) (ty := .long) (by decide)
           refine g_dup X11 hx hby at_189 rfl ?_
           refine g_aload X11 hx hby at_190 rfl rfl ?_
           have g_b11 : n0 ≤ b11 := Nat.le_trans Z0 (Nat.le_of_eq g11)
           have z13 := (Nat.le_trans Z0 E11.1)
           refine g_special X11 hx hby hZ hown (rm_bsini l Z a0 hw [] b11 sd h11 n0 z13 A11 F_ranks_b11 F_levels_b11 F_unpriced_b11 F_side_b11 F_levelCount_b11 F_quantity_b11 g_b11) rfl rfl w11_ w12_ w10_ w13_ (by decide) e11 (by rw [hml]; rfl) [(.ref sd)] (lenOf own_pd11 rfl) rfl rfl (Nat.le_of_ble_eq_true rfl) (Nat.le_of_ble_eq_true rfl) (Nat.le_of_ble_eq_true rfl) (Nat.le_of_ble_eq_true rfl) at_192 (fun v12 T12 L12 X12 hQ12 => ?_)
           obtain ⟨rfl, N12q, K12, rk_, la_, up_, kr_, kl_, lr_, ll_, lu_, nrl_, bE_, bF0_, bF1_, bF2_, bF3_, bF4_, bF5_, vR_, vL_, oV_, uE_, uF_, uL_⟩ := hQ12
           have N12 := Fr.app N10 N12q
           refine g_astore X12 hx hby at_195 rfl (l' := #[.val (.int fl), .val (.long px), .second, .val (.long py), .second, .val (.long pz), .second, .val (.int bu), .val (.ref sd), .val (.int ua0), .val (.int ua1), .val (.int ua2), .val (.int fa0), .val (.int fa1), .val (.int fa2), .val (.int rmv), .val (.long q0), .second, .val (.long q1), .second, .val (.long q2), .second, .val (.ref b11), .unset, .unset, .unset, .unset, .unset, .unset, .unset, .unset, .unset, .unset]) rfl ?_
           refine g_new X12 hx hby hZ hown w37_ w38_ w39_ rfl (by decide) (by decide) at_197 (fun T14 h14 b14 g14 X14 e14 E14 A14 D14 => ?_)
           have F_id_b14 : Fld Z h14 b14 "com/example/tidegate/tidegate/engine/Order" "id" "Ljava/lang/String;" .null := D14 (Or.inr w45_) (ty := (.object "java/lang/String")) (by decide)
           have F_security_b14 : Fld Z h14 b14 "com/example/tidegate/tidegate/engine/Order" "security" "Lcom/example/tidegate/tidegate/engine/Security;" .null := D14 (Or.inr w47_) (ty := (.object "com/example/tidegate/tidegate/engine/Security")) (by decide)
           have F_side_b14 : Fld Z h14 b14 "com/example/tidegate/tidegate/engine/Order" "side" "Lcom/example/tidegate/tidegate/engine/Side;" .null := D14 (Or.inr w49_) (ty := (.object "com/example/tidegate/tidegate/engine/Side")) (by decide)
           have F_type_b14 : Fld Z h14 b14 "com/example/tidegate/tidegate/engine/Order" "type" "Lcom/example/tidegate/tidegate/engine/OrderType;" .null := D14 (Or.inr w51_) (ty := (.object "com/example/tidegate/tidegate/engine/OrderType")) (by decide)
           have F_quantity_b14 : Fld Z h14 b14 "com/example/tidegate/tidegate/engine/Order" "quantity" "J" (.long (0 : Int64)) := D14 (Or.inr w53_) (ty := .long) (by decide)
           have F_price_b14 : Fld Z h14 b14 "com/example/tidegate/tidegate/engine/Order" "price" "J" (.long (0 : Int64)) := D14 (Or.inl w55_) (ty := .long) (by decide)
           have F_peak_b14 : Fld Z h14 b14 "com/example/tidegate/tidegate/engine/Order" "peak" "J" (.long (0 : Int64)) := D14 (Or.inr w57_) (ty := .long) (by decide)
           have F_remaining_b14 : Fld Z h14 b14 "com/example/tidegate/tidegate/engine/Order" "remaining" "J" (.long (0 : Int64)) := D14 (Or.inl w59_) (ty := .long) (by decide)
           have F_slice_b14 : Fld Z h14 b14 "com/example/tidegate/tidegate/engine/Order" "slice" "J" (.long (0 : Int64)) := D14 (Or.inl w93_) (ty := .long) (by decide)
           have F_restingOn_b14 : Fld Z h14 b14 "com/example/tidegate/tidegate/engine/Order" "restingOn" "Lcom/example/tidegate/tidegate/engine/BookSide;" .null := D14 (Or.inl w137_) (ty := (.object "com/example/tidegate/tidegate/engine/BookSide")) (by decide)
           have F_previous_b14 : Fld Z h14 b14 "com/example/tidegate/tidegate/engine/Order" "previous" "Lcom/example/tidegate/tidegate/engine/Order;" .null := D14 (Or.inl w141_) (ty := (.object "com/example/tidegate/tidegate/engine/Order")) (by decide)
           have F_next_b14 : Fld Z h14 b14 "com/example/tidegate/tidegate/engine/Order" "next" "Lcom/example/tidegate/tidegate/engine/Order;" .null := D14 (Or.inl w143_) (ty := (.object "com/example/tidegate/tidegate/engine/Order")) (by decide)
           refine g_dup X14 hx hby at_200 rfl ?_
           refine g_aconst_null X14 hx hby at_201 ?_
           refine g_aconst_null X14 hx hby at_202 ?_
           refine g_aload X14 hx hby at_203 rfl rfl ?_
           refine g_aconst_null X14 hx hby at_205 ?_
           refine g_lconst X14 hx hby (1 : Int64) at_206 rfl ?_
           refine g_lload X14 hx hby at_207 rfl ?_
           refine g_lconst X14 hx hby (0 : Int64) at_209 rfl ?_
           have g_b14 : n0 ≤ b14 := Nat.le_trans (Nat.le_trans z13 K12.1) (Nat.le_of_eq g14)
           have z16 := (Nat.le_trans z13 (Nat.le_trans K12.1 E14.1))
           refine g_special X14 hx hby hZ hown (rm_orini l Z a0 hw [] b14 sd q0 h14 n0 z16 A14 F_id_b14 F_security_b14 F_side_b14 F_type_b14 F_quantity_b14 F_price_b14 F_peak_b14 F_remaining_b14 F_slice_b14 F_previous_b14 F_next_b14 F_restingOn_b14 g_b14) rfl rfl w40_ w41_ w39_ w42_ (by decide) e14 (by rw [hml]; rfl) [.null, .null, (.ref sd), .null, (.long (1 : Int64)), (.long q0), (.long (0 : Int64))] (lenOf own_pd12 rfl) rfl rfl (Nat.le_of_ble_eq_true rfl) (Nat.le_of_ble_eq_true rfl) (Nat.le_of_ble_eq_true rfl) (Nat.le_of_ble_eq_true rfl) at_210 (fun v15 T15 L15 X15 hQ15 => ?_)
           obtain ⟨rfl, N15q, K15, s0_15, s1_15, s2_15, s3_15, s4_15, s5_15, s6_15, s7_15⟩ := hQ15
           have N15 := Fr.app N12 N15q
           refine g_at 213 rfl rfl rfl ?_
           refine g_astore X15 hx hby at_213 rfl (l' := #[.val (.int fl), .val (.long px), .second, .val (.long py), .second, .val (.long pz), .second, .val (.int bu), .val (.ref sd), .val (.int ua0), .val (.int ua1), .val (.int ua2), .val (.int fa0), .val (.int fa1), .val (.int fa2), .val (.int rmv), .val (.long q0), .second, .val (.long q1), .second, .val (.long q2), .second, .val (.ref b11), .val (.ref b14), .unset, .unset, .unset, .unset, .unset, .unset, .unset, .unset, .unset]) rfl ?_
           refine g_new X15 hx hby hZ hown w37_ w38_ w39_ rfl (by decide) (by decide) at_215 (fun T17 h17 b17 g17 X17 e17 E17 A17 D17 => ?_)
           have F_id_b17 : Fld Z h17 b17 "com/example/tidegate/tidegate/engine/Order" "id" "Ljava/lang/String;" .null := D17 (Or.inr w45_) (ty := (.object "java/lang/String")) (by decide)
           have F_security_b17 : Fld Z h17 b17 "com/example/tidegate/tidegate/engine/Order" "security" "Lcom/example/tidegate/tidegate/engine/Security;" .null := D17 (Or.inr w47_) (ty := (.object "com/example/tidegate/tidegate/engine/Security")) (by decide)
           have F_side_b17 : Fld Z h17 b17 "com/example/tidegate/tidegate/engine/Order" "side" "Lcom/example/tidegate/tidegate/engine/Side;" .null := D17 (Or.inr w49_) (ty := (.object "com/example/tidegate/tidegate/engine/Side")) (by decide)
           have F_type_b17 : Fld Z h17 b17 "com/example/tidegate/tidegate/engine/Order" "type" "Lcom/example/tidegate/tidegate/engine/OrderType;" .null := D17 (Or.inr w51_) (ty := (.object "com/example/tidegate/tidegate/engine/OrderType")) (by decide)
           have F_quantity_b17 : Fld Z h17 b17 "com/example/tidegate/tidegate/engine/Order" "quantity" "J" (.long (0 : Int64)) := D17 (Or.inr w53_) (ty := .long) (by decide)
           have F_price_b17 : Fld Z h17 b17 "com/example/tidegate/tidegate/engine/Order" "price" "J" (.long (0 : Int64)) := D17 (Or.inl w55_) (ty := .long) (by decide)
           have F_peak_b17 : Fld Z h17 b17 "com/example/tidegate/tidegate/engine/Order" "peak" "J" (.long (0 : Int64)) := D17 (Or.inr w57_) (ty := .long) (by decide)
           have F_remaining_b17 : Fld Z h17 b17 "com/example/tidegate/tidegate/engine/Order" "remaining" "J" (.long (0 : Int64)) := D17 (Or.inl w59_) (ty := .long) (by decide)
           have F_slice_b17 : Fld Z h17 b17 "com/example/tidegate/tidegate/engine/Order" "slice" "J" (.long (0 : Int64)) := D17 (Or.inl w93_) (ty := .long) (by decide)
           have F_restingOn_b17 : Fld Z h17 b17 "com/example/tidegate/tidegate/engine/Order" "restingOn" "Lcom/example/tidegate/tidegate/engine/BookSide;" .null := D17 (Or.inl w137_) (ty := (.object "com/example/tidegate/tidegate/engine/BookSide")) (by decide)
           have F_previous_b17 : Fld Z h17 b17 "com/example/tidegate/tidegate/engine/Order" "previous" "Lcom/example/tidegate/tidegate/engine/Order;" .null := D17 (Or.inl w141_) (ty := (.object "com/example/tidegate/tidegate/engine/Order")) (by decide)
           have F_next_b17 : Fld Z h17 b17 "com/example/tidegate/tidegate/engine/Order" "next" "Lcom/example/tidegate/tidegate/engine/Order;" .null := D17 (Or.inl w143_) (ty := (.object "com/example/tidegate/tidegate/engine/Order")) (by decide)
           refine g_dup X17 hx hby at_218 rfl ?_
           refine g_aconst_null X17 hx hby at_219 ?_
           refine g_aconst_null X17 hx hby at_220 ?_
           refine g_aload X17 hx hby at_221 rfl rfl ?_
           refine g_aconst_null X17 hx hby at_223 ?_
           refine g_lconst X17 hx hby (1 : Int64) at_224 rfl ?_
           refine g_lload X17 hx hby at_225 rfl ?_
           refine g_lconst X17 hx hby (0 : Int64) at_227 rfl ?_
           have g_b17 : n0 ≤ b17 := Nat.le_trans (Nat.le_trans z16 K15.1) (Nat.le_of_eq g17)
           have z19 := (Nat.le_trans z16 (Nat.le_trans K15.1 E17.1))
           refine g_special X17 hx hby hZ hown (rm_orini l Z a0 hw [] b17 sd q1 h17 n0 z19 A17 F_id_b17 F_security_b17 F_side_b17 F_type_b17 F_quantity_b17 F_price_b17 F_peak_b17 F_remaining_b17 F_slice_b17 F_previous_b17 F_next_b17 F_restingOn_b17 g_b17) rfl rfl w40_ w41_ w39_ w42_ (by decide) e17 (by rw [hml]; rfl) [.null, .null, (.ref sd), .null, (.long (1 : Int64)), (.long q1), (.long (0 : Int64))] (lenOf own_pd12 rfl) rfl rfl (Nat.le_of_ble_eq_true rfl) (Nat.le_of_ble_eq_true rfl) (Nat.le_of_ble_eq_true rfl) (Nat.le_of_ble_eq_true rfl) at_228 (fun v18 T18 L18 X18 hQ18 => ?_)
           obtain ⟨rfl, N18q, K18, s0_18, s1_18, s2_18, s3_18, s4_18, s5_18, s6_18, s7_18⟩ := hQ18
           have N18 := Fr.app N15 N18q
           refine g_astore X18 hx hby at_231 rfl (l' := #[.val (.int fl), .val (.long px), .second, .val (.long py), .second, .val (.long pz), .second, .val (.int bu), .val (.ref sd), .val (.int ua0), .val (.int ua1), .val (.int ua2), .val (.int fa0), .val (.int fa1), .val (.int fa2), .val (.int rmv), .val (.long q0), .second, .val (.long q1), .second, .val (.long q2), .second, .val (.ref b11), .val (.ref b14), .val (.ref b17), .unset, .unset, .unset, .unset, .unset, .unset, .unset, .unset]) rfl ?_
           refine g_new X18 hx hby hZ hown w37_ w38_ w39_ rfl (by decide) (by decide) at_233 (fun T20 h20 b20 g20 X20 e20 E20 A20 D20 => ?_)
           have F_id_b20 : Fld Z h20 b20 "com/example/tidegate/tidegate/engine/Order" "id" "Ljava/lang/String;" .null := D20 (Or.inr w45_) (ty := (.object "java/lang/String")) (by decide)
           have F_security_b20 : Fld Z h20 b20 "com/example/tidegate/tidegate/engine/Order" "security" "Lcom/example/tidegate/tidegate/engine/Security;" .null := D20 (Or.inr w47_) (ty := (.object "com/example/tidegate/tidegate/engine/Security")) (by decide)
           have F_side_b20 : Fld Z h20 b20 "com/example/tidegate/tidegate/engine/Order" "side" "Lcom/example/tidegate/tidegate/engine/Side;" .null := D20 (Or.inr w49_) (ty := (.object "com/example/tidegate/tidegate/engine/Side")) (by decide)
           have F_type_b20 : Fld Z h20 b20 "com/example/tidegate/tidegate/engine/Order" "type" "Lcom/example/tidegate/tidegate/engine/OrderType;" .null := D20 (Or.inr w51_) (ty := (.object "com/example/tidegate/tidegate/engine/OrderType")) (by decide)
           have F_quantity_b20 : Fld Z h20 b20 "com/example/tidegate/tidegate/engine/Order" "quantity" "J" (.long (0 : Int64)) := D20 (Or.inr w53_) (ty := .long) (by decide)
           have F_price_b20 : Fld Z h20 b20 "com/example/tidegate/tidegate/engine/Order" "price" "J" (.long (0 : Int64)) := D20 (Or.inl w55_) (ty := .long) (by decide)
           have F_peak_b20 : Fld Z h20 b20 "com/example/tidegate/tidegate/engine/Order" "peak" "J" (.long (0 : Int64)) := D20 (Or.inr w57_) (ty := .long) (by decide)
           have F_remaining_b20 : Fld Z h20 b20 "com/example/tidegate/tidegate/engine/Order" "remaining" "J" (.long (0 : Int64)) := D20 (Or.inl w59_) (ty := .long) (by decide)
           have F_slice_b20 : Fld Z h20 b20 "com/example/tidegate/tidegate/engine/Order" "slice" "J" (.long (0 : Int64)) := D20 (Or.inl w93_) (ty := .long) (by decide)
           have F_restingOn_b20 : Fld Z h20 b20 "com/example/tidegate/tidegate/engine/Order" "restingOn" "Lcom/example/tidegate/tidegate/engine/BookSide;" .null := D20 (Or.inl w137_) (ty := (.object "com/example/tidegate/tidegate/engine/BookSide")) (by decide)
           have F_previous_b20 : Fld Z h20 b20 "com/example/tidegate/tidegate/engine/Order" "previous" "Lcom/example/tidegate/tidegate/engine/Order;" .null := D20 (Or.inl w141_) (ty := (.object "com/example/tidegate/tidegate/engine/Order")) (by decide)
           have F_next_b20 : Fld Z h20 b20 "com/example/tidegate/tidegate/engine/Order" "next" "Lcom/example/tidegate/tidegate/engine/Order;" .null := D20 (Or.inl w143_) (ty := (.object "com/example/tidegate/tidegate/engine/Order")) (by decide)
           refine g_dup X20 hx hby at_236 rfl ?_
           refine g_aconst_null X20 hx hby at_237 ?_
           refine g_aconst_null X20 hx hby at_238 ?_
           refine g_aload X20 hx hby at_239 rfl rfl ?_
           refine g_aconst_null X20 hx hby at_241 ?_
           refine g_lconst X20 hx hby (1 : Int64) at_242 rfl ?_
           refine g_lload X20 hx hby at_243 rfl ?_
           refine g_lconst X20 hx hby (0 : Int64) at_245 rfl ?_
           refine g_at 246 rfl rfl rfl ?_
           have g_b20 : n0 ≤ b20 := Nat.le_trans (Nat.le_trans z19 K18.1) (Nat.le_of_eq g20)
           have z22 := (Nat.le_trans z19 (Nat.le_trans K18.1 E20.1))
           refine g_special X20 hx hby hZ hown (rm_orini l Z a0 hw [] b20 sd q2 h20 n0 z22 A20 F_id_b20 F_security_b20 F_side_b20 F_type_b20 F_quantity_b20 F_price_b20 F_peak_b20 F_remaining_b20 F_slice_b20 F_previous_b20 F_next_b20 F_restingOn_b20 g_b20) rfl rfl w40_ w41_ w39_ w42_ (by decide) e20 (by rw [hml]; rfl) [.null, .null, (.ref sd), .null, (.long (1 : Int64)), (.long q2), (.long (0 : Int64))] (lenOf own_pd12 rfl) rfl rfl (Nat.le_of_ble_eq_true rfl) (Nat.le_of_ble_eq_true rfl) (Nat.le_of_ble_eq_true rfl) (Nat.le_of_ble_eq_true rfl) at_246 (fun v21 T21 L21 X21 hQ21 => ?_)
           obtain ⟨rfl, N21q, K21, s0_21, s1_21, s2_21, s3_21, s4_21, s5_21, s6_21, s7_21⟩ := hQ21
           have N21 := Fr.app N18 N21q
           refine g_astore X21 hx hby at_249 rfl (l' := #[.val (.int fl), .val (.long px), .second, .val (.long py), .second, .val (.long pz), .second, .val (.int bu), .val (.ref sd), .val (.int ua0), .val (.int ua1), .val (.int ua2), .val (.int fa0), .val (.int fa1), .val (.int fa2), .val (.int rmv), .val (.long q0), .second, .val (.long q1), .second, .val (.long q2), .second, .val (.ref b11), .val (.ref b14), .val (.ref b17), .val (.ref b20), .unset, .unset, .unset, .unset, .unset, .unset, .unset]) rfl ?_
           have g_rk_ : n0 ≤ rk_ := Nat.le_trans z13 lr_
           have g_la_ : n0 ≤ la_ := Nat.le_trans z13 ll_
           have g_up_ : n0 ≤ up_ := Nat.le_trans z13 lu_
           have ne23 : b14 ≠ b17 := (Nat.ne_of_lt (Nat.lt_of_lt_of_le A14.lt (Nat.le_trans K15.1 (Nat.le_of_eq g17))))
           have ne24 : b14 ≠ b20 := (Nat.ne_of_lt (Nat.lt_of_lt_of_le A14.lt (Nat.le_trans (Nat.le_trans (Nat.le_trans K15.1 E17.1) K18.1) (Nat.le_of_eq g20))))
           have ne25 : b17 ≠ b20 := (Nat.ne_of_lt (Nat.lt_of_lt_of_le A17.lt (Nat.le_trans K18.1 (Nat.le_of_eq g20))))
           have f26 := (((((A14.keep K15).ext E17).keep K18).ext E20).keep K21)
           have f27 := ((((s1_15.ext E17).keep K18 (ninS ne23 nin0)).ext E20).keep K21 (ninS ne24 nin0))
           have f28 := ((((s2_15.ext E17).keep K18 (ninS ne23 nin0)).ext E20).keep K21 (ninS ne24 nin0))
           have f29 := ((((s3_15.ext E17).keep K18 (ninS ne23 nin0)).ext E20).keep K21 (ninS ne24 nin0))
           have f30 := ((((s4_15.ext E17).keep K18 (ninS ne23 nin0)).ext E20).keep K21 (ninS ne24 nin0))
           have f31 := ((((s5_15.ext E17).keep K18 (ninS ne23 nin0)).ext E20).keep K21 (ninS ne24 nin0))
           have f32 := ((((s6_15.ext E17).keep K18 (ninS ne23 nin0)).ext E20).keep K21 (ninS ne24 nin0))
           have f33 := ((((s7_15.ext E17).keep K18 (ninS ne23 nin0)).ext E20).keep K21 (ninS ne24 nin0))
           have OO0_ : own_OO Z T21.heap b14 q0 .null .null .null := ⟨f26, f27, f28, f29, f30, f31, f32, f33⟩
           have f34 := (((A17.keep K18).ext E20).keep K21)
           have f35 := ((s1_18.ext E20).keep K21 (ninS ne25 nin0))
           have f36 := ((s2_18.ext E20).keep K21 (ninS ne25 nin0))
           have f37 := ((s3_18.ext E20).keep K21 (ninS ne25 nin0))
           have f38 := ((s4_18.ext E20).keep K21 (ninS ne25 nin0))
           have f39 := ((s5_18.ext E20).keep K21 (ninS ne25 nin0))
           have f40 := ((s6_18.ext E20).keep K21 (ninS ne25 nin0))
           have f41 := ((s7_18.ext E20).keep K21 (ninS ne25 nin0))
           have OO1_ : own_OO Z T21.heap b17 q1 .null .null .null := ⟨f34, f35, f36, f37, f38, f39, f40, f41⟩
           have f42 := (A20.keep K21)
           have OO2_ : own_OO Z T21.heap b20 q2 .null .null .null := ⟨f42, s1_21, s2_21, s3_21, s4_21, s5_21, s6_21, s7_21⟩
           have f43 := ((((((bE_.ext E14).keep K15).ext E17).keep K18).ext E20).keep K21)
           have ne44 : b11 ≠ b14 := (Nat.ne_of_lt (Nat.lt_of_lt_of_le A11.lt (Nat.le_trans K12.1 (Nat.le_of_eq g14))))
           have ne45 : b11 ≠ b17 := (Nat.ne_of_lt (Nat.lt_of_lt_of_le A11.lt (Nat.le_trans (Nat.le_trans (Nat.le_trans K12.1 E14.1) K15.1) (Nat.le_of_eq g17))))
           have ne46 : b11 ≠ b20 := (Nat.ne_of_lt (Nat.lt_of_lt_of_le A11.lt (Nat.le_trans (Nat.le_trans (Nat.le_trans (Nat.le_trans (Nat.le_trans K12.1 E14.1) K15.1) E17.1) K18.1) (Nat.le_of_eq g20))))
           have f47 := ((((((bF0_.ext E14).keep K15 (ninS ne44 nin0)).ext E17).keep K18 (ninS ne45 nin0)).ext E20).keep K21 (ninS ne46 nin0))
           have f48 := ((((((bF1_.ext E14).keep K15 (ninS ne44 nin0)).ext E17).keep K18 (ninS ne45 nin0)).ext E20).keep K21 (ninS ne46 nin0))
           have f49 := ((((((bF2_.ext E14).keep K15 (ninS ne44 nin0)).ext E17).keep K18 (ninS ne45 nin0)).ext E20).keep K21 (ninS ne46 nin0))
           have f50 := ((((((bF3_.ext E14).keep K15 (ninS ne44 nin0)).ext E17).keep K18 (ninS ne45 nin0)).ext E20).keep K21 (ninS ne46 nin0))
           have f51 := ((((((bF4_.ext E14).keep K15 (ninS ne44 nin0)).ext E17).keep K18 (ninS ne45 nin0)).ext E20).keep K21 (ninS ne46 nin0))
           have f52 := ((((((bF5_.ext E14).keep K15 (ninS ne44 nin0)).ext E17).keep K18 (ninS ne45 nin0)).ext E20).keep K21 (ninS ne46 nin0))
           have ne53 : rk_ ≠ b14 := (Nat.ne_of_lt (Nat.lt_of_lt_of_le vR_.lt (Nat.le_of_eq g14)))
           have ne54 : rk_ ≠ b17 := (Nat.ne_of_lt (Nat.lt_of_lt_of_le vR_.lt (Nat.le_trans (Nat.le_trans E14.1 K15.1) (Nat.le_of_eq g17))))
           have ne55 : rk_ ≠ b20 := (Nat.ne_of_lt (Nat.lt_of_lt_of_le vR_.lt (Nat.le_trans (Nat.le_trans (Nat.le_trans (Nat.le_trans E14.1 K15.1) E17.1) K18.1) (Nat.le_of_eq g20))))
           have f56 := ((((((vR_.ext E14).keep K15 (ninS ne53 nin0)).ext E17).keep K18 (ninS ne54 nin0)).ext E20).keep K21 (ninS ne55 nin0))
           have ne57 : la_ ≠ b14 := (Nat.ne_of_lt (Nat.lt_of_lt_of_le vL_.lt (Nat.le_of_eq g14)))
           have ne58 : la_ ≠ b17 := (Nat.ne_of_lt (Nat.lt_of_lt_of_le vL_.lt (Nat.le_trans (Nat.le_trans E14.1 K15.1) (Nat.le_of_eq g17))))
           have ne59 : la_ ≠ b20 := (Nat.ne_of_lt (Nat.lt_of_lt_of_le vL_.lt (Nat.le_trans (Nat.le_trans (Nat.le_trans (Nat.le_trans E14.1 K15.1) E17.1) K18.1) (Nat.le_of_eq g20))))
           have f60 := ((((((vL_.ext E14).keep K15 (ninS ne57 nin0)).ext E17).keep K18 (ninS ne58 nin0)).ext E20).keep K21 (ninS ne59 nin0))
           have f61 := ((((((uE_.ext E14).keep K15).ext E17).keep K18).ext E20).keep K21)
           have ne62 : up_ ≠ b14 := (Nat.ne_of_lt (Nat.lt_of_lt_of_le uE_.lt (Nat.le_of_eq g14)))
           have ne63 : up_ ≠ b17 := (Nat.ne_of_lt (Nat.lt_of_lt_of_le uE_.lt (Nat.le_trans (Nat.le_trans E14.1 K15.1) (Nat.le_of_eq g17))))
           have ne64 : up_ ≠ b20 := (Nat.ne_of_lt (Nat.lt_of_lt_of_le uE_.lt (Nat.le_trans (Nat.le_trans (Nat.le_trans (Nat.le_trans E14.1 K15.1) E17.1) K18.1) (Nat.le_of_eq g20))))
           have f65 := ((((((uF_.ext E14).keep K15 (ninS ne62 nin0)).ext E17).keep K18 (ninS ne63 nin0)).ext E20).keep K21 (ninS ne64 nin0))
           have f66 := ((((((uL_.ext E14).keep K15 (ninS ne62 nin0)).ext E17).keep K18 (ninS ne63 nin0)).ext E20).keep K21 (ninS ne64 nin0))
           have BK_ : own_Bk Z T21.heap n0 b11 sd ba 0 [] := ⟨rk_, la_, up_, kr_, kl_, _, [], ⟨f43, f47, f48, f49, f50, f51, f52⟩, ⟨⟨_, f56, by decide, fun k hk => absurd hk (Nat.not_lt_zero k)⟩, ⟨_, f60, by decide, fun k hk => absurd hk (Nat.not_lt_zero k)⟩, rfl, by decide⟩, ⟨⟨f61, f65, f66⟩, trivial⟩, nofun, ⟨g_b11, g_rk_, g_la_, g_up_⟩, nrl_, oV_, own_P_0⟩
           have f67 := ((((((((OLD.ext E11).keep K12 (allS g_b11 all0)).ext E14).keep K15 (allS g_b14 all0)).ext E17).keep K18 (allS g_b17 all0)).ext E20).keep K21 (allS g_b20 all0))
           have z68 := (Nat.le_trans z22 K21.1)
           have JF0 : ∀ (T9 : State) (L9 : List Loc) (h9 : Heap) (A0 A1 A2 M9 : Int32) (b9 : Nat), Stand p l e room_1 s m #[(.int fl), (.long px), (.long py), (.long pz)] below meth c_ T9 L9 10 86 → T9.heap = h9 → Fr n0 L9 → n0 ≤ h9.size → own_Bk Z h9 n0 b11 sd ba b9 [] → Go p e below (RetG s (Q_law Z fl px py pz ba se h0 n0) 32 256) (T9.setTop (mkF m 393 #[.val (.int fl), .val (.long px), .second, .val (.long py), .second, .val (.long pz), .second, .val (.int bu), .val (.ref sd), .val (.int ua0), .val (.int ua1), .val (.int ua2), .val (.int A0), .val (.int A1), .val (.int A2), .val (.int M9), .val (.long q0), .second, .val (.long q1), .second, .val (.long q2), .second, .val (.ref b11), .val (.ref b14), .val (.ref b17), .val (.ref b20), .val (.int (0 : Int32)), .val (.int (0 : Int32)), .val (.int (0 : Int32)), .unset, .unset, .unset, .unset] [])) := by
            intro T9 L9 h9 A0 A1 A2 M9 b9 X9 e9 N9 z9 BK9
            refine g_aconst_null X9 hx hby at_393 ?_
            refine g_astore X9 hx hby at_394 rfl (l' := #[.val (.int fl), .val (.long px), .second, .val (.long py), .second, .val (.long pz), .second, .val (.int bu), .val (.ref sd), .val (.int ua0), .val (.int ua1), .val (.int ua2), .val (.int A0), .val (.int A1), .val (.int A2), .val (.int M9), .val (.long q0), .second, .val (.long q1), .second, .val (.long q2), .second, .val (.ref b11), .val (.ref b14), .val (.ref b17), .val (.ref b20), .val (.int (0 : Int32)), .val (.int (0 : Int32)), .val (.int (0 : Int32)), .val .null, .unset, .unset, .unset]) rfl ?_
            refine g_lconst X9 hx hby (0 : Int64) at_396 rfl ?_
            refine g_lstore X9 hx hby at_397 (l' := #[.val (.int fl), .val (.long px), .second, .val (.long py), .second, .val (.long pz), .second, .val (.int bu), .val (.ref sd), .val (.int ua0), .val (.int ua1), .val (.int ua2), .val (.int A0), .val (.int A1), .val (.int A2), .val (.int M9), .val (.long q0), .second, .val (.long q1), .second, .val (.long q2), .second, .val (.ref b11), .val (.ref b14), .val (.ref b17), .val (.ref b20), .val (.int (0 : Int32)), .val (.int (0 : Int32)), .val (.int (0 : Int32)), .val .null, .val (.long (0 : Int64)), .second, .unset]) rfl ?_
            refine g_iload X9 hx hby at_399 rfl ?_
            refine g_ifY X9 hx hby 412 at_401 (teq (by decide : (0 : Int32) = (0 : Int32))).1 (by decide) (by decide) ?_
            refine g_iload X9 hx hby at_412 rfl ?_
            refine g_ifY X9 hx hby 442 at_414 (teq (by decide : (0 : Int32) = (0 : Int32))).1 (by decide) (by decide) ?_
            refine g_iload X9 hx hby at_442 rfl ?_
            refine g_ifY X9 hx hby 472 at_444 (teq (by decide : (0 : Int32) = (0 : Int32))).1 (by decide) (by decide) ?_
            refine g_aload X9 hx hby at_472 rfl rfl ?_
            refine g_virtual X9 hx hby hZ hown (rm_firW l Z a0 hw [] b11 sd b9 [] bu ba h9 n0 z9 BK9 own_all0 hsb) w60_ w61_ (notFace_of_selects (args := #[]) (mvT hZ w63_)) w63_ w62_ w10_ w64_ (by decide) e9 (own_Bk.exa BK9) (by rw [hml]; rfl) [] (lenOf own_pd13 rfl) rfl rfl (Nat.le_of_ble_eq_true rfl) (Nat.le_of_ble_eq_true rfl) (Nat.le_of_ble_eq_true rfl) (Nat.le_of_ble_eq_true rfl) at_474 (fun v69 T69 L69 X69 hQ69 => ?_)
            obtain ⟨ev69, N69q, eh69⟩ := hQ69
            have ex69 : own_exp bu [] = .null := by simp [own_exp, own_fold]
            rw [ex69] at ev69
            subst ev69
            have N69 := Fr.app N9 N69q
            refine g_astore X69 hx hby at_477 rfl (l' := #[.val (.int fl), .val (.long px), .second, .val (.long py), .second, .val (.long pz), .second, .val (.int bu), .val (.ref sd), .val (.int ua0), .val (.int ua1), .val (.int ua2), .val (.int A0), .val (.int A1), .val (.int A2), .val (.int M9), .val (.long q0), .second, .val (.long q1), .second, .val (.long q2), .second, .val (.ref b11), .val (.ref b14), .val (.ref b17), .val (.ref b20), .val (.int (0 : Int32)), .val (.int (0 : Int32)), .val (.int (0 : Int32)), .val .null, .val (.long (0 : Int64)), .second, .val .null]) rfl ?_
            refine g_aload X69 hx hby at_479 rfl rfl ?_
            refine g_aload X69 hx hby at_481 rfl rfl ?_
            refine g_acmp X69 hx hby rfl rfl 486 true at_483 (decide_eq_true rfl) (by decide) (by decide) ?_
            refine g_iconst X69 hx hby (1 : Int32) at_486 rfl ?_
            refine g_goto X69 hx hby 491 at_487 (by decide) (by decide) ?_
            refine g_nret X69 hx hby (t := .boolean) (by simp) Bd.returns Bd.notSynchronized at_491 eh69 (by decide) (by decide) ?_
            show (Q_law Z fl px py pz ba se h0 n0) (some (.int (1 : Int32))) _ _
            exact ⟨rfl, N69⟩
           have JF1 : ∀ (T9 : State) (L9 : List Loc) (h9 : Heap) (A0 A1 A2 M9 : Int32) (b9 : Nat), Stand p l e room_1 s m #[(.int fl), (.long px), (.long py), (.long pz)] below meth c_ T9 L9 10 86 → T9.heap = h9 → Fr n0 L9 → n0 ≤ h9.size → own_Bk Z h9 n0 b11 sd ba b9 [(b14, q0)] → Go p e below (RetG s (Q_law Z fl px py pz ba se h0 n0) 32 256) (T9.setTop (mkF m 393 #[.val (.int fl), .val (.long px), .second, .val (.long py), .second, .val (.long pz), .second, .val (.int bu), .val (.ref sd), .val (.int ua0), .val (.int ua1), .val (.int ua2), .val (.int A0), .val (.int A1), .val (.int A2), .val (.int M9), .val (.long q0), .second, .val (.long q1), .second, .val (.long q2), .second, .val (.ref b11), .val (.ref b14), .val (.ref b17), .val (.ref b20), .val (.int (1 : Int32)), .val (.int (0 : Int32)), .val (.int (0 : Int32)), .unset, .unset, .unset, .unset] [])) := by
            intro T9 L9 h9 A0 A1 A2 M9 b9 X9 e9 N9 z9 BK9
            refine g_aconst_null X9 hx hby at_393 ?_
            refine g_astore X9 hx hby at_394 rfl (l' := #[.val (.int fl), .val (.long px), .second, .val (.long py), .second, .val (.long pz), .second, .val (.int bu), .val (.ref sd), .val (.int ua0), .val (.int ua1), .val (.int ua2), .val (.int A0), .val (.int A1), .val (.int A2), .val (.int M9), .val (.long q0), .second, .val (.long q1), .second, .val (.long q2), .second, .val (.ref b11), .val (.ref b14), .val (.ref b17), .val (.ref b20), .val (.int (1 : Int32)), .val (.int (0 : Int32)), .val (.int (0 : Int32)), .val .null, .unset, .unset, .unset]) rfl ?_
            refine g_lconst X9 hx hby (0 : Int64) at_396 rfl ?_
            refine g_lstore X9 hx hby at_397 (l' := #[.val (.int fl), .val (.long px), .second, .val (.long py), .second, .val (.long pz), .second, .val (.int bu), .val (.ref sd), .val (.int ua0), .val (.int ua1), .val (.int ua2), .val (.int A0), .val (.int A1), .val (.int A2), .val (.int M9), .val (.long q0), .second, .val (.long q1), .second, .val (.long q2), .second, .val (.ref b11), .val (.ref b14), .val (.ref b17), .val (.ref b20), .val (.int (1 : Int32)), .val (.int (0 : Int32)), .val (.int (0 : Int32)), .val .null, .val (.long (0 : Int64)), .second, .unset]) rfl ?_
            refine g_iload X9 hx hby at_399 rfl ?_
            refine g_ifN X9 hx hby at_401 (feq (by decide : ¬ ((1 : Int32) = (0 : Int32)))).1 ?_
            refine g_aload X9 hx hby at_404 rfl rfl ?_
            refine g_astore X9 hx hby at_406 rfl (l' := #[.val (.int fl), .val (.long px), .second, .val (.long py), .second, .val (.long pz), .second, .val (.int bu), .val (.ref sd), .val (.int ua0), .val (.int ua1), .val (.int ua2), .val (.int A0), .val (.int A1), .val (.int A2), .val (.int M9), .val (.long q0), .second, .val (.long q1), .second, .val (.long q2), .second, .val (.ref b11), .val (.ref b14), .val (.ref b17), .val (.ref b20), .val (.int (1 : Int32)), .val (.int (0 : Int32)), .val (.int (0 : Int32)), .val (.ref b14), .val (.long (0 : Int64)), .second, .unset]) rfl ?_
            refine g_lload X9 hx hby at_408 rfl ?_
            refine g_lstore X9 hx hby at_410 (l' := #[.val (.int fl), .val (.long px), .second, .val (.long py), .second, .val (.long pz), .second, .val (.int bu), .val (.ref sd), .val (.int ua0), .val (.int ua1), .val (.int ua2), .val (.int A0), .val (.int A1), .val (.int A2), .val (.int M9), .val (.long q0), .second, .val (.long q1), .second, .val (.long q2), .second, .val (.ref b11), .val (.ref b14), .val (.ref b17), .val (.ref b20), .val (.int (1 : Int32)), .val (.int (0 : Int32)), .val (.int (0 : Int32)), .val (.ref b14), .val (.long q0), .second, .unset]) rfl ?_
            refine g_iload X9 hx hby at_412 rfl ?_
            refine g_ifY X9 hx hby 442 at_414 (teq (by decide : (0 : Int32) = (0 : Int32))).1 (by decide) (by decide) ?_
            refine g_iload X9 hx hby at_442 rfl ?_
            refine g_ifY X9 hx hby 472 at_444 (teq (by decide : (0 : Int32) = (0 : Int32))).1 (by decide) (by decide) ?_
            refine g_aload X9 hx hby at_472 rfl rfl ?_
            refine g_virtual X9 hx hby hZ hown (rm_firW l Z a0 hw [] b11 sd b9 [(b14, q0)] bu ba h9 n0 z9 BK9 (own_allS h_q0 own_all0) hsb) w60_ w61_ (notFace_of_selects (args := #[]) (mvT hZ w63_)) w63_ w62_ w10_ w64_ (by decide) e9 (own_Bk.exa BK9) (by rw [hml]; rfl) [] (lenOf own_pd13 rfl) rfl rfl (Nat.le_of_ble_eq_true rfl) (Nat.le_of_ble_eq_true rfl) (Nat.le_of_ble_eq_true rfl) (Nat.le_of_ble_eq_true rfl) at_474 (fun v70 T70 L70 X70 hQ70 => ?_)
            obtain ⟨ev70, N70q, eh70⟩ := hQ70
            have ex70 : own_exp bu [(b14, q0)] = (.ref b14) := by simp [own_exp, own_fold]
            rw [ex70] at ev70
            subst ev70
            have N70 := Fr.app N9 N70q
            refine g_astore X70 hx hby at_477 rfl (l' := #[.val (.int fl), .val (.long px), .second, .val (.long py), .second, .val (.long pz), .second, .val (.int bu), .val (.ref sd), .val (.int ua0), .val (.int ua1), .val (.int ua2), .val (.int A0), .val (.int A1), .val (.int A2), .val (.int M9), .val (.long q0), .second, .val (.long q1), .second, .val (.long q2), .second, .val (.ref b11), .val (.ref b14), .val (.ref b17), .val (.ref b20), .val (.int (1 : Int32)), .val (.int (0 : Int32)), .val (.int (0 : Int32)), .val (.ref b14), .val (.long q0), .second, .val (.ref b14)]) rfl ?_
            refine g_aload X70 hx hby at_479 rfl rfl ?_
            refine g_aload X70 hx hby at_481 rfl rfl ?_
            refine g_acmp X70 hx hby rfl rfl 486 true at_483 (decide_eq_true rfl) (by decide) (by decide) ?_
            refine g_iconst X70 hx hby (1 : Int32) at_486 rfl ?_
            refine g_goto X70 hx hby 491 at_487 (by decide) (by decide) ?_
            refine g_nret X70 hx hby (t := .boolean) (by simp) Bd.returns Bd.notSynchronized at_491 eh70 (by decide) (by decide) ?_
            show (Q_law Z fl px py pz ba se h0 n0) (some (.int (1 : Int32))) _ _
            exact ⟨rfl, N70⟩
           have JF2 : ∀ (T9 : State) (L9 : List Loc) (h9 : Heap) (A0 A1 A2 M9 : Int32) (b9 : Nat), Stand p l e room_1 s m #[(.int fl), (.long px), (.long py), (.long pz)] below meth c_ T9 L9 10 86 → T9.heap = h9 → Fr n0 L9 → n0 ≤ h9.size → own_Bk Z h9 n0 b11 sd ba b9 [(b17, q1)] → Go p e below (RetG s (Q_law Z fl px py pz ba se h0 n0) 32 256) (T9.setTop (mkF m 393 #[.val (.int fl), .val (.long px), .second, .val (.long py), .second, .val (.long pz), .second, .val (.int bu), .val (.ref sd), .val (.int ua0), .val (.int ua1), .val (.int ua2), .val (.int A0), .val (.int A1), .val (.int A2), .val (.int M9), .val (.long q0), .second, .val (.long q1), .second, .val (.long q2), .second, .val (.ref b11), .val (.ref b14), .val (.ref b17), .val (.ref b20), .val (.int (0 : Int32)), .val (.int (1 : Int32)), .val (.int (0 : Int32)), .unset, .unset, .unset, .unset] [])) := by
            intro T9 L9 h9 A0 A1 A2 M9 b9 X9 e9 N9 z9 BK9
            refine g_aconst_null X9 hx hby at_393 ?_
            refine g_astore X9 hx hby at_394 rfl (l' := #[.val (.int fl), .val (.long px), .second, .val (.long py), .second, .val (.long pz), .second, .val (.int bu), .val (.ref sd), .val (.int ua0), .val (.int ua1), .val (.int ua2), .val (.int A0), .val (.int A1), .val (.int A2), .val (.int M9), .val (.long q0), .second, .val (.long q1), .second, .val (.long q2), .second, .val (.ref b11), .val (.ref b14), .val (.ref b17), .val (.ref b20), .val (.int (0 : Int32)), .val (.int (1 : Int32)), .val (.int (0 : Int32)), .val .null, .unset, .unset, .unset]) rfl ?_
            refine g_lconst X9 hx hby (0 : Int64) at_396 rfl ?_
            refine g_lstore X9 hx hby at_397 (l' := #[.val (.int fl), .val (.long px), .second, .val (.long py), .second, .val (.long pz), .second, .val (.int bu), .val (.ref sd), .val (.int ua0), .val (.int ua1), .val (.int ua2), .val (.int A0), .val (.int A1), .val (.int A2), .val (.int M9), .val (.long q0), .second, .val (.long q1), .second, .val (.long q2), .second, .val (.ref b11), .val (.ref b14), .val (.ref b17), .val (.ref b20), .val (.int (0 : Int32)), .val (.int (1 : Int32)), .val (.int (0 : Int32)), .val .null, .val (.long (0 : Int64)), .second, .unset]) rfl ?_
            refine g_iload X9 hx hby at_399 rfl ?_
            refine g_ifY X9 hx hby 412 at_401 (teq (by decide : (0 : Int32) = (0 : Int32))).1 (by decide) (by decide) ?_
            refine g_iload X9 hx hby at_412 rfl ?_
            refine g_ifN X9 hx hby at_414 (feq (by decide : ¬ ((1 : Int32) = (0 : Int32)))).1 ?_
            refine g_aload X9 hx hby at_417 rfl rfl ?_
            refine g_ifnullY X9 hx hby 434 at_419 (by decide) (by decide) ?_
            refine g_aload X9 hx hby at_434 rfl rfl ?_
            refine g_astore X9 hx hby at_436 rfl (l' := #[.val (.int fl), .val (.long px), .second, .val (.long py), .second, .val (.long pz), .second, .val (.int bu), .val (.ref sd), .val (.int ua0), .val (.int ua1), .val (.int ua2), .val (.int A0), .val (.int A1), .val (.int A2), .val (.int M9), .val (.long q0), .second, .val (.long q1), .second, .val (.long q2), .second, .val (.ref b11), .val (.ref b14), .val (.ref b17), .val (.ref b20), .val (.int (0 : Int32)), .val (.int (1 : Int32)), .val (.int (0 : Int32)), .val (.ref b17), .val (.long (0 : Int64)), .second, .unset]) rfl ?_
            refine g_lload X9 hx hby at_438 rfl ?_
            refine g_lstore X9 hx hby at_440 (l' := #[.val (.int fl), .val (.long px), .second, .val (.long py), .second, .val (.long pz), .second, .val (.int bu), .val (.ref sd), .val (.int ua0), .val (.int ua1), .val (.int ua2), .val (.int A0), .val (.int A1), .val (.int A2), .val (.int M9), .val (.long q0), .second, .val (.long q1), .second, .val (.long q2), .second, .val (.ref b11), .val (.ref b14), .val (.ref b17), .val (.ref b20), .val (.int (0 : Int32)), .val (.int (1 : Int32)), .val (.int (0 : Int32)), .val (.ref b17), .val (.long q1), .second, .unset]) rfl ?_
            refine g_iload X9 hx hby at_442 rfl ?_
            refine g_ifY X9 hx hby 472 at_444 (teq (by decide : (0 : Int32) = (0 : Int32))).1 (by decide) (by decide) ?_
            refine g_aload X9 hx hby at_472 rfl rfl ?_
            refine g_virtual X9 hx hby hZ hown (rm_firW l Z a0 hw [] b11 sd b9 [(b17, q1)] bu ba h9 n0 z9 BK9 (own_allS h_q1 own_all0) hsb) w60_ w61_ (notFace_of_selects (args := #[]) (mvT hZ w63_)) w63_ w62_ w10_ w64_ (by decide) e9 (own_Bk.exa BK9) (by rw [hml]; rfl) [] (lenOf own_pd13 rfl) rfl rfl (Nat.le_of_ble_eq_true rfl) (Nat.le_of_ble_eq_true rfl) (Nat.le_of_ble_eq_true rfl) (Nat.le_of_ble_eq_true rfl) at_474 (fun v71 T71 L71 X71 hQ71 => ?_)
            obtain ⟨ev71, N71q, eh71⟩ := hQ71
            have ex71 : own_exp bu [(b17, q1)] = (.ref b17) := by simp [own_exp, own_fold]
            rw [ex71] at ev71
            subst ev71
            have N71 := Fr.app N9 N71q
            refine g_astore X71 hx hby at_477 rfl (l' := #[.val (.int fl), .val (.long px), .second, .val (.long py), .second, .val (.long pz), .second, .val (.int bu), .val (.ref sd), .val (.int ua0), .val (.int ua1), .val (.int ua2), .val (.int A0), .val (.int A1), .val (.int A2), .val (.int M9), .val (.long q0), .second, .val (.long q1), .second, .val (.long q2), .second, .val (.ref b11), .val (.ref b14), .val (.ref b17), .val (.ref b20), .val (.int (0 : Int32)), .val (.int (1 : Int32)), .val (.int (0 : Int32)), .val (.ref b17), .val (.long q1), .second, .val (.ref b17)]) rfl ?_
            refine g_aload X71 hx hby at_479 rfl rfl ?_
            refine g_aload X71 hx hby at_481 rfl rfl ?_
            refine g_acmp X71 hx hby rfl rfl 486 true at_483 (decide_eq_true rfl) (by decide) (by decide) ?_
            refine g_iconst X71 hx hby (1 : Int32) at_486 rfl ?_
            refine g_goto X71 hx hby 491 at_487 (by decide) (by decide) ?_
            refine g_nret X71 hx hby (t := .boolean) (by simp) Bd.returns Bd.notSynchronized at_491 eh71 (by decide) (by decide) ?_
            show (Q_law Z fl px py pz ba se h0 n0) (some (.int (1 : Int32))) _ _
            exact ⟨rfl, N71⟩
           have JF3 : ∀ (T9 : State) (L9 : List Loc) (h9 : Heap) (A0 A1 A2 M9 : Int32) (b9 : Nat), Stand p l e room_1 s m #[(.int fl), (.long px), (.long py), (.long pz)] below meth c_ T9 L9 10 86 → T9.heap = h9 → Fr n0 L9 → n0 ≤ h9.size → own_Bk Z h9 n0 b11 sd ba b9 [(b14, q0), (b17, q1)] → Go p e below (RetG s (Q_law Z fl px py pz ba se h0 n0) 32 256) (T9.setTop (mkF m 393 #[.val (.int fl), .val (.long px), .second, .val (.long py), .second, .val (.long pz), .second, .val (.int bu), .val (.ref sd), .val (.int ua0), .val (.int ua1), .val (.int ua2), .val (.int A0), .val (.int A1), .val (.int A2), .val (.int M9), .val (.long q0), .second, .val (.long q1), .second, .val (.long q2), .second, .val (.ref b11), .val (.ref b14), .val (.ref b17), .val (.ref b20), .val (.int (1 : Int32)), .val (.int (1 : Int32)), .val (.int (0 : Int32)), .unset, .unset, .unset, .unset] [])) := by
            intro T9 L9 h9 A0 A1 A2 M9 b9 X9 e9 N9 z9 BK9
            refine g_aconst_null X9 hx hby at_393 ?_
            refine g_astore X9 hx hby at_394 rfl (l' := #[.val (.int fl), .val (.long px), .second, .val (.long py), .second, .val (.long pz), .second, .val (.int bu), .val (.ref sd), .val (.int ua0), .val (.int ua1), .val (.int ua2), .val (.int A0), .val (.int A1), .val (.int A2), .val (.int M9), .val (.long q0), .second, .val (.long q1), .second, .val (.long q2), .second, .val (.ref b11), .val (.ref b14), .val (.ref b17), .val (.ref b20), .val (.int (1 : Int32)), .val (.int (1 : Int32)), .val (.int (0 : Int32)), .val .null, .unset, .unset, .unset]) rfl ?_
            refine g_lconst X9 hx hby (0 : Int64) at_396 rfl ?_
            refine g_lstore X9 hx hby at_397 (l' := #[.val (.int fl), .val (.long px), .second, .val (.long py), .second, .val (.long pz), .second, .val (.int bu), .val (.ref sd), .val (.int ua0), .val (.int ua1), .val (.int ua2), .val (.int A0), .val (.int A1), .val (.int A2), .val (.int M9), .val (.long q0), .second, .val (.long q1), .second, .val (.long q2), .second, .val (.ref b11), .val (.ref b14), .val (.ref b17), .val (.ref b20), .val (.int (1 : Int32)), .val (.int (1 : Int32)), .val (.int (0 : Int32)), .val .null, .val (.long (0 : Int64)), .second, .unset]) rfl ?_
            refine g_iload X9 hx hby at_399 rfl ?_
            refine g_ifN X9 hx hby at_401 (feq (by decide : ¬ ((1 : Int32) = (0 : Int32)))).1 ?_
            refine g_aload X9 hx hby at_404 rfl rfl ?_
            refine g_astore X9 hx hby at_406 rfl (l' := #[.val (.int fl), .val (.long px), .second, .val (.long py), .second, .val (.long pz), .second, .val (.int bu), .val (.ref sd), .val (.int ua0), .val (.int ua1), .val (.int ua2), .val (.int A0), .val (.int A1), .val (.int A2), .val (.int M9), .val (.long q0), .second, .val (.long q1), .second, .val (.long q2), .second, .val (.ref b11), .val (.ref b14), .val (.ref b17), .val (.ref b20), .val (.int (1 : Int32)), .val (.int (1 : Int32)), .val (.int (0 : Int32)), .val (.ref b14), .val (.long (0 : Int64)), .second, .unset]) rfl ?_
            refine g_lload X9 hx hby at_408 rfl ?_
            refine g_lstore X9 hx hby at_410 (l' := #[.val (.int fl), .val (.long px), .second, .val (.long py), .second, .val (.long pz), .second, .val (.int bu), .val (.ref sd), .val (.int ua0), .val (.int ua1), .val (.int ua2), .val (.int A0), .val (.int A1), .val (.int A2), .val (.int M9), .val (.long q0), .second, .val (.long q1), .second, .val (.long q2), .second, .val (.ref b11), .val (.ref b14), .val (.ref b17), .val (.ref b20), .val (.int (1 : Int32)), .val (.int (1 : Int32)), .val (.int (0 : Int32)), .val (.ref b14), .val (.long q0), .second, .unset]) rfl ?_
            refine g_iload X9 hx hby at_412 rfl ?_
            refine g_ifN X9 hx hby at_414 (feq (by decide : ¬ ((1 : Int32) = (0 : Int32)))).1 ?_
            refine g_aload X9 hx hby at_417 rfl rfl ?_
            refine g_ifnullN X9 hx hby at_419 ?_
            refine g_iload X9 hx hby at_422 rfl ?_
            refine g_lload X9 hx hby at_424 rfl ?_
            refine g_lload X9 hx hby at_426 rfl ?_
            refine g_static X9 hx hby hZ hown (rm_beats l Z a0 hw [] bu q1 q0 h9 n0 z9 ) w149_ w150_ w151_ w152_ (by decide) e9 (by rw [hml]; rfl) [(.int bu), (.long q1), (.long q0)] (lenOf own_pd14 rfl) rfl rfl (Nat.le_of_ble_eq_true rfl) (Nat.le_of_ble_eq_true rfl) (Nat.le_of_ble_eq_true rfl) (Nat.le_of_ble_eq_true rfl) at_428 (fun v72 T72 L72 X72 hQ72 => ?_)
            obtain ⟨rfl, N72q, eh72⟩ := hQ72
            have N72 := Fr.app N9 N72q
            by_cases hc431_73 : (own_beats bu q1 q0) = (0 : Int32)
            ·skip
             refine g_ifY X72 hx hby 442 at_431 (teq hc431_73).1 (by decide) (by decide) ?_
             refine g_iload X72 hx hby at_442 rfl ?_
             refine g_ifY X72 hx hby 472 at_444 (teq (by decide : (0 : Int32) = (0 : Int32))).1 (by decide) (by decide) ?_
             refine g_aload X72 hx hby at_472 rfl rfl ?_
             refine g_virtual X72 hx hby hZ hown (rm_firW l Z a0 hw [] b11 sd b9 [(b14, q0), (b17, q1)] bu ba h9 n0 z9 BK9 (own_allS h_q0 (own_allS h_q1 own_all0)) hsb) w60_ w61_ (notFace_of_selects (args := #[]) (mvT hZ w63_)) w63_ w62_ w10_ w64_ (by decide) eh72 (own_Bk.exa BK9) (by rw [hml]; rfl) [] (lenOf own_pd13 rfl) rfl rfl (Nat.le_of_ble_eq_true rfl) (Nat.le_of_ble_eq_true rfl) (Nat.le_of_ble_eq_true rfl) (Nat.le_of_ble_eq_true rfl) at_474 (fun v74 T74 L74 X74 hQ74 => ?_)
             obtain ⟨ev74, N74q, eh74⟩ := hQ74
             have ex74 : own_exp bu [(b14, q0), (b17, q1)] = (.ref b14) := by simp [own_exp, own_fold, hc431_73]
             rw [ex74] at ev74
             subst ev74
             have N74 := Fr.app N72 N74q
             refine g_astore X74 hx hby at_477 rfl (l' := #[.val (.int fl), .val (.long px), .second, .val (.long py), .second, .val (.long pz), .second, .val (.int bu), .val (.ref sd), .val (.int ua0), .val (.int ua1), .val (.int ua2), .val (.int A0), .val (.int A1), .val (.int A2), .val (.int M9), .val (.long q0), .second, .val (.long q1), .second, .val (.long q2), .second, .val (.ref b11), .val (.ref b14), .val (.ref b17), .val (.ref b20), .val (.int (1 : Int32)), .val (.int (1 : Int32)), .val (.int (0 : Int32)), .val (.ref b14), .val (.long q0), .second, .val (.ref b14)]) rfl ?_
             refine g_aload X74 hx hby at_479 rfl rfl ?_
             refine g_aload X74 hx hby at_481 rfl rfl ?_
             refine g_acmp X74 hx hby rfl rfl 486 true at_483 (decide_eq_true rfl) (by decide) (by decide) ?_
             refine g_iconst X74 hx hby (1 : Int32) at_486 rfl ?_
             refine g_goto X74 hx hby 491 at_487 (by decide) (by decide) ?_
             refine g_nret X74 hx hby (t := .boolean) (by simp) Bd.returns Bd.notSynchronized at_491 eh74 (by decide) (by decide) ?_
             show (Q_law Z fl px py pz ba se h0 n0) (some (.int (1 : Int32))) _ _
             exact ⟨rfl, N74⟩
            ·skip
             refine g_ifN X72 hx hby at_431 (feq hc431_73).1 ?_
             refine g_aload X72 hx hby at_434 rfl rfl ?_
             refine g_at 436 rfl rfl rfl ?_
             refine g_astore X72 hx hby at_436 rfl (l' := #[.val (.int fl), .val (.long px), .second, .val (.long py), .second, .val (.long pz), .second, .val (.int bu), .val (.ref sd), .val (.int ua0), .val (.int ua1), .val (.int ua2), .val (.int A0), .val (.int A1), .val (.int A2), .val (.int M9), .val (.long q0), .second, .val (.long q1), .second, .val (.long q2), .second, .val (.ref b11), .val (.ref b14), .val (.ref b17), .val (.ref b20), .val (.int (1 : Int32)), .val (.int (1 : Int32)), .val (.int (0 : Int32)), .val (.ref b17), .val (.long q0), .second, .unset]) rfl ?_
             refine g_lload X72 hx hby at_438 rfl ?_
             refine g_lstore X72 hx hby at_440 (l' := #[.val (.int fl), .val (.long px), .second, .val (.long py), .second, .val (.long pz), .second, .val (.int bu), .val (.ref sd), .val (.int ua0), .val (.int ua1), .val (.int ua2), .val (.int A0), .val (.int A1), .val (.int A2), .val (.int M9), .val (.long q0), .second, .val (.long q1), .second, .val (.long q2), .second, .val (.ref b11), .val (.ref b14), .val (.ref b17), .val (.ref b20), .val (.int (1 : Int32)), .val (.int (1 : Int32)), .val (.int (0 : Int32)), .val (.ref b17), .val (.long q1), .second, .unset]) rfl ?_
             refine g_iload X72 hx hby at_442 rfl ?_
             refine g_ifY X72 hx hby 472 at_444 (teq (by decide : (0 : Int32) = (0 : Int32))).1 (by decide) (by decide) ?_
             refine g_aload X72 hx hby at_472 rfl rfl ?_
             refine g_virtual X72 hx hby hZ hown (rm_firW l Z a0 hw [] b11 sd b9 [(b14, q0), (b17, q1)] bu ba h9 n0 z9 BK9 (own_allS h_q0 (own_allS h_q1 own_all0)) hsb) w60_ w61_ (notFace_of_selects (args := #[]) (mvT hZ w63_)) w63_ w62_ w10_ w64_ (by decide) eh72 (own_Bk.exa BK9) (by rw [hml]; rfl) [] (lenOf own_pd13 rfl) rfl rfl (Nat.le_of_ble_eq_true rfl) (Nat.le_of_ble_eq_true rfl) (Nat.le_of_ble_eq_true rfl) (Nat.le_of_ble_eq_true rfl) at_474 (fun v75 T75 L75 X75 hQ75 => ?_)
             obtain ⟨ev75, N75q, eh75⟩ := hQ75
             have ex75 : own_exp bu [(b14, q0), (b17, q1)] = (.ref b17) := by simp [own_exp, own_fold, hc431_73]
             rw [ex75] at ev75
             subst ev75
             have N75 := Fr.app N72 N75q
             refine g_astore X75 hx hby at_477 rfl (l' := #[.val (.int fl), .val (.long px), .second, .val (.long py), .second, .val (.long pz), .second, .val (.int bu), .val (.ref sd), .val (.int ua0), .val (.int ua1), .val (.int ua2), .val (.int A0), .val (.int A1), .val (.int A2), .val (.int M9), .val (.long q0), .second, .val (.long q1), .second, .val (.long q2), .second, .val (.ref b11), .val (.ref b14), .val (.ref b17), .val (.ref b20), .val (.int (1 : Int32)), .val (.int (1 : Int32)), .val (.int (0 : Int32)), .val (.ref b17), .val (.long q1), .second, .val (.ref b17)]) rfl ?_
             refine g_aload X75 hx hby at_479 rfl rfl ?_
             refine g_aload X75 hx hby at_481 rfl rfl ?_
             refine g_acmp X75 hx hby rfl rfl 486 true at_483 (decide_eq_true rfl) (by decide) (by decide) ?_
             refine g_iconst X75 hx hby (1 : Int32) at_486 rfl ?_
             refine g_goto X75 hx hby 491 at_487 (by decide) (by decide) ?_
             refine g_nret X75 hx hby (t := .boolean) (by simp) Bd.returns Bd.notSynchronized at_491 eh75 (by decide) (by decide) ?_
             show (Q_law Z fl px py pz ba se h0 n0) (some (.int (1 : Int32))) _ _
             exact ⟨rfl, N75⟩
           have JF4 : ∀ (T9 : State) (L9 : List Loc) (h9 : Heap) (A0 A1 A2 M9 : Int32) (b9 : Nat), Stand p l e room_1 s m #[(.int fl), (.long px), (.long py), (.long pz)] below meth c_ T9 L9 10 86 → T9.heap = h9 → Fr n0 L9 → n0 ≤ h9.size → own_Bk Z h9 n0 b11 sd ba b9 [(b20, q2)] → Go p e below (RetG s (Q_law Z fl px py pz ba se h0 n0) 32 256) (T9.setTop (mkF m 393 #[.val (.int fl), .val (.long px), .second, .val (.long py), .second, .val (.long pz), .second, .val (.int bu), .val (.ref sd), .val (.int ua0), .val (.int ua1), .val (.int ua2), .val (.int A0), .val (.int A1), .val (.int A2), .val (.int M9), .val (.long q0), .second, .val (.long q1), .second, .val (.long q2), .second, .val (.ref b11), .val (.ref b14), .val (.ref b17), .val (.ref b20), .val (.int (0 : Int32)), .val (.int (0 : Int32)), .val (.int (1 : Int32)), .unset, .unset, .unset, .unset] [])) := by
            intro T9 L9 h9 A0 A1 A2 M9 b9 X9 e9 N9 z9 BK9
            refine g_aconst_null X9 hx hby at_393 ?_
            refine g_astore X9 hx hby at_394 rfl (l' := #[.val (.int fl), .val (.long px), .second, .val (.long py), .second, .val (.long pz), .second, .val (.int bu), .val (.ref sd), .val (.int ua0), .val (.int ua1), .val (.int ua2), .val (.int A0), .val (.int A1), .val (.int A2), .val (.int M9), .val (.long q0), .second, .val (.long q1), .second, .val (.long q2), .second, .val (.ref b11), .val (.ref b14), .val (.ref b17), .val (.ref b20), .val (.int (0 : Int32)), .val (.int (0 : Int32)), .val (.int (1 : Int32)), .val .null, .unset, .unset, .unset]) rfl ?_
            refine g_lconst X9 hx hby (0 : Int64) at_396 rfl ?_
            refine g_lstore X9 hx hby at_397 (l' := #[.val (.int fl), .val (.long px), .second, .val (.long py), .second, .val (.long pz), .second, .val (.int bu), .val (.ref sd), .val (.int ua0), .val (.int ua1), .val (.int ua2), .val (.int A0), .val (.int A1), .val (.int A2), .val (.int M9), .val (.long q0), .second, .val (.long q1), .second, .val (.long q2), .second, .val (.ref b11), .val (.ref b14), .val (.ref b17), .val (.ref b20), .val (.int (0 : Int32)), .val (.int (0 : Int32)), .val (.int (1 : Int32)), .val .null, .val (.long (0 : Int64)), .second, .unset]) rfl ?_
            refine g_iload X9 hx hby at_399 rfl ?_
            refine g_ifY X9 hx hby 412 at_401 (teq (by decide : (0 : Int32) = (0 : Int32))).1 (by decide) (by decide) ?_
            refine g_iload X9 hx hby at_412 rfl ?_
            refine g_ifY X9 hx hby 442 at_414 (teq (by decide : (0 : Int32) = (0 : Int32))).1 (by decide) (by decide) ?_
            refine g_iload X9 hx hby at_442 rfl ?_
            refine g_ifN X9 hx hby at_444 (feq (by decide : ¬ ((1 : Int32) = (0 : Int32)))).1 ?_
            refine g_aload X9 hx hby at_447 rfl rfl ?_
            refine g_ifnullY X9 hx hby 464 at_449 (by decide) (by decide) ?_
            refine g_aload X9 hx hby at_464 rfl rfl ?_
            refine g_astore X9 hx hby at_466 rfl (l' := #[.val (.int fl), .val (.long px), .second, .val (.long py), .second, .val (.long pz), .second, .val (.int bu), .val (.ref sd), .val (.int ua0), .val (.int ua1), .val (.int ua2), .val (.int A0), .val (.int A1), .val (.int A2), .val (.int M9), .val (.long q0), .second, .val (.long q1), .second, .val (.long q2), .second, .val (.ref b11), .val (.ref b14), .val (.ref b17), .val (.ref b20), .val (.int (0 : Int32)), .val (.int (0 : Int32)), .val (.int (1 : Int32)), .val (.ref b20), .val (.long (0 : Int64)), .second, .unset]) rfl ?_
            refine g_lload X9 hx hby at_468 rfl ?_
            refine g_lstore X9 hx hby at_470 (l' := #[.val (.int fl), .val (.long px), .second, .val (.long py), .second, .val (.long pz), .second, .val (.int bu), .val (.ref sd), .val (.int ua0), .val (.int ua1), .val (.int ua2), .val (.int A0), .val (.int A1), .val (.int A2), .val (.int M9), .val (.long q0), .second, .val (.long q1), .second, .val (.long q2), .second, .val (.ref b11), .val (.ref b14), .val (.ref b17), .val (.ref b20), .val (.int (0 : Int32)), .val (.int (0 : Int32)), .val (.int (1 : Int32)), .val (.ref b20), .val (.long q2), .second, .unset]) rfl ?_
            refine g_aload X9 hx hby at_472 rfl rfl ?_
            refine g_virtual X9 hx hby hZ hown (rm_firW l Z a0 hw [] b11 sd b9 [(b20, q2)] bu ba h9 n0 z9 BK9 (own_allS h_q2 own_all0) hsb) w60_ w61_ (notFace_of_selects (args := #[]) (mvT hZ w63_)) w63_ w62_ w10_ w64_ (by decide) e9 (own_Bk.exa BK9) (by rw [hml]; rfl) [] (lenOf own_pd13 rfl) rfl rfl (Nat.le_of_ble_eq_true rfl) (Nat.le_of_ble_eq_true rfl) (Nat.le_of_ble_eq_true rfl) (Nat.le_of_ble_eq_true rfl) at_474 (fun v76 T76 L76 X76 hQ76 => ?_)
            obtain ⟨ev76, N76q, eh76⟩ := hQ76
            have ex76 : own_exp bu [(b20, q2)] = (.ref b20) := by simp [own_exp, own_fold]
            rw [ex76] at ev76
            subst ev76
            have N76 := Fr.app N9 N76q
            refine g_astore X76 hx hby at_477 rfl (l' := #[.val (.int fl), .val (.long px), .second, .val (.long py), .second, .val (.long pz), .second, .val (.int bu), .val (.ref sd), .val (.int ua0), .val (.int ua1), .val (.int ua2), .val (.int A0), .val (.int A1), .val (.int A2), .val (.int M9), .val (.long q0), .second, .val (.long q1), .second, .val (.long q2), .second, .val (.ref b11), .val (.ref b14), .val (.ref b17), .val (.ref b20), .val (.int (0 : Int32)), .val (.int (0 : Int32)), .val (.int (1 : Int32)), .val (.ref b20), .val (.long q2), .second, .val (.ref b20)]) rfl ?_
            refine g_aload X76 hx hby at_479 rfl rfl ?_
            refine g_aload X76 hx hby at_481 rfl rfl ?_
            refine g_acmp X76 hx hby rfl rfl 486 true at_483 (decide_eq_true rfl) (by decide) (by decide) ?_
            refine g_iconst X76 hx hby (1 : Int32) at_486 rfl ?_
            refine g_goto X76 hx hby 491 at_487 (by decide) (by decide) ?_
            refine g_nret X76 hx hby (t := .boolean) (by simp) Bd.returns Bd.notSynchronized at_491 eh76 (by decide) (by decide) ?_
            show (Q_law Z fl px py pz ba se h0 n0) (some (.int (1 : Int32))) _ _
            exact ⟨rfl, N76⟩
           have JF5 : ∀ (T9 : State) (L9 : List Loc) (h9 : Heap) (A0 A1 A2 M9 : Int32) (b9 : Nat), Stand p l e room_1 s m #[(.int fl), (.long px), (.long py), (.long pz)] below meth c_ T9 L9 10 86 → T9.heap = h9 → Fr n0 L9 → n0 ≤ h9.size → own_Bk Z h9 n0 b11 sd ba b9 [(b14, q0), (b20, q2)] → Go p e below (RetG s (Q_law Z fl px py pz ba se h0 n0) 32 256) (T9.setTop (mkF m 393 #[.val (.int fl), .val (.long px), .second, .val (.long py), .second, .val (.long pz), .second, .val (.int bu), .val (.ref sd), .val (.int ua0), .val (.int ua1), .val (.int ua2), .val (.int A0), .val (.int A1), .val (.int A2), .val (.int M9), .val (.long q0), .second, .val (.long q1), .second, .val (.long q2), .second, .val (.ref b11), .val (.ref b14), .val (.ref b17), .val (.ref b20), .val (.int (1 : Int32)), .val (.int (0 : Int32)), .val (.int (1 : Int32)), .unset, .unset, .unset, .unset] [])) := by
            intro T9 L9 h9 A0 A1 A2 M9 b9 X9 e9 N9 z9 BK9
            refine g_aconst_null X9 hx hby at_393 ?_
            refine g_astore X9 hx hby at_394 rfl (l' := #[.val (.int fl), .val (.long px), .second, .val (.long py), .second, .val (.long pz), .second, .val (.int bu), .val (.ref sd), .val (.int ua0), .val (.int ua1), .val (.int ua2), .val (.int A0), .val (.int A1), .val (.int A2), .val (.int M9), .val (.long q0), .second, .val (.long q1), .second, .val (.long q2), .second, .val (.ref b11), .val (.ref b14), .val (.ref b17), .val (.ref b20), .val (.int (1 : Int32)), .val (.int (0 : Int32)), .val (.int (1 : Int32)), .val .null, .unset, .unset, .unset]) rfl ?_
            refine g_lconst X9 hx hby (0 : Int64) at_396 rfl ?_
            refine g_lstore X9 hx hby at_397 (l' := #[.val (.int fl), .val (.long px), .second, .val (.long py), .second, .val (.long pz), .second, .val (.int bu), .val (.ref sd), .val (.int ua0), .val (.int ua1), .val (.int ua2), .val (.int A0), .val (.int A1), .val (.int A2), .val (.int M9), .val (.long q0), .second, .val (.long q1), .second, .val (.long q2), .second, .val (.ref b11), .val (.ref b14), .val (.ref b17), .val (.ref b20), .val (.int (1 : Int32)), .val (.int (0 : Int32)), .val (.int (1 : Int32)), .val .null, .val (.long (0 : Int64)), .second, .unset]) rfl ?_
            refine g_iload X9 hx hby at_399 rfl ?_
            refine g_ifN X9 hx hby at_401 (feq (by decide : ¬ ((1 : Int32) = (0 : Int32)))).1 ?_
            refine g_aload X9 hx hby at_404 rfl rfl ?_
            refine g_astore X9 hx hby at_406 rfl (l' := #[.val (.int fl), .val (.long px), .second, .val (.long py), .second, .val (.long pz), .second, .val (.int bu), .val (.ref sd), .val (.int ua0), .val (.int ua1), .val (.int ua2), .val (.int A0), .val (.int A1), .val (.int A2), .val (.int M9), .val (.long q0), .second, .val (.long q1), .second, .val (.long q2), .second, .val (.ref b11), .val (.ref b14), .val (.ref b17), .val (.ref b20), .val (.int (1 : Int32)), .val (.int (0 : Int32)), .val (.int (1 : Int32)), .val (.ref b14), .val (.long (0 : Int64)), .second, .unset]) rfl ?_
            refine g_lload X9 hx hby at_408 rfl ?_
            refine g_lstore X9 hx hby at_410 (l' := #[.val (.int fl), .val (.long px), .second, .val (.long py), .second, .val (.long pz), .second, .val (.int bu), .val (.ref sd), .val (.int ua0), .val (.int ua1), .val (.int ua2), .val (.int A0), .val (.int A1), .val (.int A2), .val (.int M9), .val (.long q0), .second, .val (.long q1), .second, .val (.long q2), .second, .val (.ref b11), .val (.ref b14), .val (.ref b17), .val (.ref b20), .val (.int (1 : Int32)), .val (.int (0 : Int32)), .val (.int (1 : Int32)), .val (.ref b14), .val (.long q0), .second, .unset]) rfl ?_
            refine g_iload X9 hx hby at_412 rfl ?_
            refine g_ifY X9 hx hby 442 at_414 (teq (by decide : (0 : Int32) = (0 : Int32))).1 (by decide) (by decide) ?_
            refine g_iload X9 hx hby at_442 rfl ?_
            refine g_ifN X9 hx hby at_444 (feq (by decide : ¬ ((1 : Int32) = (0 : Int32)))).1 ?_
            refine g_aload X9 hx hby at_447 rfl rfl ?_
            refine g_ifnullN X9 hx hby at_449 ?_
            refine g_iload X9 hx hby at_452 rfl ?_
            refine g_lload X9 hx hby at_454 rfl ?_
            refine g_lload X9 hx hby at_456 rfl ?_
            refine g_static X9 hx hby hZ hown (rm_beats l Z a0 hw [] bu q2 q0 h9 n0 z9 ) w149_ w150_ w151_ w152_ (by decide) e9 (by rw [hml]; rfl) [(.int bu), (.long q2), (.long q0)] (lenOf own_pd14 rfl) rfl rfl (Nat.le_of_ble_eq_true rfl) (Nat.le_of_ble_eq_true rfl) (Nat.le_of_ble_eq_true rfl) (Nat.le_of_ble_eq_true rfl) at_458 (fun v77 T77 L77 X77 hQ77 => ?_)
            obtain ⟨rfl, N77q, eh77⟩ := hQ77
            have N77 := Fr.app N9 N77q
            by_cases hc461_78 : (own_beats bu q2 q0) = (0 : Int32)
            ·skip
             refine g_ifY X77 hx hby 472 at_461 (teq hc461_78).1 (by decide) (by decide) ?_
             refine g_aload X77 hx hby at_472 rfl rfl ?_
             refine g_virtual X77 hx hby hZ hown (rm_firW l Z a0 hw [] b11 sd b9 [(b14, q0), (b20, q2)] bu ba h9 n0 z9 BK9 (own_allS h_q0 (own_allS h_q2 own_all0)) hsb) w60_ w61_ (notFace_of_selects (args := #[]) (mvT hZ w63_)) w63_ w62_ w10_ w64_ (by decide) eh77 (own_Bk.exa BK9) (by rw [hml]; rfl) [] (lenOf own_pd13 rfl) rfl rfl (Nat.le_of_ble_eq_true rfl) (Nat.le_of_ble_eq_true rfl) (Nat.le_of_ble_eq_true rfl) (Nat.le_of_ble_eq_true rfl) at_474 (fun v79 T79 L79 X79 hQ79 => ?_)
             obtain ⟨ev79, N79q, eh79⟩ := hQ79
             have ex79 : own_exp bu [(b14, q0), (b20, q2)] = (.ref b14) := by simp [own_exp, own_fold, hc461_78]
             rw [ex79] at ev79
             subst ev79
             have N79 := Fr.app N77 N79q
             refine g_astore X79 hx hby at_477 rfl (l' := #[.val (.int fl), .val (.long px), .second, .val (.long py), .second, .val (.long pz), .second, .val (.int bu), .val (.ref sd), .val (.int ua0), .val (.int ua1), .val (.int ua2), .val (.int A0), .val (.int A1), .val (.int A2), .val (.int M9), .val (.long q0), .second, .val (.long q1), .second, .val (.long q2), .second, .val (.ref b11), .val (.ref b14), .val (.ref b17), .val (.ref b20), .val (.int (1 : Int32)), .val (.int (0 : Int32)), .val (.int (1 : Int32)), .val (.ref b14), .val (.long q0), .second, .val (.ref b14)]) rfl ?_
             refine g_aload X79 hx hby at_479 rfl rfl ?_
             refine g_aload X79 hx hby at_481 rfl rfl ?_
             refine g_acmp X79 hx hby rfl rfl 486 true at_483 (decide_eq_true rfl) (by decide) (by decide) ?_
             refine g_iconst X79 hx hby (1 : Int32) at_486 rfl ?_
             refine g_goto X79 hx hby 491 at_487 (by decide) (by decide) ?_
             refine g_nret X79 hx hby (t := .boolean) (by simp) Bd.returns Bd.notSynchronized at_491 eh79 (by decide) (by decide) ?_
             show (Q_law Z fl px py pz ba se h0 n0) (some (.int (1 : Int32))) _ _
             exact ⟨rfl, N79⟩
            ·skip
             refine g_ifN X77 hx hby at_461 (feq hc461_78).1 ?_
             refine g_aload X77 hx hby at_464 rfl rfl ?_
             refine g_astore X77 hx hby at_466 rfl (l' := #[.val (.int fl), .val (.long px), .second, .val (.long py), .second, .val (.long pz), .second, .val (.int bu), .val (.ref sd), .val (.int ua0), .val (.int ua1), .val (.int ua2), .val (.int A0), .val (.int A1), .val (.int A2), .val (.int M9), .val (.long q0), .second, .val (.long q1), .second, .val (.long q2), .second, .val (.ref b11), .val (.ref b14), .val (.ref b17), .val (.ref b20), .val (.int (1 : Int32)), .val (.int (0 : Int32)), .val (.int (1 : Int32)), .val (.ref b20), .val (.long q0), .second, .unset]) rfl ?_
             refine g_lload X77 hx hby at_468 rfl ?_
             refine g_lstore X77 hx hby at_470 (l' := #[.val (.int fl), .val (.long px), .second, .val (.long py), .second, .val (.long pz), .second, .val (.int bu), .val (.ref sd), .val (.int ua0), .val (.int ua1), .val (.int ua2), .val (.int A0), .val (.int A1), .val (.int A2), .val (.int M9), .val (.long q0), .second, .val (.long q1), .second, .val (.long q2), .second, .val (.ref b11), .val (.ref b14), .val (.ref b17), .val (.ref b20), .val (.int (1 : Int32)), .val (.int (0 : Int32)), .val (.int (1 : Int32)), .val (.ref b20), .val (.long q2), .second, .unset]) rfl ?_
             refine g_aload X77 hx hby at_472 rfl rfl ?_
             refine g_virtual X77 hx hby hZ hown (rm_firW l Z a0 hw [] b11 sd b9 [(b14, q0), (b20, q2)] bu ba h9 n0 z9 BK9 (own_allS h_q0 (own_allS h_q2 own_all0)) hsb) w60_ w61_ (notFace_of_selects (args := #[]) (mvT hZ w63_)) w63_ w62_ w10_ w64_ (by decide) eh77 (own_Bk.exa BK9) (by rw [hml]; rfl) [] (lenOf own_pd13 rfl) rfl rfl (Nat.le_of_ble_eq_true rfl) (Nat.le_of_ble_eq_true rfl) (Nat.le_of_ble_eq_true rfl) (Nat.le_of_ble_eq_true rfl) at_474 (fun v80 T80 L80 X80 hQ80 => ?_)
             obtain ⟨ev80, N80q, eh80⟩ := hQ80
             have ex80 : own_exp bu [(b14, q0), (b20, q2)] = (.ref b20) := by simp [own_exp, own_fold, hc461_78]
             rw [ex80] at ev80
             subst ev80
             have N80 := Fr.app N77 N80q
             refine g_at 477 rfl rfl rfl ?_
             refine g_astore X80 hx hby at_477 rfl (l' := #[.val (.int fl), .val (.long px), .second, .val (.long py), .second, .val (.long pz), .second, .val (.int bu), .val (.ref sd), .val (.int ua0), .val (.int ua1), .val (.int ua2), .val (.int A0), .val (.int A1), .val (.int A2), .val (.int M9), .val (.long q0), .second, .val (.long q1), .second, .val (.long q2), .second, .val (.ref b11), .val (.ref b14), .val (.ref b17), .val (.ref b20), .val (.int (1 : Int32)), .val (.int (0 : Int32)), .val (.int (1 : Int32)), .val (.ref b20), .val (.long q2), .second, .val (.ref b20)]) rfl ?_
             refine g_aload X80 hx hby at_479 rfl rfl ?_
             refine g_aload X80 hx hby at_481 rfl rfl ?_
             refine g_acmp X80 hx hby rfl rfl 486 true at_483 (decide_eq_true rfl) (by decide) (by decide) ?_
             refine g_iconst X80 hx hby (1 : Int32) at_486 rfl ?_
             refine g_goto X80 hx hby 491 at_487 (by decide) (by decide) ?_
             refine g_nret X80 hx hby (t := .boolean) (by simp) Bd.returns Bd.notSynchronized at_491 eh80 (by decide) (by decide) ?_
             show (Q_law Z fl px py pz ba se h0 n0) (some (.int (1 : Int32))) _ _
             exact ⟨rfl, N80⟩
           have JF6 : ∀ (T9 : State) (L9 : List Loc) (h9 : Heap) (A0 A1 A2 M9 : Int32) (b9 : Nat), Stand p l e room_1 s m #[(.int fl), (.long px), (.long py), (.long pz)] below meth c_ T9 L9 10 86 → T9.heap = h9 → Fr n0 L9 → n0 ≤ h9.size → own_Bk Z h9 n0 b11 sd ba b9 [(b17, q1), (b20, q2)] → Go p e below (RetG s (Q_law Z fl px py pz ba se h0 n0) 32 256) (T9.setTop (mkF m 393 #[.val (.int fl), .val (.long px), .second, .val (.long py), .second, .val (.long pz), .second, .val (.int bu), .val (.ref sd), .val (.int ua0), .val (.int ua1), .val (.int ua2), .val (.int A0), .val (.int A1), .val (.int A2), .val (.int M9), .val (.long q0), .second, .val (.long q1), .second, .val (.long q2), .second, .val (.ref b11), .val (.ref b14), .val (.ref b17), .val (.ref b20), .val (.int (0 : Int32)), .val (.int (1 : Int32)), .val (.int (1 : Int32)), .unset, .unset, .unset, .unset] [])) := by
            intro T9 L9 h9 A0 A1 A2 M9 b9 X9 e9 N9 z9 BK9
            refine g_aconst_null X9 hx hby at_393 ?_
            refine g_astore X9 hx hby at_394 rfl (l' := #[.val (.int fl), .val (.long px), .second, .val (.long py), .second, .val (.long pz), .second, .val (.int bu), .val (.ref sd), .val (.int ua0), .val (.int ua1), .val (.int ua2), .val (.int A0), .val (.int A1), .val (.int A2), .val (.int M9), .val (.long q0), .second, .val (.long q1), .second, .val (.long q2), .second, .val (.ref b11), .val (.ref b14), .val (.ref b17), .val (.ref b20), .val (.int (0 : Int32)), .val (.int (1 : Int32)), .val (.int (1 : Int32)), .val .null, .unset, .unset, .unset]) rfl ?_
            refine g_lconst X9 hx hby (0 : Int64) at_396 rfl ?_
            refine g_lstore X9 hx hby at_397 (l' := #[.val (.int fl), .val (.long px), .second, .val (.long py), .second, .val (.long pz), .second, .val (.int bu), .val (.ref sd), .val (.int ua0), .val (.int ua1), .val (.int ua2), .val (.int A0), .val (.int A1), .val (.int A2), .val (.int M9), .val (.long q0), .second, .val (.long q1), .second, .val (.long q2), .second, .val (.ref b11), .val (.ref b14), .val (.ref b17), .val (.ref b20), .val (.int (0 : Int32)), .val (.int (1 : Int32)), .val (.int (1 : Int32)), .val .null, .val (.long (0 : Int64)), .second, .unset]) rfl ?_
            refine g_iload X9 hx hby at_399 rfl ?_
            refine g_ifY X9 hx hby 412 at_401 (teq (by decide : (0 : Int32) = (0 : Int32))).1 (by decide) (by decide) ?_
            refine g_iload X9 hx hby at_412 rfl ?_
            refine g_ifN X9 hx hby at_414 (feq (by decide : ¬ ((1 : Int32) = (0 : Int32)))).1 ?_
            refine g_aload X9 hx hby at_417 rfl rfl ?_
            refine g_ifnullY X9 hx hby 434 at_419 (by decide) (by decide) ?_
            refine g_aload X9 hx hby at_434 rfl rfl ?_
            refine g_astore X9 hx hby at_436 rfl (l' := #[.val (.int fl), .val (.long px), .second, .val (.long py), .second, .val (.long pz), .second, .val (.int bu), .val (.ref sd), .val (.int ua0), .val (.int ua1), .val (.int ua2), .val (.int A0), .val (.int A1), .val (.int A2), .val (.int M9), .val (.long q0), .second, .val (.long q1), .second, .val (.long q2), .second, .val (.ref b11), .val (.ref b14), .val (.ref b17), .val (.ref b20), .val (.int (0 : Int32)), .val (.int (1 : Int32)), .val (.int (1 : Int32)), .val (.ref b17), .val (.long (0 : Int64)), .second, .unset]) rfl ?_
            refine g_lload X9 hx hby at_438 rfl ?_
            refine g_lstore X9 hx hby at_440 (l' := #[.val (.int fl), .val (.long px), .second, .val (.long py), .second, .val (.long pz), .second, .val (.int bu), .val (.ref sd), .val (.int ua0), .val (.int ua1), .val (.int ua2), .val (.int A0), .val (.int A1), .val (.int A2), .val (.int M9), .val (.long q0), .second, .val (.long q1), .second, .val (.long q2), .second, .val (.ref b11), .val (.ref b14), .val (.ref b17), .val (.ref b20), .val (.int (0 : Int32)), .val (.int (1 : Int32)), .val (.int (1 : Int32)), .val (.ref b17), .val (.long q1), .second, .unset]) rfl ?_
            refine g_iload X9 hx hby at_442 rfl ?_
            refine g_ifN X9 hx hby at_444 (feq (by decide : ¬ ((1 : Int32) = (0 : Int32)))).1 ?_
            refine g_aload X9 hx hby at_447 rfl rfl ?_
            refine g_ifnullN X9 hx hby at_449 ?_
            refine g_iload X9 hx hby at_452 rfl ?_
            refine g_lload X9 hx hby at_454 rfl ?_
            refine g_lload X9 hx hby at_456 rfl ?_
            refine g_static X9 hx hby hZ hown (rm_beats l Z a0 hw [] bu q2 q1 h9 n0 z9 ) w149_ w150_ w151_ w152_ (by decide) e9 (by rw [hml]; rfl) [(.int bu), (.long q2), (.long q1)] (lenOf own_pd14 rfl) rfl rfl (Nat.le_of_ble_eq_true rfl) (Nat.le_of_ble_eq_true rfl) (Nat.le_of_ble_eq_true rfl) (Nat.le_of_ble_eq_true rfl) at_458 (fun v81 T81 L81 X81 hQ81 => ?_)
            obtain ⟨rfl, N81q, eh81⟩ := hQ81
            have N81 := Fr.app N9 N81q
            by_cases hc461_82 : (own_beats bu q2 q1) = (0 : Int32)
            ·skip
             refine g_ifY X81 hx hby 472 at_461 (teq hc461_82).1 (by decide) (by decide) ?_
             refine g_aload X81 hx hby at_472 rfl rfl ?_
             refine g_virtual X81 hx hby hZ hown (rm_firW l Z a0 hw [] b11 sd b9 [(b17, q1), (b20, q2)] bu ba h9 n0 z9 BK9 (own_allS h_q1 (own_allS h_q2 own_all0)) hsb) w60_ w61_ (notFace_of_selects (args := #[]) (mvT hZ w63_)) w63_ w62_ w10_ w64_ (by decide) eh81 (own_Bk.exa BK9) (by rw [hml]; rfl) [] (lenOf own_pd13 rfl) rfl rfl (Nat.le_of_ble_eq_true rfl) (Nat.le_of_ble_eq_true rfl) (Nat.le_of_ble_eq_true rfl) (Nat.le_of_ble_eq_true rfl) at_474 (fun v83 T83 L83 X83 hQ83 => ?_)
             obtain ⟨ev83, N83q, eh83⟩ := hQ83
             have ex83 : own_exp bu [(b17, q1), (b20, q2)] = (.ref b17) := by simp [own_exp, own_fold, hc461_82]
             rw [ex83] at ev83
             subst ev83
             have N83 := Fr.app N81 N83q
             refine g_astore X83 hx hby at_477 rfl (l' := #[.val (.int fl), .val (.long px), .second, .val (.long py), .second, .val (.long pz), .second, .val (.int bu), .val (.ref sd), .val (.int ua0), .val (.int ua1), .val (.int ua2), .val (.int A0), .val (.int A1), .val (.int A2), .val (.int M9), .val (.long q0), .second, .val (.long q1), .second, .val (.long q2), .second, .val (.ref b11), .val (.ref b14), .val (.ref b17), .val (.ref b20), .val (.int (0 : Int32)), .val (.int (1 : Int32)), .val (.int (1 : Int32)), .val (.ref b17), .val (.long q1), .second, .val (.ref b17)]) rfl ?_
             refine g_aload X83 hx hby at_479 rfl rfl ?_
             refine g_aload X83 hx hby at_481 rfl rfl ?_
             refine g_acmp X83 hx hby rfl rfl 486 true at_483 (decide_eq_true rfl) (by decide) (by decide) ?_
             refine g_iconst X83 hx hby (1 : Int32) at_486 rfl ?_
             refine g_goto X83 hx hby 491 at_487 (by decide) (by decide) ?_
             refine g_nret X83 hx hby (t := .boolean) (by simp) Bd.returns Bd.notSynchronized at_491 eh83 (by decide) (by decide) ?_
             show (Q_law Z fl px py pz ba se h0 n0) (some (.int (1 : Int32))) _ _
             exact ⟨rfl, N83⟩
            ·skip
             refine g_ifN X81 hx hby at_461 (feq hc461_82).1 ?_
             refine g_aload X81 hx hby at_464 rfl rfl ?_
             refine g_astore X81 hx hby at_466 rfl (l' := #[.val (.int fl), .val (.long px), .second, .val (.long py), .second, .val (.long pz), .second, .val (.int bu), .val (.ref sd), .val (.int ua0), .val (.int ua1), .val (.int ua2), .val (.int A0), .val (.int A1), .val (.int A2), .val (.int M9), .val (.long q0), .second, .val (.long q1), .second, .val (.long q2), .second, .val (.ref b11), .val (.ref b14), .val (.ref b17), .val (.ref b20), .val (.int (0 : Int32)), .val (.int (1 : Int32)), .val (.int (1 : Int32)), .val (.ref b20), .val (.long q1), .second, .unset]) rfl ?_
             refine g_lload X81 hx hby at_468 rfl ?_
             refine g_lstore X81 hx hby at_470 (l' := #[.val (.int fl), .val (.long px), .second, .val (.long py), .second, .val (.long pz), .second, .val (.int bu), .val (.ref sd), .val (.int ua0), .val (.int ua1), .val (.int ua2), .val (.int A0), .val (.int A1), .val (.int A2), .val (.int M9), .val (.long q0), .second, .val (.long q1), .second, .val (.long q2), .second, .val (.ref b11), .val (.ref b14), .val (.ref b17), .val (.ref b20), .val (.int (0 : Int32)), .val (.int (1 : Int32)), .val (.int (1 : Int32)), .val (.ref b20), .val (.long q2), .second, .unset]) rfl ?_
             refine g_aload X81 hx hby at_472 rfl rfl ?_
             refine g_virtual X81 hx hby hZ hown (rm_firW l Z a0 hw [] b11 sd b9 [(b17, q1), (b20, q2)] bu ba h9 n0 z9 BK9 (own_allS h_q1 (own_allS h_q2 own_all0)) hsb) w60_ w61_ (notFace_of_selects (args := #[]) (mvT hZ w63_)) w63_ w62_ w10_ w64_ (by decide) eh81 (own_Bk.exa BK9) (by rw [hml]; rfl) [] (lenOf own_pd13 rfl) rfl rfl (Nat.le_of_ble_eq_true rfl) (Nat.le_of_ble_eq_true rfl) (Nat.le_of_ble_eq_true rfl) (Nat.le_of_ble_eq_true rfl) at_474 (fun v84 T84 L84 X84 hQ84 => ?_)
             obtain ⟨ev84, N84q, eh84⟩ := hQ84
             have ex84 : own_exp bu [(b17, q1), (b20, q2)] = (.ref b20) := by simp [own_exp, own_fold, hc461_82]
             rw [ex84] at ev84
             subst ev84
             have N84 := Fr.app N81 N84q
             refine g_at 477 rfl rfl rfl ?_
             refine g_astore X84 hx hby at_477 rfl (l' := #[.val (.int fl), .val (.long px), .second, .val (.long py), .second, .val (.long pz), .second, .val (.int bu), .val (.ref sd), .val (.int ua0), .val (.int ua1), .val (.int ua2), .val (.int A0), .val (.int A1), .val (.int A2), .val (.int M9), .val (.long q0), .second, .val (.long q1), .second, .val (.long q2), .second, .val (.ref b11), .val (.ref b14), .val (.ref b17), .val (.ref b20), .val (.int (0 : Int32)), .val (.int (1 : Int32)), .val (.int (1 : Int32)), .val (.ref b20), .val (.long q2), .second, .val (.ref b20)]) rfl ?_
             refine g_aload X84 hx hby at_479 rfl rfl ?_
             refine g_aload X84 hx hby at_481 rfl rfl ?_
             refine g_acmp X84 hx hby rfl rfl 486 true at_483 (decide_eq_true rfl) (by decide) (by decide) ?_
             refine g_iconst X84 hx hby (1 : Int32) at_486 rfl ?_
             refine g_goto X84 hx hby 491 at_487 (by decide) (by decide) ?_
             refine g_nret X84 hx hby (t := .boolean) (by simp) Bd.returns Bd.notSynchronized at_491 eh84 (by decide) (by decide) ?_
             show (Q_law Z fl px py pz ba se h0 n0) (some (.int (1 : Int32))) _ _
             exact ⟨rfl, N84⟩
           have JF7 : ∀ (T9 : State) (L9 : List Loc) (h9 : Heap) (A0 A1 A2 M9 : Int32) (b9 : Nat), Stand p l e room_1 s m #[(.int fl), (.long px), (.long py), (.long pz)] below meth c_ T9 L9 10 86 → T9.heap = h9 → Fr n0 L9 → n0 ≤ h9.size → own_Bk Z h9 n0 b11 sd ba b9 [(b14, q0), (b17, q1), (b20, q2)] → Go p e below (RetG s (Q_law Z fl px py pz ba se h0 n0) 32 256) (T9.setTop (mkF m 393 #[.val (.int fl), .val (.long px), .second, .val (.long py), .second, .val (.long pz), .second, .val (.int bu), .val (.ref sd), .val (.int ua0), .val (.int ua1), .val (.int ua2), .val (.int A0), .val (.int A1), .val (.int A2), .val (.int M9), .val (.long q0), .second, .val (.long q1), .second, .val (.long q2), .second, .val (.ref b11), .val (.ref b14), .val (.ref b17), .val (.ref b20), .val (.int (1 : Int32)), .val (.int (1 : Int32)), .val (.int (1 : Int32)), .unset, .unset, .unset, .unset] [])) := by
            intro T9 L9 h9 A0 A1 A2 M9 b9 X9 e9 N9 z9 BK9
            refine g_aconst_null X9 hx hby at_393 ?_
            refine g_astore X9 hx hby at_394 rfl (l' := #[.val (.int fl), .val (.long px), .second, .val (.long py), .second, .val (.long pz), .second, .val (.int bu), .val (.ref sd), .val (.int ua0), .val (.int ua1), .val (.int ua2), .val (.int A0), .val (.int A1), .val (.int A2), .val (.int M9), .val (.long q0), .second, .val (.long q1), .second, .val (.long q2), .second, .val (.ref b11), .val (.ref b14), .val (.ref b17), .val (.ref b20), .val (.int (1 : Int32)), .val (.int (1 : Int32)), .val (.int (1 : Int32)), .val .null, .unset, .unset, .unset]) rfl ?_
            refine g_lconst X9 hx hby (0 : Int64) at_396 rfl ?_
            refine g_lstore X9 hx hby at_397 (l' := #[.val (.int fl), .val (.long px), .second, .val (.long py), .second, .val (.long pz), .second, .val (.int bu), .val (.ref sd), .val (.int ua0), .val (.int ua1), .val (.int ua2), .val (.int A0), .val (.int A1), .val (.int A2), .val (.int M9), .val (.long q0), .second, .val (.long q1), .second, .val (.long q2), .second, .val (.ref b11), .val (.ref b14), .val (.ref b17), .val (.ref b20), .val (.int (1 : Int32)), .val (.int (1 : Int32)), .val (.int (1 : Int32)), .val .null, .val (.long (0 : Int64)), .second, .unset]) rfl ?_
            refine g_iload X9 hx hby at_399 rfl ?_
            refine g_ifN X9 hx hby at_401 (feq (by decide : ¬ ((1 : Int32) = (0 : Int32)))).1 ?_
            refine g_aload X9 hx hby at_404 rfl rfl ?_
            refine g_astore X9 hx hby at_406 rfl (l' := #[.val (.int fl), .val (.long px), .second, .val (.long py), .second, .val (.long pz), .second, .val (.int bu), .val (.ref sd), .val (.int ua0), .val (.int ua1), .val (.int ua2), .val (.int A0), .val (.int A1), .val (.int A2), .val (.int M9), .val (.long q0), .second, .val (.long q1), .second, .val (.long q2), .second, .val (.ref b11), .val (.ref b14), .val (.ref b17), .val (.ref b20), .val (.int (1 : Int32)), .val (.int (1 : Int32)), .val (.int (1 : Int32)), .val (.ref b14), .val (.long (0 : Int64)), .second, .unset]) rfl ?_
            refine g_lload X9 hx hby at_408 rfl ?_
            refine g_lstore X9 hx hby at_410 (l' := #[.val (.int fl), .val (.long px), .second, .val (.long py), .second, .val (.long pz), .second, .val (.int bu), .val (.ref sd), .val (.int ua0), .val (.int ua1), .val (.int ua2), .val (.int A0), .val (.int A1), .val (.int A2), .val (.int M9), .val (.long q0), .second, .val (.long q1), .second, .val (.long q2), .second, .val (.ref b11), .val (.ref b14), .val (.ref b17), .val (.ref b20), .val (.int (1 : Int32)), .val (.int (1 : Int32)), .val (.int (1 : Int32)), .val (.ref b14), .val (.long q0), .second, .unset]) rfl ?_
            refine g_iload X9 hx hby at_412 rfl ?_
            refine g_ifN X9 hx hby at_414 (feq (by decide : ¬ ((1 : Int32) = (0 : Int32)))).1 ?_
            refine g_aload X9 hx hby at_417 rfl rfl ?_
            refine g_ifnullN X9 hx hby at_419 ?_
            refine g_iload X9 hx hby at_422 rfl ?_
            refine g_lload X9 hx hby at_424 rfl ?_
            refine g_lload X9 hx hby at_426 rfl ?_
            refine g_static X9 hx hby hZ hown (rm_beats l Z a0 hw [] bu q1 q0 h9 n0 z9 ) w149_ w150_ w151_ w152_ (by decide) e9 (by rw [hml]; rfl) [(.int bu), (.long q1), (.long q0)] (lenOf own_pd14 rfl) rfl rfl (Nat.le_of_ble_eq_true rfl) (Nat.le_of_ble_eq_true rfl) (Nat.le_of_ble_eq_true rfl) (Nat.le_of_ble_eq_true rfl) at_428 (fun v85 T85 L85 X85 hQ85 => ?_)
            obtain ⟨rfl, N85q, eh85⟩ := hQ85
            have N85 := Fr.app N9 N85q
            by_cases hc431_86 : (own_beats bu q1 q0) = (0 : Int32)
            ·skip
             refine g_ifY X85 hx hby 442 at_431 (teq hc431_86).1 (by decide) (by decide) ?_
             refine g_iload X85 hx hby at_442 rfl ?_
             refine g_ifN X85 hx hby at_444 (feq (by decide : ¬ ((1 : Int32) = (0 : Int32)))).1 ?_
             refine g_aload X85 hx hby at_447 rfl rfl ?_
             refine g_ifnullN X85 hx hby at_449 ?_
             refine g_iload X85 hx hby at_452 rfl ?_
             refine g_lload X85 hx hby at_454 rfl ?_
             refine g_lload X85 hx hby at_456 rfl ?_
             refine g_static X85 hx hby hZ hown (rm_beats l Z a0 hw [] bu q2 q0 h9 n0 z9 ) w149_ w150_ w151_ w152_ (by decide) eh85 (by rw [hml]; rfl) [(.int bu), (.long q2), (.long q0)] (lenOf own_pd14 rfl) rfl rfl (Nat.le_of_ble_eq_true rfl) (Nat.le_of_ble_eq_true rfl) (Nat.le_of_ble_eq_true rfl) (Nat.le_of_ble_eq_true rfl) at_458 (fun v87 T87 L87 X87 hQ87 => ?_)
             obtain ⟨rfl, N87q, eh87⟩ := hQ87
             have N87 := Fr.app N85 N87q
             by_cases hc461_88 : (own_beats bu q2 q0) = (0 : Int32)
             ·skip
              refine g_ifY X87 hx hby 472 at_461 (teq hc461_88).1 (by decide) (by decide) ?_
              refine g_aload X87 hx hby at_472 rfl rfl ?_
              refine g_virtual X87 hx hby hZ hown (rm_firW l Z a0 hw [] b11 sd b9 [(b14, q0), (b17, q1), (b20, q2)] bu ba h9 n0 z9 BK9 (own_allS h_q0 (own_allS h_q1 (own_allS h_q2 own_all0))) hsb) w60_ w61_ (notFace_of_selects (args := #[]) (mvT hZ w63_)) w63_ w62_ w10_ w64_ (by decide) eh87 (own_Bk.exa BK9) (by rw [hml]; rfl) [] (lenOf own_pd13 rfl) rfl rfl (Nat.le_of_ble_eq_true rfl) (Nat.le_of_ble_eq_true rfl) (Nat.le_of_ble_eq_true rfl) (Nat.le_of_ble_eq_true rfl) at_474 (fun v89 T89 L89 X89 hQ89 => ?_)
              obtain ⟨ev89, N89q, eh89⟩ := hQ89
              have ex89 : own_exp bu [(b14, q0), (b17, q1), (b20, q2)] = (.ref b14) := by simp [own_exp, own_fold, hc431_86, hc461_88]
              rw [ex89] at ev89
              subst ev89
              have N89 := Fr.app N87 N89q
              refine g_astore X89 hx hby at_477 rfl (l' := #[.val (.int fl), .val (.long px), .second, .val (.long py), .second, .val (.long pz), .second, .val (.int bu), .val (.ref sd), .val (.int ua0), .val (.int ua1), .val (.int ua2), .val (.int A0), .val (.int A1), .val (.int A2), .val (.int M9), .val (.long q0), .second, .val (.long q1), .second, .val (.long q2), .second, .val (.ref b11), .val (.ref b14), .val (.ref b17), .val (.ref b20), .val (.int (1 : Int32)), .val (.int (1 : Int32)), .val (.int (1 : Int32)), .val (.ref b14), .val (.long q0), .second, .val (.ref b14)]) rfl ?_
              refine g_aload X89 hx hby at_479 rfl rfl ?_
              refine g_aload X89 hx hby at_481 rfl rfl ?_
              refine g_acmp X89 hx hby rfl rfl 486 true at_483 (decide_eq_true rfl) (by decide) (by decide) ?_
              refine g_iconst X89 hx hby (1 : Int32) at_486 rfl ?_
              refine g_goto X89 hx hby 491 at_487 (by decide) (by decide) ?_
              refine g_nret X89 hx hby (t := .boolean) (by simp) Bd.returns Bd.notSynchronized at_491 eh89 (by decide) (by decide) ?_
              show (Q_law Z fl px py pz ba se h0 n0) (some (.int (1 : Int32))) _ _
              exact ⟨rfl, N89⟩
             ·skip
              refine g_ifN X87 hx hby at_461 (feq hc461_88).1 ?_
              refine g_aload X87 hx hby at_464 rfl rfl ?_
              refine g_astore X87 hx hby at_466 rfl (l' := #[.val (.int fl), .val (.long px), .second, .val (.long py), .second, .val (.long pz), .second, .val (.int bu), .val (.ref sd), .val (.int ua0), .val (.int ua1), .val (.int ua2), .val (.int A0), .val (.int A1), .val (.int A2), .val (.int M9), .val (.long q0), .second, .val (.long q1), .second, .val (.long q2), .second, .val (.ref b11), .val (.ref b14), .val (.ref b17), .val (.ref b20), .val (.int (1 : Int32)), .val (.int (1 : Int32)), .val (.int (1 : Int32)), .val (.ref b20), .val (.long q0), .second, .unset]) rfl ?_
              refine g_lload X87 hx hby at_468 rfl ?_
              refine g_lstore X87 hx hby at_470 (l' := #[.val (.int fl), .val (.long px), .second, .val (.long py), .second, .val (.long pz), .second, .val (.int bu), .val (.ref sd), .val (.int ua0), .val (.int ua1), .val (.int ua2), .val (.int A0), .val (.int A1), .val (.int A2), .val (.int M9), .val (.long q0), .second, .val (.long q1), .second, .val (.long q2), .second, .val (.ref b11), .val (.ref b14), .val (.ref b17), .val (.ref b20), .val (.int (1 : Int32)), .val (.int (1 : Int32)), .val (.int (1 : Int32)), .val (.ref b20), .val (.long q2), .second, .unset]) rfl ?_
              refine g_aload X87 hx hby at_472 rfl rfl ?_
              refine g_virtual X87 hx hby hZ hown (rm_firW l Z a0 hw [] b11 sd b9 [(b14, q0), (b17, q1), (b20, q2)] bu ba h9 n0 z9 BK9 (own_allS h_q0 (own_allS h_q1 (own_allS h_q2 own_all0))) hsb) w60_ w61_ (notFace_of_selects (args := #[]) (mvT hZ w63_)) w63_ w62_ w10_ w64_ (by decide) eh87 (own_Bk.exa BK9) (by rw [hml]; rfl) [] (lenOf own_pd13 rfl) rfl rfl (Nat.le_of_ble_eq_true rfl) (Nat.le_of_ble_eq_true rfl) (Nat.le_of_ble_eq_true rfl) (Nat.le_of_ble_eq_true rfl) at_474 (fun v90 T90 L90 X90 hQ90 => ?_)
              obtain ⟨ev90, N90q, eh90⟩ := hQ90
              have ex90 : own_exp bu [(b14, q0), (b17, q1), (b20, q2)] = (.ref b20) := by simp [own_exp, own_fold, hc431_86, hc461_88]
              rw [ex90] at ev90
              subst ev90
              have N90 := Fr.app N87 N90q
              refine g_at 477 rfl rfl rfl ?_
              refine g_astore X90 hx hby at_477 rfl (l' := #[.val (.int fl), .val (.long px), .second, .val (.long py), .second, .val (.long pz), .second, .val (.int bu), .val (.ref sd), .val (.int ua0), .val (.int ua1), .val (.int ua2), .val (.int A0), .val (.int A1), .val (.int A2), .val (.int M9), .val (.long q0), .second, .val (.long q1), .second, .val (.long q2), .second, .val (.ref b11), .val (.ref b14), .val (.ref b17), .val (.ref b20), .val (.int (1 : Int32)), .val (.int (1 : Int32)), .val (.int (1 : Int32)), .val (.ref b20), .val (.long q2), .second, .val (.ref b20)]) rfl ?_
              refine g_aload X90 hx hby at_479 rfl rfl ?_
              refine g_aload X90 hx hby at_481 rfl rfl ?_
              refine g_acmp X90 hx hby rfl rfl 486 true at_483 (decide_eq_true rfl) (by decide) (by decide) ?_
              refine g_iconst X90 hx hby (1 : Int32) at_486 rfl ?_
              refine g_goto X90 hx hby 491 at_487 (by decide) (by decide) ?_
              refine g_nret X90 hx hby (t := .boolean) (by simp) Bd.returns Bd.notSynchronized at_491 eh90 (by decide) (by decide) ?_
              show (Q_law Z fl px py pz ba se h0 n0) (some (.int (1 : Int32))) _ _
              exact ⟨rfl, N90⟩
            ·skip
             refine g_ifN X85 hx hby at_431 (feq hc431_86).1 ?_
             refine g_aload X85 hx hby at_434 rfl rfl ?_
             refine g_at 436 rfl rfl rfl ?_
             refine g_astore X85 hx hby at_436 rfl (l' := #[.val (.int fl), .val (.long px), .second, .val (.long py), .second, .val (.long pz), .second, .val (.int bu), .val (.ref sd), .val (.int ua0), .val (.int ua1), .val (.int ua2), .val (.int A0), .val (.int A1), .val (.int A2), .val (.int M9), .val (.long q0), .second, .val (.long q1), .second, .val (.long q2), .second, .val (.ref b11), .val (.ref b14), .val (.ref b17), .val (.ref b20), .val (.int (1 : Int32)), .val (.int (1 : Int32)), .val (.int (1 : Int32)), .val (.ref b17), .val (.long q0), .second, .unset]) rfl ?_
             refine g_lload X85 hx hby at_438 rfl ?_
             refine g_lstore X85 hx hby at_440 (l' := #[.val (.int fl), .val (.long px), .second, .val (.long py), .second, .val (.long pz), .second, .val (.int bu), .val (.ref sd), .val (.int ua0), .val (.int ua1), .val (.int ua2), .val (.int A0), .val (.int A1), .val (.int A2), .val (.int M9), .val (.long q0), .second, .val (.long q1), .second, .val (.long q2), .second, .val (.ref b11), .val (.ref b14), .val (.ref b17), .val (.ref b20), .val (.int (1 : Int32)), .val (.int (1 : Int32)), .val (.int (1 : Int32)), .val (.ref b17), .val (.long q1), .second, .unset]) rfl ?_
             refine g_iload X85 hx hby at_442 rfl ?_
             refine g_ifN X85 hx hby at_444 (feq (by decide : ¬ ((1 : Int32) = (0 : Int32)))).1 ?_
             refine g_aload X85 hx hby at_447 rfl rfl ?_
             refine g_ifnullN X85 hx hby at_449 ?_
             refine g_iload X85 hx hby at_452 rfl ?_
             refine g_lload X85 hx hby at_454 rfl ?_
             refine g_lload X85 hx hby at_456 rfl ?_
             refine g_static X85 hx hby hZ hown (rm_beats l Z a0 hw [] bu q2 q1 h9 n0 z9 ) w149_ w150_ w151_ w152_ (by decide) eh85 (by rw [hml]; rfl) [(.int bu), (.long q2), (.long q1)] (lenOf own_pd14 rfl) rfl rfl (Nat.le_of_ble_eq_true rfl) (Nat.le_of_ble_eq_true rfl) (Nat.le_of_ble_eq_true rfl) (Nat.le_of_ble_eq_true rfl) at_458 (fun v91 T91 L91 X91 hQ91 => ?_)
             obtain ⟨rfl, N91q, eh91⟩ := hQ91
             have N91 := Fr.app N85 N91q
             by_cases hc461_92 : (own_beats bu q2 q1) = (0 : Int32)
             ·skip
              refine g_ifY X91 hx hby 472 at_461 (teq hc461_92).1 (by decide) (by decide) ?_
              refine g_aload X91 hx hby at_472 rfl rfl ?_
              refine g_virtual X91 hx hby hZ hown (rm_firW l Z a0 hw [] b11 sd b9 [(b14, q0), (b17, q1), (b20, q2)] bu ba h9 n0 z9 BK9 (own_allS h_q0 (own_allS h_q1 (own_allS h_q2 own_all0))) hsb) w60_ w61_ (notFace_of_selects (args := #[]) (mvT hZ w63_)) w63_ w62_ w10_ w64_ (by decide) eh91 (own_Bk.exa BK9) (by rw [hml]; rfl) [] (lenOf own_pd13 rfl) rfl rfl (Nat.le_of_ble_eq_true rfl) (Nat.le_of_ble_eq_true rfl) (Nat.le_of_ble_eq_true rfl) (Nat.le_of_ble_eq_true rfl) at_474 (fun v93 T93 L93 X93 hQ93 => ?_)
              obtain ⟨ev93, N93q, eh93⟩ := hQ93
              have ex93 : own_exp bu [(b14, q0), (b17, q1), (b20, q2)] = (.ref b17) := by simp [own_exp, own_fold, hc431_86, hc461_92]
              rw [ex93] at ev93
              subst ev93
              have N93 := Fr.app N91 N93q
              refine g_astore X93 hx hby at_477 rfl (l' := #[.val (.int fl), .val (.long px), .second, .val (.long py), .second, .val (.long pz), .second, .val (.int bu), .val (.ref sd), .val (.int ua0), .val (.int ua1), .val (.int ua2), .val (.int A0), .val (.int A1), .val (.int A2), .val (.int M9), .val (.long q0), .second, .val (.long q1), .second, .val (.long q2), .second, .val (.ref b11), .val (.ref b14), .val (.ref b17), .val (.ref b20), .val (.int (1 : Int32)), .val (.int (1 : Int32)), .val (.int (1 : Int32)), .val (.ref b17), .val (.long q1), .second, .val (.ref b17)]) rfl ?_
              refine g_aload X93 hx hby at_479 rfl rfl ?_
              refine g_aload X93 hx hby at_481 rfl rfl ?_
              refine g_acmp X93 hx hby rfl rfl 486 true at_483 (decide_eq_true rfl) (by decide) (by decide) ?_
              refine g_iconst X93 hx hby (1 : Int32) at_486 rfl ?_
              refine g_goto X93 hx hby 491 at_487 (by decide) (by decide) ?_
              refine g_nret X93 hx hby (t := .boolean) (by simp) Bd.returns Bd.notSynchronized at_491 eh93 (by decide) (by decide) ?_
              show (Q_law Z fl px py pz ba se h0 n0) (some (.int (1 : Int32))) _ _
              exact ⟨rfl, N93⟩
             ·skip
              refine g_ifN X91 hx hby at_461 (feq hc461_92).1 ?_
              refine g_aload X91 hx hby at_464 rfl rfl ?_
              refine g_astore X91 hx hby at_466 rfl (l' := #[.val (.int fl), .val (.long px), .second, .val (.long py), .second, .val (.long pz), .second, .val (.int bu), .val (.ref sd), .val (.int ua0), .val (.int ua1), .val (.int ua2), .val (.int A0), .val (.int A1), .val (.int A2), .val (.int M9), .val (.long q0), .second, .val (.long q1), .second, .val (.long q2), .second, .val (.ref b11), .val (.ref b14), .val (.ref b17), .val (.ref b20), .val (.int (1 : Int32)), .val (.int (1 : Int32)), .val (.int (1 : Int32)), .val (.ref b20), .val (.long q1), .second, .unset]) rfl ?_
              refine g_lload X91 hx hby at_468 rfl ?_
              refine g_lstore X91 hx hby at_470 (l' := #[.val (.int fl), .val (.long px), .second, .val (.long py), .second, .val (.long pz), .second, .val (.int bu), .val (.ref sd), .val (.int ua0), .val (.int ua1), .val (.int ua2), .val (.int A0), .val (.int A1), .val (.int A2), .val (.int M9), .val (.long q0), .second, .val (.long q1), .second, .val (.long q2), .second, .val (.ref b11), .val (.ref b14), .val (.ref b17), .val (.ref b20), .val (.int (1 : Int32)), .val (.int (1 : Int32)), .val (.int (1 : Int32)), .val (.ref b20), .val (.long q2), .second, .unset]) rfl ?_
              refine g_aload X91 hx hby at_472 rfl rfl ?_
              refine g_virtual X91 hx hby hZ hown (rm_firW l Z a0 hw [] b11 sd b9 [(b14, q0), (b17, q1), (b20, q2)] bu ba h9 n0 z9 BK9 (own_allS h_q0 (own_allS h_q1 (own_allS h_q2 own_all0))) hsb) w60_ w61_ (notFace_of_selects (args := #[]) (mvT hZ w63_)) w63_ w62_ w10_ w64_ (by decide) eh91 (own_Bk.exa BK9) (by rw [hml]; rfl) [] (lenOf own_pd13 rfl) rfl rfl (Nat.le_of_ble_eq_true rfl) (Nat.le_of_ble_eq_true rfl) (Nat.le_of_ble_eq_true rfl) (Nat.le_of_ble_eq_true rfl) at_474 (fun v94 T94 L94 X94 hQ94 => ?_)
              obtain ⟨ev94, N94q, eh94⟩ := hQ94
              have ex94 : own_exp bu [(b14, q0), (b17, q1), (b20, q2)] = (.ref b20) := by simp [own_exp, own_fold, hc431_86, hc461_92]
              rw [ex94] at ev94
              subst ev94
              have N94 := Fr.app N91 N94q
              refine g_at 477 rfl rfl rfl ?_
              refine g_astore X94 hx hby at_477 rfl (l' := #[.val (.int fl), .val (.long px), .second, .val (.long py), .second, .val (.long pz), .second, .val (.int bu), .val (.ref sd), .val (.int ua0), .val (.int ua1), .val (.int ua2), .val (.int A0), .val (.int A1), .val (.int A2), .val (.int M9), .val (.long q0), .second, .val (.long q1), .second, .val (.long q2), .second, .val (.ref b11), .val (.ref b14), .val (.ref b17), .val (.ref b20), .val (.int (1 : Int32)), .val (.int (1 : Int32)), .val (.int (1 : Int32)), .val (.ref b20), .val (.long q2), .second, .val (.ref b20)]) rfl ?_
              refine g_aload X94 hx hby at_479 rfl rfl ?_
              refine g_aload X94 hx hby at_481 rfl rfl ?_
              refine g_acmp X94 hx hby rfl rfl 486 true at_483 (decide_eq_true rfl) (by decide) (by decide) ?_
              refine g_iconst X94 hx hby (1 : Int32) at_486 rfl ?_
              refine g_goto X94 hx hby 491 at_487 (by decide) (by decide) ?_
              refine g_nret X94 hx hby (t := .boolean) (by simp) Bd.returns Bd.notSynchronized at_491 eh94 (by decide) (by decide) ?_
              show (Q_law Z fl px py pz ba se h0 n0) (some (.int (1 : Int32))) _ _
              exact ⟨rfl, N94⟩
           rcases h_fa0 with rfl | rfl
           ·skip
            refine g_iload X21 hx hby at_251 rfl ?_
            refine g_ifY X21 hx hby 263 at_253 (teq (by decide : (0 : Int32) = (0 : Int32))).1 (by decide) (by decide) ?_
            rcases h_fa1 with rfl | rfl
            ·skip
             refine g_iload X21 hx hby at_263 rfl ?_
             refine g_ifY X21 hx hby 275 at_265 (teq (by decide : (0 : Int32) = (0 : Int32))).1 (by decide) (by decide) ?_
             rcases h_fa2 with rfl | rfl
             ·skip
              refine g_iload X21 hx hby at_275 rfl ?_
              refine g_ifY X21 hx hby 287 at_277 (teq (by decide : (0 : Int32) = (0 : Int32))).1 (by decide) (by decide) ?_
              refine g_iload X21 hx hby at_287 rfl ?_
              refine g_ifY X21 hx hby 301 at_289 (teq (by decide : (0 : Int32) = (0 : Int32))).1 (by decide) (by decide) ?_
              refine g_iconst X21 hx hby (0 : Int32) at_301 rfl ?_
              refine g_istore X21 hx hby at_302 (l' := #[.val (.int fl), .val (.long px), .second, .val (.long py), .second, .val (.long pz), .second, .val (.int bu), .val (.ref sd), .val (.int ua0), .val (.int ua1), .val (.int ua2), .val (.int (0 : Int32)), .val (.int (0 : Int32)), .val (.int (0 : Int32)), .val (.int rmv), .val (.long q0), .second, .val (.long q1), .second, .val (.long q2), .second, .val (.ref b11), .val (.ref b14), .val (.ref b17), .val (.ref b20), .val (.int (0 : Int32)), .unset, .unset, .unset, .unset, .unset, .unset]) rfl ?_
              refine g_iload X21 hx hby at_304 rfl ?_
              refine g_ifY X21 hx hby 319 at_306 (teq (by decide : (0 : Int32) = (0 : Int32))).1 (by decide) (by decide) ?_
              refine g_iconst X21 hx hby (0 : Int32) at_319 rfl ?_
              refine g_istore X21 hx hby at_320 (l' := #[.val (.int fl), .val (.long px), .second, .val (.long py), .second, .val (.long pz), .second, .val (.int bu), .val (.ref sd), .val (.int ua0), .val (.int ua1), .val (.int ua2), .val (.int (0 : Int32)), .val (.int (0 : Int32)), .val (.int (0 : Int32)), .val (.int rmv), .val (.long q0), .second, .val (.long q1), .second, .val (.long q2), .second, .val (.ref b11), .val (.ref b14), .val (.ref b17), .val (.ref b20), .val (.int (0 : Int32)), .val (.int (0 : Int32)), .unset, .unset, .unset, .unset, .unset]) rfl ?_
              refine g_iload X21 hx hby at_322 rfl ?_
              refine g_ifY X21 hx hby 337 at_324 (teq (by decide : (0 : Int32) = (0 : Int32))).1 (by decide) (by decide) ?_
              refine g_iconst X21 hx hby (0 : Int32) at_337 rfl ?_
              refine g_istore X21 hx hby at_338 (l' := #[.val (.int fl), .val (.long px), .second, .val (.long py), .second, .val (.long pz), .second, .val (.int bu), .val (.ref sd), .val (.int ua0), .val (.int ua1), .val (.int ua2), .val (.int (0 : Int32)), .val (.int (0 : Int32)), .val (.int (0 : Int32)), .val (.int rmv), .val (.long q0), .second, .val (.long q1), .second, .val (.long q2), .second, .val (.ref b11), .val (.ref b14), .val (.ref b17), .val (.ref b20), .val (.int (0 : Int32)), .val (.int (0 : Int32)), .val (.int (0 : Int32)), .unset, .unset, .unset, .unset]) rfl ?_
              refine g_iload X21 hx hby at_340 rfl ?_
              refine g_ifY X21 hx hby 357 at_342 (teq (by decide : (0 : Int32) = (0 : Int32))).1 (by decide) (by decide) ?_
              refine g_iload X21 hx hby at_357 rfl ?_
              refine g_ifY X21 hx hby 375 at_359 (teq (by decide : (0 : Int32) = (0 : Int32))).1 (by decide) (by decide) ?_
              refine g_iload X21 hx hby at_375 rfl ?_
              refine g_ifY X21 hx hby 393 at_377 (teq (by decide : (0 : Int32) = (0 : Int32))).1 (by decide) (by decide) ?_
              exact JF0 _ _ _ _ _ _ _ _ (X21.mono (by decide) (by decide)) rfl N21 z68 BK_
             ·skip
              refine g_iload X21 hx hby at_275 rfl ?_
              refine g_ifN X21 hx hby at_277 (feq (by decide : ¬ ((1 : Int32) = (0 : Int32)))).1 ?_
              refine g_aload X21 hx hby at_280 rfl rfl ?_
              refine g_aload X21 hx hby at_282 rfl rfl ?_
              refine g_virtual X21 hx hby hZ hown (rm_addW l Z a0 hw [] b11 q2 sd b20 0 [] ba T21.heap n0 z68 SB f67 BK_ OO2_ g_b20 nin0 (by decide)) w72_ w73_ (notFace_of_selects (args := #[]) (mvT hZ w75_)) w75_ w74_ w10_ w76_ (by decide) rfl (own_Bk.exa BK_) (by rw [hml]; rfl) [(.ref b20)] (lenOf own_pd15 rfl) rfl rfl (Nat.le_of_ble_eq_true rfl) (Nat.le_of_ble_eq_true rfl) (Nat.le_of_ble_eq_true rfl) (Nat.le_of_ble_eq_true rfl) at_284 (fun v95 T95 L95 X95 hQ95 => ?_)
              obtain ⟨rfl, N95q, Bq95, Ol95, K95, Oo95⟩ := hQ95
              have N95 := Fr.app N21 N95q
              have Bk95 : own_Bk Z T95.heap n0 b11 sd ba 1 [(b20, q2)] := Bq95
              by_cases hr2_ : rmv = (2 : Int32)
              ·subst hr2_
               refine g_iload X95 hx hby at_287 rfl ?_
               refine g_ifY X95 hx hby 301 at_289 (teq (by decide : (0 : Int32) = (0 : Int32))).1 (by decide) (by decide) ?_
               refine g_iconst X95 hx hby (0 : Int32) at_301 rfl ?_
               refine g_istore X95 hx hby at_302 (l' := #[.val (.int fl), .val (.long px), .second, .val (.long py), .second, .val (.long pz), .second, .val (.int bu), .val (.ref sd), .val (.int ua0), .val (.int ua1), .val (.int ua2), .val (.int (0 : Int32)), .val (.int (0 : Int32)), .val (.int (1 : Int32)), .val (.int (2 : Int32)), .val (.long q0), .second, .val (.long q1), .second, .val (.long q2), .second, .val (.ref b11), .val (.ref b14), .val (.ref b17), .val (.ref b20), .val (.int (0 : Int32)), .unset, .unset, .unset, .unset, .unset, .unset]) rfl ?_
               refine g_iload X95 hx hby at_304 rfl ?_
               refine g_ifY X95 hx hby 319 at_306 (teq (by decide : (0 : Int32) = (0 : Int32))).1 (by decide) (by decide) ?_
               refine g_iconst X95 hx hby (0 : Int32) at_319 rfl ?_
               refine g_istore X95 hx hby at_320 (l' := #[.val (.int fl), .val (.long px), .second, .val (.long py), .second, .val (.long pz), .second, .val (.int bu), .val (.ref sd), .val (.int ua0), .val (.int ua1), .val (.int ua2), .val (.int (0 : Int32)), .val (.int (0 : Int32)), .val (.int (1 : Int32)), .val (.int (2 : Int32)), .val (.long q0), .second, .val (.long q1), .second, .val (.long q2), .second, .val (.ref b11), .val (.ref b14), .val (.ref b17), .val (.ref b20), .val (.int (0 : Int32)), .val (.int (0 : Int32)), .unset, .unset, .unset, .unset, .unset]) rfl ?_
               refine g_iload X95 hx hby at_322 rfl ?_
               refine g_ifN X95 hx hby at_324 (feq (by decide : ¬ ((1 : Int32) = (0 : Int32)))).1 ?_
               refine g_iload X95 hx hby at_327 rfl ?_
               refine g_iconst X95 hx hby (2 : Int32) at_329 rfl ?_
               refine g_icY X95 hx hby 337 at_330 (teq (by decide : (2 : Int32) = (2 : Int32))).1 (by decide) (by decide) ?_
               refine g_iconst X95 hx hby (0 : Int32) at_337 rfl ?_
               refine g_istore X95 hx hby at_338 (l' := #[.val (.int fl), .val (.long px), .second, .val (.long py), .second, .val (.long pz), .second, .val (.int bu), .val (.ref sd), .val (.int ua0), .val (.int ua1), .val (.int ua2), .val (.int (0 : Int32)), .val (.int (0 : Int32)), .val (.int (1 : Int32)), .val (.int (2 : Int32)), .val (.long q0), .second, .val (.long q1), .second, .val (.long q2), .second, .val (.ref b11), .val (.ref b14), .val (.ref b17), .val (.ref b20), .val (.int (0 : Int32)), .val (.int (0 : Int32)), .val (.int (0 : Int32)), .unset, .unset, .unset, .unset]) rfl ?_
               refine g_iload X95 hx hby at_340 rfl ?_
               refine g_ifY X95 hx hby 357 at_342 (teq (by decide : (0 : Int32) = (0 : Int32))).1 (by decide) (by decide) ?_
               refine g_iload X95 hx hby at_357 rfl ?_
               refine g_ifY X95 hx hby 375 at_359 (teq (by decide : (0 : Int32) = (0 : Int32))).1 (by decide) (by decide) ?_
               refine g_iload X95 hx hby at_375 rfl ?_
               refine g_ifN X95 hx hby at_377 (feq (by decide : ¬ ((1 : Int32) = (0 : Int32)))).1 ?_
               refine g_iload X95 hx hby at_380 rfl ?_
               refine g_iconst X95 hx hby (2 : Int32) at_382 rfl ?_
               refine g_icN X95 hx hby at_383 (teq (by decide : (2 : Int32) = (2 : Int32))).2 ?_
               refine g_aload X95 hx hby at_386 rfl rfl ?_
               refine g_aload X95 hx hby at_388 rfl rfl ?_
               have z97 := (Nat.le_trans z68 K95.1)
               refine g_virtual X95 hx hby hZ hown (rm_remW l Z a0 hw [] b11 q2 sd b20 1 [] [] ba T95.heap n0 z97 SB Ol95 Bk95) w144_ w145_ (notFace_of_selects (args := #[]) (mvT hZ w147_)) w147_ w146_ w10_ w148_ (by decide) rfl (own_Bk.exa Bk95) (by rw [hml]; rfl) [(.ref b20)] (lenOf own_pd15 rfl) rfl rfl (Nat.le_of_ble_eq_true rfl) (Nat.le_of_ble_eq_true rfl) (Nat.le_of_ble_eq_true rfl) (Nat.le_of_ble_eq_true rfl) at_390 (fun v96 T96 L96 X96 hQ96 => ?_)
               obtain ⟨rfl, N96q, Bq96, K96, Ol96⟩ := hQ96
               have N96 := Fr.app N95 N96q
               have Bk96 : own_Bk Z T96.heap n0 b11 sd ba 1 [] := Bq96
               have z98 := (Nat.le_trans z97 K96.1)
               exact JF0 _ _ _ _ _ _ _ _ (X96.mono (by decide) (by decide)) rfl N96 z98 Bk96
              ·skip
               refine g_iload X95 hx hby at_287 rfl ?_
               refine g_ifY X95 hx hby 301 at_289 (teq (by decide : (0 : Int32) = (0 : Int32))).1 (by decide) (by decide) ?_
               refine g_iconst X95 hx hby (0 : Int32) at_301 rfl ?_
               refine g_istore X95 hx hby at_302 (l' := #[.val (.int fl), .val (.long px), .second, .val (.long py), .second, .val (.long pz), .second, .val (.int bu), .val (.ref sd), .val (.int ua0), .val (.int ua1), .val (.int ua2), .val (.int (0 : Int32)), .val (.int (0 : Int32)), .val (.int (1 : Int32)), .val (.int rmv), .val (.long q0), .second, .val (.long q1), .second, .val (.long q2), .second, .val (.ref b11), .val (.ref b14), .val (.ref b17), .val (.ref b20), .val (.int (0 : Int32)), .unset, .unset, .unset, .unset, .unset, .unset]) rfl ?_
               refine g_iload X95 hx hby at_304 rfl ?_
               refine g_ifY X95 hx hby 319 at_306 (teq (by decide : (0 : Int32) = (0 : Int32))).1 (by decide) (by decide) ?_
               refine g_iconst X95 hx hby (0 : Int32) at_319 rfl ?_
               refine g_istore X95 hx hby at_320 (l' := #[.val (.int fl), .val (.long px), .second, .val (.long py), .second, .val (.long pz), .second, .val (.int bu), .val (.ref sd), .val (.int ua0), .val (.int ua1), .val (.int ua2), .val (.int (0 : Int32)), .val (.int (0 : Int32)), .val (.int (1 : Int32)), .val (.int rmv), .val (.long q0), .second, .val (.long q1), .second, .val (.long q2), .second, .val (.ref b11), .val (.ref b14), .val (.ref b17), .val (.ref b20), .val (.int (0 : Int32)), .val (.int (0 : Int32)), .unset, .unset, .unset, .unset, .unset]) rfl ?_
               refine g_iload X95 hx hby at_322 rfl ?_
               refine g_ifN X95 hx hby at_324 (feq (by decide : ¬ ((1 : Int32) = (0 : Int32)))).1 ?_
               refine g_iload X95 hx hby at_327 rfl ?_
               refine g_iconst X95 hx hby (2 : Int32) at_329 rfl ?_
               refine g_icN X95 hx hby at_330 (feq (hr2_ : ¬ (rmv = (2 : Int32)))).1 ?_
               refine g_iconst X95 hx hby (1 : Int32) at_333 rfl ?_
               refine g_goto X95 hx hby 338 at_334 (by decide) (by decide) ?_
               refine g_istore X95 hx hby at_338 (l' := #[.val (.int fl), .val (.long px), .second, .val (.long py), .second, .val (.long pz), .second, .val (.int bu), .val (.ref sd), .val (.int ua0), .val (.int ua1), .val (.int ua2), .val (.int (0 : Int32)), .val (.int (0 : Int32)), .val (.int (1 : Int32)), .val (.int rmv), .val (.long q0), .second, .val (.long q1), .second, .val (.long q2), .second, .val (.ref b11), .val (.ref b14), .val (.ref b17), .val (.ref b20), .val (.int (0 : Int32)), .val (.int (0 : Int32)), .val (.int (1 : Int32)), .unset, .unset, .unset, .unset]) rfl ?_
               refine g_iload X95 hx hby at_340 rfl ?_
               refine g_ifY X95 hx hby 357 at_342 (teq (by decide : (0 : Int32) = (0 : Int32))).1 (by decide) (by decide) ?_
               refine g_iload X95 hx hby at_357 rfl ?_
               refine g_ifY X95 hx hby 375 at_359 (teq (by decide : (0 : Int32) = (0 : Int32))).1 (by decide) (by decide) ?_
               refine g_iload X95 hx hby at_375 rfl ?_
               refine g_ifN X95 hx hby at_377 (feq (by decide : ¬ ((1 : Int32) = (0 : Int32)))).1 ?_
               refine g_iload X95 hx hby at_380 rfl ?_
               refine g_iconst X95 hx hby (2 : Int32) at_382 rfl ?_
               refine g_icY X95 hx hby 393 at_383 (feq (hr2_ : ¬ (rmv = (2 : Int32)))).2 (by decide) (by decide) ?_
               have z99 := (Nat.le_trans z68 K95.1)
               exact JF4 _ _ _ _ _ _ _ _ (X95.mono (by decide) (by decide)) rfl N95 z99 Bk95
            ·skip
             refine g_iload X21 hx hby at_263 rfl ?_
             refine g_ifN X21 hx hby at_265 (feq (by decide : ¬ ((1 : Int32) = (0 : Int32)))).1 ?_
             refine g_aload X21 hx hby at_268 rfl rfl ?_
             refine g_aload X21 hx hby at_270 rfl rfl ?_
             refine g_virtual X21 hx hby hZ hown (rm_addW l Z a0 hw [] b11 q1 sd b17 0 [] ba T21.heap n0 z68 SB f67 BK_ OO1_ g_b17 nin0 (by decide)) w72_ w73_ (notFace_of_selects (args := #[]) (mvT hZ w75_)) w75_ w74_ w10_ w76_ (by decide) rfl (own_Bk.exa BK_) (by rw [hml]; rfl) [(.ref b17)] (lenOf own_pd15 rfl) rfl rfl (Nat.le_of_ble_eq_true rfl) (Nat.le_of_ble_eq_true rfl) (Nat.le_of_ble_eq_true rfl) (Nat.le_of_ble_eq_true rfl) at_272 (fun v100 T100 L100 X100 hQ100 => ?_)
             obtain ⟨rfl, N100q, Bq100, Ol100, K100, Oo100⟩ := hQ100
             have N100 := Fr.app N21 N100q
             have Bk100 : own_Bk Z T100.heap n0 b11 sd ba 1 [(b17, q1)] := Bq100
             have Oo100_2 := Oo100 _ _ OO2_ (ninS (Ne.symm ne25) nin0)
             rcases h_fa2 with rfl | rfl
             ·skip
              refine g_iload X100 hx hby at_275 rfl ?_
              refine g_ifY X100 hx hby 287 at_277 (teq (by decide : (0 : Int32) = (0 : Int32))).1 (by decide) (by decide) ?_
              by_cases hr1_ : rmv = (1 : Int32)
              ·subst hr1_
               refine g_iload X100 hx hby at_287 rfl ?_
               refine g_ifY X100 hx hby 301 at_289 (teq (by decide : (0 : Int32) = (0 : Int32))).1 (by decide) (by decide) ?_
               refine g_iconst X100 hx hby (0 : Int32) at_301 rfl ?_
               refine g_istore X100 hx hby at_302 (l' := #[.val (.int fl), .val (.long px), .second, .val (.long py), .second, .val (.long pz), .second, .val (.int bu), .val (.ref sd), .val (.int ua0), .val (.int ua1), .val (.int ua2), .val (.int (0 : Int32)), .val (.int (1 : Int32)), .val (.int (0 : Int32)), .val (.int (1 : Int32)), .val (.long q0), .second, .val (.long q1), .second, .val (.long q2), .second, .val (.ref b11), .val (.ref b14), .val (.ref b17), .val (.ref b20), .val (.int (0 : Int32)), .unset, .unset, .unset, .unset, .unset, .unset]) rfl ?_
               refine g_iload X100 hx hby at_304 rfl ?_
               refine g_ifN X100 hx hby at_306 (feq (by decide : ¬ ((1 : Int32) = (0 : Int32)))).1 ?_
               refine g_iload X100 hx hby at_309 rfl ?_
               refine g_iconst X100 hx hby (1 : Int32) at_311 rfl ?_
               refine g_icY X100 hx hby 319 at_312 (teq (by decide : (1 : Int32) = (1 : Int32))).1 (by decide) (by decide) ?_
               refine g_iconst X100 hx hby (0 : Int32) at_319 rfl ?_
               refine g_istore X100 hx hby at_320 (l' := #[.val (.int fl), .val (.long px), .second, .val (.long py), .second, .val (.long pz), .second, .val (.int bu), .val (.ref sd), .val (.int ua0), .val (.int ua1), .val (.int ua2), .val (.int (0 : Int32)), .val (.int (1 : Int32)), .val (.int (0 : Int32)), .val (.int (1 : Int32)), .val (.long q0), .second, .val (.long q1), .second, .val (.long q2), .second, .val (.ref b11), .val (.ref b14), .val (.ref b17), .val (.ref b20), .val (.int (0 : Int32)), .val (.int (0 : Int32)), .unset, .unset, .unset, .unset, .unset]) rfl ?_
               refine g_iload X100 hx hby at_322 rfl ?_
               refine g_ifY X100 hx hby 337 at_324 (teq (by decide : (0 : Int32) = (0 : Int32))).1 (by decide) (by decide) ?_
               refine g_iconst X100 hx hby (0 : Int32) at_337 rfl ?_
               refine g_istore X100 hx hby at_338 (l' := #[.val (.int fl), .val (.long px), .second, .val (.long py), .second, .val (.long pz), .second, .val (.int bu), .val (.ref sd), .val (.int ua0), .val (.int ua1), .val (.int ua2), .val (.int (0 : Int32)), .val (.int (1 : Int32)), .val (.int (0 : Int32)), .val (.int (1 : Int32)), .val (.long q0), .second, .val (.long q1), .second, .val (.long q2), .second, .val (.ref b11), .val (.ref b14), .val (.ref b17), .val (.ref b20), .val (.int (0 : Int32)), .val (.int (0 : Int32)), .val (.int (0 : Int32)), .unset, .unset, .unset, .unset]) rfl ?_
               refine g_iload X100 hx hby at_340 rfl ?_
               refine g_ifY X100 hx hby 357 at_342 (teq (by decide : (0 : Int32) = (0 : Int32))).1 (by decide) (by decide) ?_
               refine g_iload X100 hx hby at_357 rfl ?_
               refine g_ifN X100 hx hby at_359 (feq (by decide : ¬ ((1 : Int32) = (0 : Int32)))).1 ?_
               refine g_iload X100 hx hby at_362 rfl ?_
               refine g_iconst X100 hx hby (1 : Int32) at_364 rfl ?_
               refine g_icN X100 hx hby at_365 (teq (by decide : (1 : Int32) = (1 : Int32))).2 ?_
               refine g_aload X100 hx hby at_368 rfl rfl ?_
               refine g_aload X100 hx hby at_370 rfl rfl ?_
               have z102 := (Nat.le_trans z68 K100.1)
               refine g_virtual X100 hx hby hZ hown (rm_remW l Z a0 hw [] b11 q1 sd b17 1 [] [] ba T100.heap n0 z102 SB Ol100 Bk100) w144_ w145_ (notFace_of_selects (args := #[]) (mvT hZ w147_)) w147_ w146_ w10_ w148_ (by decide) rfl (own_Bk.exa Bk100) (by rw [hml]; rfl) [(.ref b17)] (lenOf own_pd15 rfl) rfl rfl (Nat.le_of_ble_eq_true rfl) (Nat.le_of_ble_eq_true rfl) (Nat.le_of_ble_eq_true rfl) (Nat.le_of_ble_eq_true rfl) at_372 (fun v101 T101 L101 X101 hQ101 => ?_)
               obtain ⟨rfl, N101q, Bq101, K101, Ol101⟩ := hQ101
               have N101 := Fr.app N100 N101q
               have Bk101 : own_Bk Z T101.heap n0 b11 sd ba 1 [] := Bq101
               refine g_iload X101 hx hby at_375 rfl ?_
               refine g_ifY X101 hx hby 393 at_377 (teq (by decide : (0 : Int32) = (0 : Int32))).1 (by decide) (by decide) ?_
               have z103 := (Nat.le_trans z102 K101.1)
               exact JF0 _ _ _ _ _ _ _ _ (X101.mono (by decide) (by decide)) rfl N101 z103 Bk101
              ·skip
               refine g_iload X100 hx hby at_287 rfl ?_
               refine g_ifY X100 hx hby 301 at_289 (teq (by decide : (0 : Int32) = (0 : Int32))).1 (by decide) (by decide) ?_
               refine g_iconst X100 hx hby (0 : Int32) at_301 rfl ?_
               refine g_istore X100 hx hby at_302 (l' := #[.val (.int fl), .val (.long px), .second, .val (.long py), .second, .val (.long pz), .second, .val (.int bu), .val (.ref sd), .val (.int ua0), .val (.int ua1), .val (.int ua2), .val (.int (0 : Int32)), .val (.int (1 : Int32)), .val (.int (0 : Int32)), .val (.int rmv), .val (.long q0), .second, .val (.long q1), .second, .val (.long q2), .second, .val (.ref b11), .val (.ref b14), .val (.ref b17), .val (.ref b20), .val (.int (0 : Int32)), .unset, .unset, .unset, .unset, .unset, .unset]) rfl ?_
               refine g_iload X100 hx hby at_304 rfl ?_
               refine g_ifN X100 hx hby at_306 (feq (by decide : ¬ ((1 : Int32) = (0 : Int32)))).1 ?_
               refine g_iload X100 hx hby at_309 rfl ?_
               refine g_iconst X100 hx hby (1 : Int32) at_311 rfl ?_
               refine g_icN X100 hx hby at_312 (feq (hr1_ : ¬ (rmv = (1 : Int32)))).1 ?_
               refine g_iconst X100 hx hby (1 : Int32) at_315 rfl ?_
               refine g_goto X100 hx hby 320 at_316 (by decide) (by decide) ?_
               refine g_istore X100 hx hby at_320 (l' := #[.val (.int fl), .val (.long px), .second, .val (.long py), .second, .val (.long pz), .second, .val (.int bu), .val (.ref sd), .val (.int ua0), .val (.int ua1), .val (.int ua2), .val (.int (0 : Int32)), .val (.int (1 : Int32)), .val (.int (0 : Int32)), .val (.int rmv), .val (.long q0), .second, .val (.long q1), .second, .val (.long q2), .second, .val (.ref b11), .val (.ref b14), .val (.ref b17), .val (.ref b20), .val (.int (0 : Int32)), .val (.int (1 : Int32)), .unset, .unset, .unset, .unset, .unset]) rfl ?_
               refine g_iload X100 hx hby at_322 rfl ?_
               refine g_ifY X100 hx hby 337 at_324 (teq (by decide : (0 : Int32) = (0 : Int32))).1 (by decide) (by decide) ?_
               refine g_iconst X100 hx hby (0 : Int32) at_337 rfl ?_
               refine g_istore X100 hx hby at_338 (l' := #[.val (.int fl), .val (.long px), .second, .val (.long py), .second, .val (.long pz), .second, .val (.int bu), .val (.ref sd), .val (.int ua0), .val (.int ua1), .val (.int ua2), .val (.int (0 : Int32)), .val (.int (1 : Int32)), .val (.int (0 : Int32)), .val (.int rmv), .val (.long q0), .second, .val (.long q1), .second, .val (.long q2), .second, .val (.ref b11), .val (.ref b14), .val (.ref b17), .val (.ref b20), .val (.int (0 : Int32)), .val (.int (1 : Int32)), .val (.int (0 : Int32)), .unset, .unset, .unset, .unset]) rfl ?_
               refine g_iload X100 hx hby at_340 rfl ?_
               refine g_ifY X100 hx hby 357 at_342 (teq (by decide : (0 : Int32) = (0 : Int32))).1 (by decide) (by decide) ?_
               refine g_iload X100 hx hby at_357 rfl ?_
               refine g_ifN X100 hx hby at_359 (feq (by decide : ¬ ((1 : Int32) = (0 : Int32)))).1 ?_
               refine g_iload X100 hx hby at_362 rfl ?_
               refine g_iconst X100 hx hby (1 : Int32) at_364 rfl ?_
               refine g_icY X100 hx hby 375 at_365 (feq (hr1_ : ¬ (rmv = (1 : Int32)))).2 (by decide) (by decide) ?_
               refine g_iload X100 hx hby at_375 rfl ?_
               refine g_ifY X100 hx hby 393 at_377 (teq (by decide : (0 : Int32) = (0 : Int32))).1 (by decide) (by decide) ?_
               have z104 := (Nat.le_trans z68 K100.1)
               exact JF2 _ _ _ _ _ _ _ _ (X100.mono (by decide) (by decide)) rfl N100 z104 Bk100
             ·skip
              refine g_iload X100 hx hby at_275 rfl ?_
              refine g_ifN X100 hx hby at_277 (feq (by decide : ¬ ((1 : Int32) = (0 : Int32)))).1 ?_
              refine g_aload X100 hx hby at_280 rfl rfl ?_
              refine g_aload X100 hx hby at_282 rfl rfl ?_
              have z106 := (Nat.le_trans z68 K100.1)
              refine g_virtual X100 hx hby hZ hown (rm_addW l Z a0 hw [] b11 q2 sd b20 1 [(b17, q1)] ba T100.heap n0 z106 SB Ol100 Bk100 Oo100_2 g_b20 (ninS (Ne.symm ne25) nin0) (by decide)) w72_ w73_ (notFace_of_selects (args := #[]) (mvT hZ w75_)) w75_ w74_ w10_ w76_ (by decide) rfl (own_Bk.exa Bk100) (by rw [hml]; rfl) [(.ref b20)] (lenOf own_pd15 rfl) rfl rfl (Nat.le_of_ble_eq_true rfl) (Nat.le_of_ble_eq_true rfl) (Nat.le_of_ble_eq_true rfl) (Nat.le_of_ble_eq_true rfl) at_284 (fun v105 T105 L105 X105 hQ105 => ?_)
              obtain ⟨rfl, N105q, Bq105, Ol105, K105, Oo105⟩ := hQ105
              have N105 := Fr.app N100 N105q
              have Bk105 : own_Bk Z T105.heap n0 b11 sd ba 2 [(b17, q1), (b20, q2)] := Bq105
              by_cases hr1_ : rmv = (1 : Int32)
              ·subst hr1_
               refine g_iload X105 hx hby at_287 rfl ?_
               refine g_ifY X105 hx hby 301 at_289 (teq (by decide : (0 : Int32) = (0 : Int32))).1 (by decide) (by decide) ?_
               refine g_iconst X105 hx hby (0 : Int32) at_301 rfl ?_
               refine g_istore X105 hx hby at_302 (l' := #[.val (.int fl), .val (.long px), .second, .val (.long py), .second, .val (.long pz), .second, .val (.int bu), .val (.ref sd), .val (.int ua0), .val (.int ua1), .val (.int ua2), .val (.int (0 : Int32)), .val (.int (1 : Int32)), .val (.int (1 : Int32)), .val (.int (1 : Int32)), .val (.long q0), .second, .val (.long q1), .second, .val (.long q2), .second, .val (.ref b11), .val (.ref b14), .val (.ref b17), .val (.ref b20), .val (.int (0 : Int32)), .unset, .unset, .unset, .unset, .unset, .unset]) rfl ?_
               refine g_iload X105 hx hby at_304 rfl ?_
               refine g_ifN X105 hx hby at_306 (feq (by decide : ¬ ((1 : Int32) = (0 : Int32)))).1 ?_
               refine g_iload X105 hx hby at_309 rfl ?_
               refine g_iconst X105 hx hby (1 : Int32) at_311 rfl ?_
               refine g_icY X105 hx hby 319 at_312 (teq (by decide : (1 : Int32) = (1 : Int32))).1 (by decide) (by decide) ?_
               refine g_iconst X105 hx hby (0 : Int32) at_319 rfl ?_
               refine g_istore X105 hx hby at_320 (l' := #[.val (.int fl), .val (.long px), .second, .val (.long py), .second, .val (.long pz), .second, .val (.int bu), .val (.ref sd), .val (.int ua0), .val (.int ua1), .val (.int ua2), .val (.int (0 : Int32)), .val (.int (1 : Int32)), .val (.int (1 : Int32)), .val (.int (1 : Int32)), .val (.long q0), .second, .val (.long q1), .second, .val (.long q2), .second, .val (.ref b11), .val (.ref b14), .val (.ref b17), .val (.ref b20), .val (.int (0 : Int32)), .val (.int (0 : Int32)), .unset, .unset, .unset, .unset, .unset]) rfl ?_
               refine g_iload X105 hx hby at_322 rfl ?_
               refine g_ifN X105 hx hby at_324 (feq (by decide : ¬ ((1 : Int32) = (0 : Int32)))).1 ?_
               refine g_iload X105 hx hby at_327 rfl ?_
               refine g_iconst X105 hx hby (2 : Int32) at_329 rfl ?_
               refine g_icN X105 hx hby at_330 (feq (by decide : ¬ ((1 : Int32) = (2 : Int32)))).1 ?_
               refine g_iconst X105 hx hby (1 : Int32) at_333 rfl ?_
               refine g_goto X105 hx hby 338 at_334 (by decide) (by decide) ?_
               refine g_istore X105 hx hby at_338 (l' := #[.val (.int fl), .val (.long px), .second, .val (.long py), .second, .val (.long pz), .second, .val (.int bu), .val (.ref sd), .val (.int ua0), .val (.int ua1), .val (.int ua2), .val (.int (0 : Int32)), .val (.int (1 : Int32)), .val (.int (1 : Int32)), .val (.int (1 : Int32)), .val (.long q0), .second, .val (.long q1), .second, .val (.long q2), .second, .val (.ref b11), .val (.ref b14), .val (.ref b17), .val (.ref b20), .val (.int (0 : Int32)), .val (.int (0 : Int32)), .val (.int (1 : Int32)), .unset, .unset, .unset, .unset]) rfl ?_
               refine g_iload X105 hx hby at_340 rfl ?_
               refine g_ifY X105 hx hby 357 at_342 (teq (by decide : (0 : Int32) = (0 : Int32))).1 (by decide) (by decide) ?_
               refine g_iload X105 hx hby at_357 rfl ?_
               refine g_ifN X105 hx hby at_359 (feq (by decide : ¬ ((1 : Int32) = (0 : Int32)))).1 ?_
               refine g_iload X105 hx hby at_362 rfl ?_
               refine g_iconst X105 hx hby (1 : Int32) at_364 rfl ?_
               refine g_icN X105 hx hby at_365 (teq (by decide : (1 : Int32) = (1 : Int32))).2 ?_
               refine g_aload X105 hx hby at_368 rfl rfl ?_
               refine g_aload X105 hx hby at_370 rfl rfl ?_
               have z108 := (Nat.le_trans z106 K105.1)
               refine g_virtual X105 hx hby hZ hown (rm_remW l Z a0 hw [] b11 q1 sd b17 2 [] [(b20, q2)] ba T105.heap n0 z108 SB Ol105 Bk105) w144_ w145_ (notFace_of_selects (args := #[]) (mvT hZ w147_)) w147_ w146_ w10_ w148_ (by decide) rfl (own_Bk.exa Bk105) (by rw [hml]; rfl) [(.ref b17)] (lenOf own_pd15 rfl) rfl rfl (Nat.le_of_ble_eq_true rfl) (Nat.le_of_ble_eq_true rfl) (Nat.le_of_ble_eq_true rfl) (Nat.le_of_ble_eq_true rfl) at_372 (fun v107 T107 L107 X107 hQ107 => ?_)
               obtain ⟨rfl, N107q, Bq107, K107, Ol107⟩ := hQ107
               have N107 := Fr.app N105 N107q
               have Bk107 : own_Bk Z T107.heap n0 b11 sd ba 2 [(b20, q2)] := Bq107
               refine g_iload X107 hx hby at_375 rfl ?_
               refine g_ifN X107 hx hby at_377 (feq (by decide : ¬ ((1 : Int32) = (0 : Int32)))).1 ?_
               refine g_iload X107 hx hby at_380 rfl ?_
               refine g_iconst X107 hx hby (2 : Int32) at_382 rfl ?_
               refine g_icY X107 hx hby 393 at_383 (feq (by decide : ¬ ((1 : Int32) = (2 : Int32)))).2 (by decide) (by decide) ?_
               have z109 := (Nat.le_trans z108 K107.1)
               exact JF4 _ _ _ _ _ _ _ _ (X107.mono (by decide) (by decide)) rfl N107 z109 Bk107
              ·skip
               by_cases hr2_ : rmv = (2 : Int32)
               ·subst hr2_
                refine g_iload X105 hx hby at_287 rfl ?_
                refine g_ifY X105 hx hby 301 at_289 (teq (by decide : (0 : Int32) = (0 : Int32))).1 (by decide) (by decide) ?_
                refine g_iconst X105 hx hby (0 : Int32) at_301 rfl ?_
                refine g_istore X105 hx hby at_302 (l' := #[.val (.int fl), .val (.long px), .second, .val (.long py), .second, .val (.long pz), .second, .val (.int bu), .val (.ref sd), .val (.int ua0), .val (.int ua1), .val (.int ua2), .val (.int (0 : Int32)), .val (.int (1 : Int32)), .val (.int (1 : Int32)), .val (.int (2 : Int32)), .val (.long q0), .second, .val (.long q1), .second, .val (.long q2), .second, .val (.ref b11), .val (.ref b14), .val (.ref b17), .val (.ref b20), .val (.int (0 : Int32)), .unset, .unset, .unset, .unset, .unset, .unset]) rfl ?_
                refine g_iload X105 hx hby at_304 rfl ?_
                refine g_ifN X105 hx hby at_306 (feq (by decide : ¬ ((1 : Int32) = (0 : Int32)))).1 ?_
                refine g_iload X105 hx hby at_309 rfl ?_
                refine g_iconst X105 hx hby (1 : Int32) at_311 rfl ?_
                refine g_icN X105 hx hby at_312 (feq (by decide : ¬ ((2 : Int32) = (1 : Int32)))).1 ?_
                refine g_iconst X105 hx hby (1 : Int32) at_315 rfl ?_
                refine g_goto X105 hx hby 320 at_316 (by decide) (by decide) ?_
                refine g_istore X105 hx hby at_320 (l' := #[.val (.int fl), .val (.long px), .second, .val (.long py), .second, .val (.long pz), .second, .val (.int bu), .val (.ref sd), .val (.int ua0), .val (.int ua1), .val (.int ua2), .val (.int (0 : Int32)), .val (.int (1 : Int32)), .val (.int (1 : Int32)), .val (.int (2 : Int32)), .val (.long q0), .second, .val (.long q1), .second, .val (.long q2), .second, .val (.ref b11), .val (.ref b14), .val (.ref b17), .val (.ref b20), .val (.int (0 : Int32)), .val (.int (1 : Int32)), .unset, .unset, .unset, .unset, .unset]) rfl ?_
                refine g_iload X105 hx hby at_322 rfl ?_
                refine g_ifN X105 hx hby at_324 (feq (by decide : ¬ ((1 : Int32) = (0 : Int32)))).1 ?_
                refine g_iload X105 hx hby at_327 rfl ?_
                refine g_iconst X105 hx hby (2 : Int32) at_329 rfl ?_
                refine g_icY X105 hx hby 337 at_330 (teq (by decide : (2 : Int32) = (2 : Int32))).1 (by decide) (by decide) ?_
                refine g_iconst X105 hx hby (0 : Int32) at_337 rfl ?_
                refine g_istore X105 hx hby at_338 (l' := #[.val (.int fl), .val (.long px), .second, .val (.long py), .second, .val (.long pz), .second, .val (.int bu), .val (.ref sd), .val (.int ua0), .val (.int ua1), .val (.int ua2), .val (.int (0 : Int32)), .val (.int (1 : Int32)), .val (.int (1 : Int32)), .val (.int (2 : Int32)), .val (.long q0), .second, .val (.long q1), .second, .val (.long q2), .second, .val (.ref b11), .val (.ref b14), .val (.ref b17), .val (.ref b20), .val (.int (0 : Int32)), .val (.int (1 : Int32)), .val (.int (0 : Int32)), .unset, .unset, .unset, .unset]) rfl ?_
                refine g_iload X105 hx hby at_340 rfl ?_
                refine g_ifY X105 hx hby 357 at_342 (teq (by decide : (0 : Int32) = (0 : Int32))).1 (by decide) (by decide) ?_
                refine g_iload X105 hx hby at_357 rfl ?_
                refine g_ifN X105 hx hby at_359 (feq (by decide : ¬ ((1 : Int32) = (0 : Int32)))).1 ?_
                refine g_iload X105 hx hby at_362 rfl ?_
                refine g_iconst X105 hx hby (1 : Int32) at_364 rfl ?_
                refine g_icY X105 hx hby 375 at_365 (feq (by decide : ¬ ((2 : Int32) = (1 : Int32)))).2 (by decide) (by decide) ?_
                refine g_iload X105 hx hby at_375 rfl ?_
                refine g_ifN X105 hx hby at_377 (feq (by decide : ¬ ((1 : Int32) = (0 : Int32)))).1 ?_
                refine g_iload X105 hx hby at_380 rfl ?_
                refine g_iconst X105 hx hby (2 : Int32) at_382 rfl ?_
                refine g_icN X105 hx hby at_383 (teq (by decide : (2 : Int32) = (2 : Int32))).2 ?_
                refine g_aload X105 hx hby at_386 rfl rfl ?_
                refine g_aload X105 hx hby at_388 rfl rfl ?_
                have z111 := (Nat.le_trans z106 K105.1)
                refine g_virtual X105 hx hby hZ hown (rm_remW l Z a0 hw [] b11 q2 sd b20 2 [(b17, q1)] [] ba T105.heap n0 z111 SB Ol105 Bk105) w144_ w145_ (notFace_of_selects (args := #[]) (mvT hZ w147_)) w147_ w146_ w10_ w148_ (by decide) rfl (own_Bk.exa Bk105) (by rw [hml]; rfl) [(.ref b20)] (lenOf own_pd15 rfl) rfl rfl (Nat.le_of_ble_eq_true rfl) (Nat.le_of_ble_eq_true rfl) (Nat.le_of_ble_eq_true rfl) (Nat.le_of_ble_eq_true rfl) at_390 (fun v110 T110 L110 X110 hQ110 => ?_)
                obtain ⟨rfl, N110q, Bq110, K110, Ol110⟩ := hQ110
                have N110 := Fr.app N105 N110q
                have Bk110 : own_Bk Z T110.heap n0 b11 sd ba 2 [(b17, q1)] := Bq110
                have z112 := (Nat.le_trans z111 K110.1)
                exact JF2 _ _ _ _ _ _ _ _ (X110.mono (by decide) (by decide)) rfl N110 z112 Bk110
               ·skip
                refine g_iload X105 hx hby at_287 rfl ?_
                refine g_ifY X105 hx hby 301 at_289 (teq (by decide : (0 : Int32) = (0 : Int32))).1 (by decide) (by decide) ?_
                refine g_iconst X105 hx hby (0 : Int32) at_301 rfl ?_
                refine g_istore X105 hx hby at_302 (l' := #[.val (.int fl), .val (.long px), .second, .val (.long py), .second, .val (.long pz), .second, .val (.int bu), .val (.ref sd), .val (.int ua0), .val (.int ua1), .val (.int ua2), .val (.int (0 : Int32)), .val (.int (1 : Int32)), .val (.int (1 : Int32)), .val (.int rmv), .val (.long q0), .second, .val (.long q1), .second, .val (.long q2), .second, .val (.ref b11), .val (.ref b14), .val (.ref b17), .val (.ref b20), .val (.int (0 : Int32)), .unset, .unset, .unset, .unset, .unset, .unset]) rfl ?_
                refine g_iload X105 hx hby at_304 rfl ?_
                refine g_ifN X105 hx hby at_306 (feq (by decide : ¬ ((1 : Int32) = (0 : Int32)))).1 ?_
                refine g_iload X105 hx hby at_309 rfl ?_
                refine g_iconst X105 hx hby (1 : Int32) at_311 rfl ?_
                refine g_icN X105 hx hby at_312 (feq (hr1_ : ¬ (rmv = (1 : Int32)))).1 ?_
                refine g_iconst X105 hx hby (1 : Int32) at_315 rfl ?_
                refine g_goto X105 hx hby 320 at_316 (by decide) (by decide) ?_
                refine g_istore X105 hx hby at_320 (l' := #[.val (.int fl), .val (.long px), .second, .val (.long py), .second, .val (.long pz), .second, .val (.int bu), .val (.ref sd), .val (.int ua0), .val (.int ua1), .val (.int ua2), .val (.int (0 : Int32)), .val (.int (1 : Int32)), .val (.int (1 : Int32)), .val (.int rmv), .val (.long q0), .second, .val (.long q1), .second, .val (.long q2), .second, .val (.ref b11), .val (.ref b14), .val (.ref b17), .val (.ref b20), .val (.int (0 : Int32)), .val (.int (1 : Int32)), .unset, .unset, .unset, .unset, .unset]) rfl ?_
                refine g_iload X105 hx hby at_322 rfl ?_
                refine g_ifN X105 hx hby at_324 (feq (by decide : ¬ ((1 : Int32) = (0 : Int32)))).1 ?_
                refine g_iload X105 hx hby at_327 rfl ?_
                refine g_iconst X105 hx hby (2 : Int32) at_329 rfl ?_
                refine g_icN X105 hx hby at_330 (feq (hr2_ : ¬ (rmv = (2 : Int32)))).1 ?_
                refine g_iconst X105 hx hby (1 : Int32) at_333 rfl ?_
                refine g_goto X105 hx hby 338 at_334 (by decide) (by decide) ?_
                refine g_istore X105 hx hby at_338 (l' := #[.val (.int fl), .val (.long px), .second, .val (.long py), .second, .val (.long pz), .second, .val (.int bu), .val (.ref sd), .val (.int ua0), .val (.int ua1), .val (.int ua2), .val (.int (0 : Int32)), .val (.int (1 : Int32)), .val (.int (1 : Int32)), .val (.int rmv), .val (.long q0), .second, .val (.long q1), .second, .val (.long q2), .second, .val (.ref b11), .val (.ref b14), .val (.ref b17), .val (.ref b20), .val (.int (0 : Int32)), .val (.int (1 : Int32)), .val (.int (1 : Int32)), .unset, .unset, .unset, .unset]) rfl ?_
                refine g_iload X105 hx hby at_340 rfl ?_
                refine g_ifY X105 hx hby 357 at_342 (teq (by decide : (0 : Int32) = (0 : Int32))).1 (by decide) (by decide) ?_
                refine g_iload X105 hx hby at_357 rfl ?_
                refine g_ifN X105 hx hby at_359 (feq (by decide : ¬ ((1 : Int32) = (0 : Int32)))).1 ?_
                refine g_iload X105 hx hby at_362 rfl ?_
                refine g_iconst X105 hx hby (1 : Int32) at_364 rfl ?_
                refine g_icY X105 hx hby 375 at_365 (feq (hr1_ : ¬ (rmv = (1 : Int32)))).2 (by decide) (by decide) ?_
                refine g_iload X105 hx hby at_375 rfl ?_
                refine g_ifN X105 hx hby at_377 (feq (by decide : ¬ ((1 : Int32) = (0 : Int32)))).1 ?_
                refine g_iload X105 hx hby at_380 rfl ?_
                refine g_iconst X105 hx hby (2 : Int32) at_382 rfl ?_
                refine g_icY X105 hx hby 393 at_383 (feq (hr2_ : ¬ (rmv = (2 : Int32)))).2 (by decide) (by decide) ?_
                have z113 := (Nat.le_trans z106 K105.1)
                exact JF6 _ _ _ _ _ _ _ _ (X105.mono (by decide) (by decide)) rfl N105 z113 Bk105
           ·skip
            refine g_iload X21 hx hby at_251 rfl ?_
            refine g_ifN X21 hx hby at_253 (feq (by decide : ¬ ((1 : Int32) = (0 : Int32)))).1 ?_
            refine g_aload X21 hx hby at_256 rfl rfl ?_
            refine g_aload X21 hx hby at_258 rfl rfl ?_
            refine g_virtual X21 hx hby hZ hown (rm_addW l Z a0 hw [] b11 q0 sd b14 0 [] ba T21.heap n0 z68 SB f67 BK_ OO0_ g_b14 nin0 (by decide)) w72_ w73_ (notFace_of_selects (args := #[]) (mvT hZ w75_)) w75_ w74_ w10_ w76_ (by decide) rfl (own_Bk.exa BK_) (by rw [hml]; rfl) [(.ref b14)] (lenOf own_pd15 rfl) rfl rfl (Nat.le_of_ble_eq_true rfl) (Nat.le_of_ble_eq_true rfl) (Nat.le_of_ble_eq_true rfl) (Nat.le_of_ble_eq_true rfl) at_260 (fun v114 T114 L114 X114 hQ114 => ?_)
            obtain ⟨rfl, N114q, Bq114, Ol114, K114, Oo114⟩ := hQ114
            have N114 := Fr.app N21 N114q
            have Bk114 : own_Bk Z T114.heap n0 b11 sd ba 1 [(b14, q0)] := Bq114
            have Oo114_1 := Oo114 _ _ OO1_ (ninS (Ne.symm ne23) nin0)
            have Oo114_2 := Oo114 _ _ OO2_ (ninS (Ne.symm ne24) nin0)
            rcases h_fa1 with rfl | rfl
            ·skip
             refine g_iload X114 hx hby at_263 rfl ?_
             refine g_ifY X114 hx hby 275 at_265 (teq (by decide : (0 : Int32) = (0 : Int32))).1 (by decide) (by decide) ?_
             rcases h_fa2 with rfl | rfl
             ·skip
              refine g_iload X114 hx hby at_275 rfl ?_
              refine g_ifY X114 hx hby 287 at_277 (teq (by decide : (0 : Int32) = (0 : Int32))).1 (by decide) (by decide) ?_
              by_cases hr0_ : rmv = (0 : Int32)
              ·subst hr0_
               refine g_iload X114 hx hby at_287 rfl ?_
               refine g_ifN X114 hx hby at_289 (feq (by decide : ¬ ((1 : Int32) = (0 : Int32)))).1 ?_
               refine g_iload X114 hx hby at_292 rfl ?_
               refine g_ifY X114 hx hby 301 at_294 (teq (by decide : (0 : Int32) = (0 : Int32))).1 (by decide) (by decide) ?_
               refine g_iconst X114 hx hby (0 : Int32) at_301 rfl ?_
               refine g_istore X114 hx hby at_302 (l' := #[.val (.int fl), .val (.long px), .second, .val (.long py), .second, .val (.long pz), .second, .val (.int bu), .val (.ref sd), .val (.int ua0), .val (.int ua1), .val (.int ua2), .val (.int (1 : Int32)), .val (.int (0 : Int32)), .val (.int (0 : Int32)), .val (.int (0 : Int32)), .val (.long q0), .second, .val (.long q1), .second, .val (.long q2), .second, .val (.ref b11), .val (.ref b14), .val (.ref b17), .val (.ref b20), .val (.int (0 : Int32)), .unset, .unset, .unset, .unset, .unset, .unset]) rfl ?_
               refine g_iload X114 hx hby at_304 rfl ?_
               refine g_ifY X114 hx hby 319 at_306 (teq (by decide : (0 : Int32) = (0 : Int32))).1 (by decide) (by decide) ?_
               refine g_iconst X114 hx hby (0 : Int32) at_319 rfl ?_
               refine g_istore X114 hx hby at_320 (l' := #[.val (.int fl), .val (.long px), .second, .val (.long py), .second, .val (.long pz), .second, .val (.int bu), .val (.ref sd), .val (.int ua0), .val (.int ua1), .val (.int ua2), .val (.int (1 : Int32)), .val (.int (0 : Int32)), .val (.int (0 : Int32)), .val (.int (0 : Int32)), .val (.long q0), .second, .val (.long q1), .second, .val (.long q2), .second, .val (.ref b11), .val (.ref b14), .val (.ref b17), .val (.ref b20), .val (.int (0 : Int32)), .val (.int (0 : Int32)), .unset, .unset, .unset, .unset, .unset]) rfl ?_
               refine g_iload X114 hx hby at_322 rfl ?_
               refine g_ifY X114 hx hby 337 at_324 (teq (by decide : (0 : Int32) = (0 : Int32))).1 (by decide) (by decide) ?_
               refine g_iconst X114 hx hby (0 : Int32) at_337 rfl ?_
               refine g_istore X114 hx hby at_338 (l' := #[.val (.int fl), .val (.long px), .second, .val (.long py), .second, .val (.long pz), .second, .val (.int bu), .val (.ref sd), .val (.int ua0), .val (.int ua1), .val (.int ua2), .val (.int (1 : Int32)), .val (.int (0 : Int32)), .val (.int (0 : Int32)), .val (.int (0 : Int32)), .val (.long q0), .second, .val (.long q1), .second, .val (.long q2), .second, .val (.ref b11), .val (.ref b14), .val (.ref b17), .val (.ref b20), .val (.int (0 : Int32)), .val (.int (0 : Int32)), .val (.int (0 : Int32)), .unset, .unset, .unset, .unset]) rfl ?_
               refine g_iload X114 hx hby at_340 rfl ?_
               refine g_ifN X114 hx hby at_342 (feq (by decide : ¬ ((1 : Int32) = (0 : Int32)))).1 ?_
               refine g_iload X114 hx hby at_345 rfl ?_
               refine g_ifN X114 hx hby at_347 (teq (by decide : (0 : Int32) = (0 : Int32))).2 ?_
               refine g_aload X114 hx hby at_350 rfl rfl ?_
               refine g_aload X114 hx hby at_352 rfl rfl ?_
               have z116 := (Nat.le_trans z68 K114.1)
               refine g_virtual X114 hx hby hZ hown (rm_remW l Z a0 hw [] b11 q0 sd b14 1 [] [] ba T114.heap n0 z116 SB Ol114 Bk114) w144_ w145_ (notFace_of_selects (args := #[]) (mvT hZ w147_)) w147_ w146_ w10_ w148_ (by decide) rfl (own_Bk.exa Bk114) (by rw [hml]; rfl) [(.ref b14)] (lenOf own_pd15 rfl) rfl rfl (Nat.le_of_ble_eq_true rfl) (Nat.le_of_ble_eq_true rfl) (Nat.le_of_ble_eq_true rfl) (Nat.le_of_ble_eq_true rfl) at_354 (fun v115 T115 L115 X115 hQ115 => ?_)
               obtain ⟨rfl, N115q, Bq115, K115, Ol115⟩ := hQ115
               have N115 := Fr.app N114 N115q
               have Bk115 : own_Bk Z T115.heap n0 b11 sd ba 1 [] := Bq115
               refine g_iload X115 hx hby at_357 rfl ?_
               refine g_ifY X115 hx hby 375 at_359 (teq (by decide : (0 : Int32) = (0 : Int32))).1 (by decide) (by decide) ?_
               refine g_iload X115 hx hby at_375 rfl ?_
               refine g_ifY X115 hx hby 393 at_377 (teq (by decide : (0 : Int32) = (0 : Int32))).1 (by decide) (by decide) ?_
               have z117 := (Nat.le_trans z116 K115.1)
               exact JF0 _ _ _ _ _ _ _ _ (X115.mono (by decide) (by decide)) rfl N115 z117 Bk115
              ·skip
               refine g_iload X114 hx hby at_287 rfl ?_
               refine g_ifN X114 hx hby at_289 (feq (by decide : ¬ ((1 : Int32) = (0 : Int32)))).1 ?_
               refine g_iload X114 hx hby at_292 rfl ?_
               refine g_ifN X114 hx hby at_294 (feq (hr0_ : ¬ (rmv = (0 : Int32)))).1 ?_
               refine g_iconst X114 hx hby (1 : Int32) at_297 rfl ?_
               refine g_goto X114 hx hby 302 at_298 (by decide) (by decide) ?_
               refine g_istore X114 hx hby at_302 (l' := #[.val (.int fl), .val (.long px), .second, .val (.long py), .second, .val (.long pz), .second, .val (.int bu), .val (.ref sd), .val (.int ua0), .val (.int ua1), .val (.int ua2), .val (.int (1 : Int32)), .val (.int (0 : Int32)), .val (.int (0 : Int32)), .val (.int rmv), .val (.long q0), .second, .val (.long q1), .second, .val (.long q2), .second, .val (.ref b11), .val (.ref b14), .val (.ref b17), .val (.ref b20), .val (.int (1 : Int32)), .unset, .unset, .unset, .unset, .unset, .unset]) rfl ?_
               refine g_iload X114 hx hby at_304 rfl ?_
               refine g_ifY X114 hx hby 319 at_306 (teq (by decide : (0 : Int32) = (0 : Int32))).1 (by decide) (by decide) ?_
               refine g_iconst X114 hx hby (0 : Int32) at_319 rfl ?_
               refine g_istore X114 hx hby at_320 (l' := #[.val (.int fl), .val (.long px), .second, .val (.long py), .second, .val (.long pz), .second, .val (.int bu), .val (.ref sd), .val (.int ua0), .val (.int ua1), .val (.int ua2), .val (.int (1 : Int32)), .val (.int (0 : Int32)), .val (.int (0 : Int32)), .val (.int rmv), .val (.long q0), .second, .val (.long q1), .second, .val (.long q2), .second, .val (.ref b11), .val (.ref b14), .val (.ref b17), .val (.ref b20), .val (.int (1 : Int32)), .val (.int (0 : Int32)), .unset, .unset, .unset, .unset, .unset]) rfl ?_
               refine g_iload X114 hx hby at_322 rfl ?_
               refine g_ifY X114 hx hby 337 at_324 (teq (by decide : (0 : Int32) = (0 : Int32))).1 (by decide) (by decide) ?_
               refine g_iconst X114 hx hby (0 : Int32) at_337 rfl ?_
               refine g_istore X114 hx hby at_338 (l' := #[.val (.int fl), .val (.long px), .second, .val (.long py), .second, .val (.long pz), .second, .val (.int bu), .val (.ref sd), .val (.int ua0), .val (.int ua1), .val (.int ua2), .val (.int (1 : Int32)), .val (.int (0 : Int32)), .val (.int (0 : Int32)), .val (.int rmv), .val (.long q0), .second, .val (.long q1), .second, .val (.long q2), .second, .val (.ref b11), .val (.ref b14), .val (.ref b17), .val (.ref b20), .val (.int (1 : Int32)), .val (.int (0 : Int32)), .val (.int (0 : Int32)), .unset, .unset, .unset, .unset]) rfl ?_
               refine g_iload X114 hx hby at_340 rfl ?_
               refine g_ifN X114 hx hby at_342 (feq (by decide : ¬ ((1 : Int32) = (0 : Int32)))).1 ?_
               refine g_iload X114 hx hby at_345 rfl ?_
               refine g_ifY X114 hx hby 357 at_347 (feq (hr0_ : ¬ (rmv = (0 : Int32)))).2 (by decide) (by decide) ?_
               refine g_iload X114 hx hby at_357 rfl ?_
               refine g_ifY X114 hx hby 375 at_359 (teq (by decide : (0 : Int32) = (0 : Int32))).1 (by decide) (by decide) ?_
               refine g_iload X114 hx hby at_375 rfl ?_
               refine g_ifY X114 hx hby 393 at_377 (teq (by decide : (0 : Int32) = (0 : Int32))).1 (by decide) (by decide) ?_
               have z118 := (Nat.le_trans z68 K114.1)
               exact JF1 _ _ _ _ _ _ _ _ (X114.mono (by decide) (by decide)) rfl N114 z118 Bk114
             ·skip
              refine g_iload X114 hx hby at_275 rfl ?_
              refine g_ifN X114 hx hby at_277 (feq (by decide : ¬ ((1 : Int32) = (0 : Int32)))).1 ?_
              refine g_aload X114 hx hby at_280 rfl rfl ?_
              refine g_aload X114 hx hby at_282 rfl rfl ?_
              have z120 := (Nat.le_trans z68 K114.1)
              refine g_virtual X114 hx hby hZ hown (rm_addW l Z a0 hw [] b11 q2 sd b20 1 [(b14, q0)] ba T114.heap n0 z120 SB Ol114 Bk114 Oo114_2 g_b20 (ninS (Ne.symm ne24) nin0) (by decide)) w72_ w73_ (notFace_of_selects (args := #[]) (mvT hZ w75_)) w75_ w74_ w10_ w76_ (by decide) rfl (own_Bk.exa Bk114) (by rw [hml]; rfl) [(.ref b20)] (lenOf own_pd15 rfl) rfl rfl (Nat.le_of_ble_eq_true rfl) (Nat.le_of_ble_eq_true rfl) (Nat.le_of_ble_eq_true rfl) (Nat.le_of_ble_eq_true rfl) at_284 (fun v119 T119 L119 X119 hQ119 => ?_)
              obtain ⟨rfl, N119q, Bq119, Ol119, K119, Oo119⟩ := hQ119
              have N119 := Fr.app N114 N119q
              have Bk119 : own_Bk Z T119.heap n0 b11 sd ba 2 [(b14, q0), (b20, q2)] := Bq119
              by_cases hr0_ : rmv = (0 : Int32)
              ·subst hr0_
               refine g_iload X119 hx hby at_287 rfl ?_
               refine g_ifN X119 hx hby at_289 (feq (by decide : ¬ ((1 : Int32) = (0 : Int32)))).1 ?_
               refine g_iload X119 hx hby at_292 rfl ?_
               refine g_ifY X119 hx hby 301 at_294 (teq (by decide : (0 : Int32) = (0 : Int32))).1 (by decide) (by decide) ?_
               refine g_iconst X119 hx hby (0 : Int32) at_301 rfl ?_
               refine g_istore X119 hx hby at_302 (l' := #[.val (.int fl), .val (.long px), .second, .val (.long py), .second, .val (.long pz), .second, .val (.int bu), .val (.ref sd), .val (.int ua0), .val (.int ua1), .val (.int ua2), .val (.int (1 : Int32)), .val (.int (0 : Int32)), .val (.int (1 : Int32)), .val (.int (0 : Int32)), .val (.long q0), .second, .val (.long q1), .second, .val (.long q2), .second, .val (.ref b11), .val (.ref b14), .val (.ref b17), .val (.ref b20), .val (.int (0 : Int32)), .unset, .unset, .unset, .unset, .unset, .unset]) rfl ?_
               refine g_iload X119 hx hby at_304 rfl ?_
               refine g_ifY X119 hx hby 319 at_306 (teq (by decide : (0 : Int32) = (0 : Int32))).1 (by decide) (by decide) ?_
               refine g_iconst X119 hx hby (0 : Int32) at_319 rfl ?_
               refine g_istore X119 hx hby at_320 (l' := #[.val (.int fl), .val (.long px), .second, .val (.long py), .second, .val (.long pz), .second, .val (.int bu), .val (.ref sd), .val (.int ua0), .val (.int ua1), .val (.int ua2), .val (.int (1 : Int32)), .val (.int (0 : Int32)), .val (.int (1 : Int32)), .val (.int (0 : Int32)), .val (.long q0), .second, .val (.long q1), .second, .val (.long q2), .second, .val (.ref b11), .val (.ref b14), .val (.ref b17), .val (.ref b20), .val (.int (0 : Int32)), .val (.int (0 : Int32)), .unset, .unset, .unset, .unset, .unset]) rfl ?_
               refine g_iload X119 hx hby at_322 rfl ?_
               refine g_ifN X119 hx hby at_324 (feq (by decide : ¬ ((1 : Int32) = (0 : Int32)))).1 ?_
               refine g_iload X119 hx hby at_327 rfl ?_
               refine g_iconst X119 hx hby (2 : Int32) at_329 rfl ?_
               refine g_icN X119 hx hby at_330 (feq (by decide : ¬ ((0 : Int32) = (2 : Int32)))).1 ?_
               refine g_iconst X119 hx hby (1 : Int32) at_333 rfl ?_
               refine g_goto X119 hx hby 338 at_334 (by decide) (by decide) ?_
               refine g_istore X119 hx hby at_338 (l' := #[.val (.int fl), .val (.long px), .second, .val (.long py), .second, .val (.long pz), .second, .val (.int bu), .val (.ref sd), .val (.int ua0), .val (.int ua1), .val (.int ua2), .val (.int (1 : Int32)), .val (.int (0 : Int32)), .val (.int (1 : Int32)), .val (.int (0 : Int32)), .val (.long q0), .second, .val (.long q1), .second, .val (.long q2), .second, .val (.ref b11), .val (.ref b14), .val (.ref b17), .val (.ref b20), .val (.int (0 : Int32)), .val (.int (0 : Int32)), .val (.int (1 : Int32)), .unset, .unset, .unset, .unset]) rfl ?_
               refine g_iload X119 hx hby at_340 rfl ?_
               refine g_ifN X119 hx hby at_342 (feq (by decide : ¬ ((1 : Int32) = (0 : Int32)))).1 ?_
               refine g_iload X119 hx hby at_345 rfl ?_
               refine g_ifN X119 hx hby at_347 (teq (by decide : (0 : Int32) = (0 : Int32))).2 ?_
               refine g_aload X119 hx hby at_350 rfl rfl ?_
               refine g_aload X119 hx hby at_352 rfl rfl ?_
               have z122 := (Nat.le_trans z120 K119.1)
               refine g_virtual X119 hx hby hZ hown (rm_remW l Z a0 hw [] b11 q0 sd b14 2 [] [(b20, q2)] ba T119.heap n0 z122 SB Ol119 Bk119) w144_ w145_ (notFace_of_selects (args := #[]) (mvT hZ w147_)) w147_ w146_ w10_ w148_ (by decide) rfl (own_Bk.exa Bk119) (by rw [hml]; rfl) [(.ref b14)] (lenOf own_pd15 rfl) rfl rfl (Nat.le_of_ble_eq_true rfl) (Nat.le_of_ble_eq_true rfl) (Nat.le_of_ble_eq_true rfl) (Nat.le_of_ble_eq_true rfl) at_354 (fun v121 T121 L121 X121 hQ121 => ?_)
               obtain ⟨rfl, N121q, Bq121, K121, Ol121⟩ := hQ121
               have N121 := Fr.app N119 N121q
               have Bk121 : own_Bk Z T121.heap n0 b11 sd ba 2 [(b20, q2)] := Bq121
               refine g_iload X121 hx hby at_357 rfl ?_
               refine g_ifY X121 hx hby 375 at_359 (teq (by decide : (0 : Int32) = (0 : Int32))).1 (by decide) (by decide) ?_
               refine g_iload X121 hx hby at_375 rfl ?_
               refine g_ifN X121 hx hby at_377 (feq (by decide : ¬ ((1 : Int32) = (0 : Int32)))).1 ?_
               refine g_iload X121 hx hby at_380 rfl ?_
               refine g_iconst X121 hx hby (2 : Int32) at_382 rfl ?_
               refine g_icY X121 hx hby 393 at_383 (feq (by decide : ¬ ((0 : Int32) = (2 : Int32)))).2 (by decide) (by decide) ?_
               have z123 := (Nat.le_trans z122 K121.1)
               exact JF4 _ _ _ _ _ _ _ _ (X121.mono (by decide) (by decide)) rfl N121 z123 Bk121
              ·skip
               by_cases hr2_ : rmv = (2 : Int32)
               ·subst hr2_
                refine g_iload X119 hx hby at_287 rfl ?_
                refine g_ifN X119 hx hby at_289 (feq (by decide : ¬ ((1 : Int32) = (0 : Int32)))).1 ?_
                refine g_iload X119 hx hby at_292 rfl ?_
                refine g_ifN X119 hx hby at_294 (feq (by decide : ¬ ((2 : Int32) = (0 : Int32)))).1 ?_
                refine g_iconst X119 hx hby (1 : Int32) at_297 rfl ?_
                refine g_goto X119 hx hby 302 at_298 (by decide) (by decide) ?_
                refine g_istore X119 hx hby at_302 (l' := #[.val (.int fl), .val (.long px), .second, .val (.long py), .second, .val (.long pz), .second, .val (.int bu), .val (.ref sd), .val (.int ua0), .val (.int ua1), .val (.int ua2), .val (.int (1 : Int32)), .val (.int (0 : Int32)), .val (.int (1 : Int32)), .val (.int (2 : Int32)), .val (.long q0), .second, .val (.long q1), .second, .val (.long q2), .second, .val (.ref b11), .val (.ref b14), .val (.ref b17), .val (.ref b20), .val (.int (1 : Int32)), .unset, .unset, .unset, .unset, .unset, .unset]) rfl ?_
                refine g_iload X119 hx hby at_304 rfl ?_
                refine g_ifY X119 hx hby 319 at_306 (teq (by decide : (0 : Int32) = (0 : Int32))).1 (by decide) (by decide) ?_
                refine g_iconst X119 hx hby (0 : Int32) at_319 rfl ?_
                refine g_istore X119 hx hby at_320 (l' := #[.val (.int fl), .val (.long px), .second, .val (.long py), .second, .val (.long pz), .second, .val (.int bu), .val (.ref sd), .val (.int ua0), .val (.int ua1), .val (.int ua2), .val (.int (1 : Int32)), .val (.int (0 : Int32)), .val (.int (1 : Int32)), .val (.int (2 : Int32)), .val (.long q0), .second, .val (.long q1), .second, .val (.long q2), .second, .val (.ref b11), .val (.ref b14), .val (.ref b17), .val (.ref b20), .val (.int (1 : Int32)), .val (.int (0 : Int32)), .unset, .unset, .unset, .unset, .unset]) rfl ?_
                refine g_iload X119 hx hby at_322 rfl ?_
                refine g_ifN X119 hx hby at_324 (feq (by decide : ¬ ((1 : Int32) = (0 : Int32)))).1 ?_
                refine g_iload X119 hx hby at_327 rfl ?_
                refine g_iconst X119 hx hby (2 : Int32) at_329 rfl ?_
                refine g_icY X119 hx hby 337 at_330 (teq (by decide : (2 : Int32) = (2 : Int32))).1 (by decide) (by decide) ?_
                refine g_iconst X119 hx hby (0 : Int32) at_337 rfl ?_
                refine g_istore X119 hx hby at_338 (l' := #[.val (.int fl), .val (.long px), .second, .val (.long py), .second, .val (.long pz), .second, .val (.int bu), .val (.ref sd), .val (.int ua0), .val (.int ua1), .val (.int ua2), .val (.int (1 : Int32)), .val (.int (0 : Int32)), .val (.int (1 : Int32)), .val (.int (2 : Int32)), .val (.long q0), .second, .val (.long q1), .second, .val (.long q2), .second, .val (.ref b11), .val (.ref b14), .val (.ref b17), .val (.ref b20), .val (.int (1 : Int32)), .val (.int (0 : Int32)), .val (.int (0 : Int32)), .unset, .unset, .unset, .unset]) rfl ?_
                refine g_iload X119 hx hby at_340 rfl ?_
                refine g_ifN X119 hx hby at_342 (feq (by decide : ¬ ((1 : Int32) = (0 : Int32)))).1 ?_
                refine g_iload X119 hx hby at_345 rfl ?_
                refine g_ifY X119 hx hby 357 at_347 (feq (by decide : ¬ ((2 : Int32) = (0 : Int32)))).2 (by decide) (by decide) ?_
                refine g_iload X119 hx hby at_357 rfl ?_
                refine g_ifY X119 hx hby 375 at_359 (teq (by decide : (0 : Int32) = (0 : Int32))).1 (by decide) (by decide) ?_
                refine g_iload X119 hx hby at_375 rfl ?_
                refine g_ifN X119 hx hby at_377 (feq (by decide : ¬ ((1 : Int32) = (0 : Int32)))).1 ?_
                refine g_iload X119 hx hby at_380 rfl ?_
                refine g_iconst X119 hx hby (2 : Int32) at_382 rfl ?_
                refine g_icN X119 hx hby at_383 (teq (by decide : (2 : Int32) = (2 : Int32))).2 ?_
                refine g_aload X119 hx hby at_386 rfl rfl ?_
                refine g_aload X119 hx hby at_388 rfl rfl ?_
                have z125 := (Nat.le_trans z120 K119.1)
                refine g_virtual X119 hx hby hZ hown (rm_remW l Z a0 hw [] b11 q2 sd b20 2 [(b14, q0)] [] ba T119.heap n0 z125 SB Ol119 Bk119) w144_ w145_ (notFace_of_selects (args := #[]) (mvT hZ w147_)) w147_ w146_ w10_ w148_ (by decide) rfl (own_Bk.exa Bk119) (by rw [hml]; rfl) [(.ref b20)] (lenOf own_pd15 rfl) rfl rfl (Nat.le_of_ble_eq_true rfl) (Nat.le_of_ble_eq_true rfl) (Nat.le_of_ble_eq_true rfl) (Nat.le_of_ble_eq_true rfl) at_390 (fun v124 T124 L124 X124 hQ124 => ?_)
                obtain ⟨rfl, N124q, Bq124, K124, Ol124⟩ := hQ124
                have N124 := Fr.app N119 N124q
                have Bk124 : own_Bk Z T124.heap n0 b11 sd ba 2 [(b14, q0)] := Bq124
                have z126 := (Nat.le_trans z125 K124.1)
                exact JF1 _ _ _ _ _ _ _ _ (X124.mono (by decide) (by decide)) rfl N124 z126 Bk124
               ·skip
                refine g_iload X119 hx hby at_287 rfl ?_
                refine g_ifN X119 hx hby at_289 (feq (by decide : ¬ ((1 : Int32) = (0 : Int32)))).1 ?_
                refine g_iload X119 hx hby at_292 rfl ?_
                refine g_ifN X119 hx hby at_294 (feq (hr0_ : ¬ (rmv = (0 : Int32)))).1 ?_
                refine g_iconst X119 hx hby (1 : Int32) at_297 rfl ?_
                refine g_goto X119 hx hby 302 at_298 (by decide) (by decide) ?_
                refine g_istore X119 hx hby at_302 (l' := #[.val (.int fl), .val (.long px), .second, .val (.long py), .second, .val (.long pz), .second, .val (.int bu), .val (.ref sd), .val (.int ua0), .val (.int ua1), .val (.int ua2), .val (.int (1 : Int32)), .val (.int (0 : Int32)), .val (.int (1 : Int32)), .val (.int rmv), .val (.long q0), .second, .val (.long q1), .second, .val (.long q2), .second, .val (.ref b11), .val (.ref b14), .val (.ref b17), .val (.ref b20), .val (.int (1 : Int32)), .unset, .unset, .unset, .unset, .unset, .unset]) rfl ?_
                refine g_iload X119 hx hby at_304 rfl ?_
                refine g_ifY X119 hx hby 319 at_306 (teq (by decide : (0 : Int32) = (0 : Int32))).1 (by decide) (by decide) ?_
                refine g_iconst X119 hx hby (0 : Int32) at_319 rfl ?_
                refine g_istore X119 hx hby at_320 (l' := #[.val (.int fl), .val (.long px), .second, .val (.long py), .second, .val (.long pz), .second, .val (.int bu), .val (.ref sd), .val (.int ua0), .val (.int ua1), .val (.int ua2), .val (.int (1 : Int32)), .val (.int (0 : Int32)), .val (.int (1 : Int32)), .val (.int rmv), .val (.long q0), .second, .val (.long q1), .second, .val (.long q2), .second, .val (.ref b11), .val (.ref b14), .val (.ref b17), .val (.ref b20), .val (.int (1 : Int32)), .val (.int (0 : Int32)), .unset, .unset, .unset, .unset, .unset]) rfl ?_
                refine g_iload X119 hx hby at_322 rfl ?_
                refine g_ifN X119 hx hby at_324 (feq (by decide : ¬ ((1 : Int32) = (0 : Int32)))).1 ?_
                refine g_iload X119 hx hby at_327 rfl ?_
                refine g_iconst X119 hx hby (2 : Int32) at_329 rfl ?_
                refine g_icN X119 hx hby at_330 (feq (hr2_ : ¬ (rmv = (2 : Int32)))).1 ?_
                refine g_iconst X119 hx hby (1 : Int32) at_333 rfl ?_
                refine g_goto X119 hx hby 338 at_334 (by decide) (by decide) ?_
                refine g_istore X119 hx hby at_338 (l' := #[.val (.int fl), .val (.long px), .second, .val (.long py), .second, .val (.long pz), .second, .val (.int bu), .val (.ref sd), .val (.int ua0), .val (.int ua1), .val (.int ua2), .val (.int (1 : Int32)), .val (.int (0 : Int32)), .val (.int (1 : Int32)), .val (.int rmv), .val (.long q0), .second, .val (.long q1), .second, .val (.long q2), .second, .val (.ref b11), .val (.ref b14), .val (.ref b17), .val (.ref b20), .val (.int (1 : Int32)), .val (.int (0 : Int32)), .val (.int (1 : Int32)), .unset, .unset, .unset, .unset]) rfl ?_
                refine g_iload X119 hx hby at_340 rfl ?_
                refine g_ifN X119 hx hby at_342 (feq (by decide : ¬ ((1 : Int32) = (0 : Int32)))).1 ?_
                refine g_iload X119 hx hby at_345 rfl ?_
                refine g_ifY X119 hx hby 357 at_347 (feq (hr0_ : ¬ (rmv = (0 : Int32)))).2 (by decide) (by decide) ?_
                refine g_iload X119 hx hby at_357 rfl ?_
                refine g_ifY X119 hx hby 375 at_359 (teq (by decide : (0 : Int32) = (0 : Int32))).1 (by decide) (by decide) ?_
                refine g_iload X119 hx hby at_375 rfl ?_
                refine g_ifN X119 hx hby at_377 (feq (by decide : ¬ ((1 : Int32) = (0 : Int32)))).1 ?_
                refine g_iload X119 hx hby at_380 rfl ?_
                refine g_iconst X119 hx hby (2 : Int32) at_382 rfl ?_
                refine g_icY X119 hx hby 393 at_383 (feq (hr2_ : ¬ (rmv = (2 : Int32)))).2 (by decide) (by decide) ?_
                have z127 := (Nat.le_trans z120 K119.1)
                exact JF5 _ _ _ _ _ _ _ _ (X119.mono (by decide) (by decide)) rfl N119 z127 Bk119
            ·skip
             refine g_iload X114 hx hby at_263 rfl ?_
             refine g_ifN X114 hx hby at_265 (feq (by decide : ¬ ((1 : Int32) = (0 : Int32)))).1 ?_
             refine g_aload X114 hx hby at_268 rfl rfl ?_
             refine g_aload X114 hx hby at_270 rfl rfl ?_
             have z129 := (Nat.le_trans z68 K114.1)
             refine g_virtual X114 hx hby hZ hown (rm_addW l Z a0 hw [] b11 q1 sd b17 1 [(b14, q0)] ba T114.heap n0 z129 SB Ol114 Bk114 Oo114_1 g_b17 (ninS (Ne.symm ne23) nin0) (by decide)) w72_ w73_ (notFace_of_selects (args := #[]) (mvT hZ w75_)) w75_ w74_ w10_ w76_ (by decide) rfl (own_Bk.exa Bk114) (by rw [hml]; rfl) [(.ref b17)] (lenOf own_pd15 rfl) rfl rfl (Nat.le_of_ble_eq_true rfl) (Nat.le_of_ble_eq_true rfl) (Nat.le_of_ble_eq_true rfl) (Nat.le_of_ble_eq_true rfl) at_272 (fun v128 T128 L128 X128 hQ128 => ?_)
             obtain ⟨rfl, N128q, Bq128, Ol128, K128, Oo128⟩ := hQ128
             have N128 := Fr.app N114 N128q
             have Bk128 : own_Bk Z T128.heap n0 b11 sd ba 2 [(b14, q0), (b17, q1)] := Bq128
             have Oo128_2 := Oo128 _ _ Oo114_2 (ninS (Ne.symm ne25) (ninS (Ne.symm ne24) nin0))
             rcases h_fa2 with rfl | rfl
             ·skip
              refine g_at 275 rfl rfl rfl ?_
              refine g_iload X128 hx hby at_275 rfl ?_
              refine g_ifY X128 hx hby 287 at_277 (teq (by decide : (0 : Int32) = (0 : Int32))).1 (by decide) (by decide) ?_
              by_cases hr0_ : rmv = (0 : Int32)
              ·subst hr0_
               refine g_iload X128 hx hby at_287 rfl ?_
               refine g_ifN X128 hx hby at_289 (feq (by decide : ¬ ((1 : Int32) = (0 : Int32)))).1 ?_
               refine g_iload X128 hx hby at_292 rfl ?_
               refine g_ifY X128 hx hby 301 at_294 (teq (by decide : (0 : Int32) = (0 : Int32))).1 (by decide) (by decide) ?_
               refine g_iconst X128 hx hby (0 : Int32) at_301 rfl ?_
               refine g_istore X128 hx hby at_302 (l' := #[.val (.int fl), .val (.long px), .second, .val (.long py), .second, .val (.long pz), .second, .val (.int bu), .val (.ref sd), .val (.int ua0), .val (.int ua1), .val (.int ua2), .val (.int (1 : Int32)), .val (.int (1 : Int32)), .val (.int (0 : Int32)), .val (.int (0 : Int32)), .val (.long q0), .second, .val (.long q1), .second, .val (.long q2), .second, .val (.ref b11), .val (.ref b14), .val (.ref b17), .val (.ref b20), .val (.int (0 : Int32)), .unset, .unset, .unset, .unset, .unset, .unset]) rfl ?_
               refine g_iload X128 hx hby at_304 rfl ?_
               refine g_ifN X128 hx hby at_306 (feq (by decide : ¬ ((1 : Int32) = (0 : Int32)))).1 ?_
               refine g_iload X128 hx hby at_309 rfl ?_
               refine g_iconst X128 hx hby (1 : Int32) at_311 rfl ?_
               refine g_icN X128 hx hby at_312 (feq (by decide : ¬ ((0 : Int32) = (1 : Int32)))).1 ?_
               refine g_iconst X128 hx hby (1 : Int32) at_315 rfl ?_
               refine g_goto X128 hx hby 320 at_316 (by decide) (by decide) ?_
               refine g_istore X128 hx hby at_320 (l' := #[.val (.int fl), .val (.long px), .second, .val (.long py), .second, .val (.long pz), .second, .val (.int bu), .val (.ref sd), .val (.int ua0), .val (.int ua1), .val (.int ua2), .val (.int (1 : Int32)), .val (.int (1 : Int32)), .val (.int (0 : Int32)), .val (.int (0 : Int32)), .val (.long q0), .second, .val (.long q1), .second, .val (.long q2), .second, .val (.ref b11), .val (.ref b14), .val (.ref b17), .val (.ref b20), .val (.int (0 : Int32)), .val (.int (1 : Int32)), .unset, .unset, .unset, .unset, .unset]) rfl ?_
               refine g_iload X128 hx hby at_322 rfl ?_
               refine g_ifY X128 hx hby 337 at_324 (teq (by decide : (0 : Int32) = (0 : Int32))).1 (by decide) (by decide) ?_
               refine g_iconst X128 hx hby (0 : Int32) at_337 rfl ?_
               refine g_istore X128 hx hby at_338 (l' := #[.val (.int fl), .val (.long px), .second, .val (.long py), .second, .val (.long pz), .second, .val (.int bu), .val (.ref sd), .val (.int ua0), .val (.int ua1), .val (.int ua2), .val (.int (1 : Int32)), .val (.int (1 : Int32)), .val (.int (0 : Int32)), .val (.int (0 : Int32)), .val (.long q0), .second, .val (.long q1), .second, .val (.long q2), .second, .val (.ref b11), .val (.ref b14), .val (.ref b17), .val (.ref b20), .val (.int (0 : Int32)), .val (.int (1 : Int32)), .val (.int (0 : Int32)), .unset, .unset, .unset, .unset]) rfl ?_
               refine g_iload X128 hx hby at_340 rfl ?_
               refine g_ifN X128 hx hby at_342 (feq (by decide : ¬ ((1 : Int32) = (0 : Int32)))).1 ?_
               refine g_iload X128 hx hby at_345 rfl ?_
               refine g_ifN X128 hx hby at_347 (teq (by decide : (0 : Int32) = (0 : Int32))).2 ?_
               refine g_aload X128 hx hby at_350 rfl rfl ?_
               refine g_aload X128 hx hby at_352 rfl rfl ?_
               have z131 := (Nat.le_trans z129 K128.1)
               refine g_virtual X128 hx hby hZ hown (rm_remW l Z a0 hw [] b11 q0 sd b14 2 [] [(b17, q1)] ba T128.heap n0 z131 SB Ol128 Bk128) w144_ w145_ (notFace_of_selects (args := #[]) (mvT hZ w147_)) w147_ w146_ w10_ w148_ (by decide) rfl (own_Bk.exa Bk128) (by rw [hml]; rfl) [(.ref b14)] (lenOf own_pd15 rfl) rfl rfl (Nat.le_of_ble_eq_true rfl) (Nat.le_of_ble_eq_true rfl) (Nat.le_of_ble_eq_true rfl) (Nat.le_of_ble_eq_true rfl) at_354 (fun v130 T130 L130 X130 hQ130 => ?_)
               obtain ⟨rfl, N130q, Bq130, K130, Ol130⟩ := hQ130
               have N130 := Fr.app N128 N130q
               have Bk130 : own_Bk Z T130.heap n0 b11 sd ba 2 [(b17, q1)] := Bq130
               refine g_iload X130 hx hby at_357 rfl ?_
               refine g_ifN X130 hx hby at_359 (feq (by decide : ¬ ((1 : Int32) = (0 : Int32)))).1 ?_
               refine g_iload X130 hx hby at_362 rfl ?_
               refine g_iconst X130 hx hby (1 : Int32) at_364 rfl ?_
               refine g_icY X130 hx hby 375 at_365 (feq (by decide : ¬ ((0 : Int32) = (1 : Int32)))).2 (by decide) (by decide) ?_
               refine g_iload X130 hx hby at_375 rfl ?_
               refine g_ifY X130 hx hby 393 at_377 (teq (by decide : (0 : Int32) = (0 : Int32))).1 (by decide) (by decide) ?_
               have z132 := (Nat.le_trans z131 K130.1)
               exact JF2 _ _ _ _ _ _ _ _ (X130.mono (by decide) (by decide)) rfl N130 z132 Bk130
              ·skip
               by_cases hr1_ : rmv = (1 : Int32)
               ·subst hr1_
                refine g_iload X128 hx hby at_287 rfl ?_
                refine g_ifN X128 hx hby at_289 (feq (by decide : ¬ ((1 : Int32) = (0 : Int32)))).1 ?_
                refine g_iload X128 hx hby at_292 rfl ?_
                refine g_ifN X128 hx hby at_294 (feq (by decide : ¬ ((1 : Int32) = (0 : Int32)))).1 ?_
                refine g_iconst X128 hx hby (1 : Int32) at_297 rfl ?_
                refine g_goto X128 hx hby 302 at_298 (by decide) (by decide) ?_
                refine g_istore X128 hx hby at_302 (l' := #[.val (.int fl), .val (.long px), .second, .val (.long py), .second, .val (.long pz), .second, .val (.int bu), .val (.ref sd), .val (.int ua0), .val (.int ua1), .val (.int ua2), .val (.int (1 : Int32)), .val (.int (1 : Int32)), .val (.int (0 : Int32)), .val (.int (1 : Int32)), .val (.long q0), .second, .val (.long q1), .second, .val (.long q2), .second, .val (.ref b11), .val (.ref b14), .val (.ref b17), .val (.ref b20), .val (.int (1 : Int32)), .unset, .unset, .unset, .unset, .unset, .unset]) rfl ?_
                refine g_iload X128 hx hby at_304 rfl ?_
                refine g_ifN X128 hx hby at_306 (feq (by decide : ¬ ((1 : Int32) = (0 : Int32)))).1 ?_
                refine g_iload X128 hx hby at_309 rfl ?_
                refine g_iconst X128 hx hby (1 : Int32) at_311 rfl ?_
                refine g_icY X128 hx hby 319 at_312 (teq (by decide : (1 : Int32) = (1 : Int32))).1 (by decide) (by decide) ?_
                refine g_iconst X128 hx hby (0 : Int32) at_319 rfl ?_
                refine g_istore X128 hx hby at_320 (l' := #[.val (.int fl), .val (.long px), .second, .val (.long py), .second, .val (.long pz), .second, .val (.int bu), .val (.ref sd), .val (.int ua0), .val (.int ua1), .val (.int ua2), .val (.int (1 : Int32)), .val (.int (1 : Int32)), .val (.int (0 : Int32)), .val (.int (1 : Int32)), .val (.long q0), .second, .val (.long q1), .second, .val (.long q2), .second, .val (.ref b11), .val (.ref b14), .val (.ref b17), .val (.ref b20), .val (.int (1 : Int32)), .val (.int (0 : Int32)), .unset, .unset, .unset, .unset, .unset]) rfl ?_
                refine g_iload X128 hx hby at_322 rfl ?_
                refine g_ifY X128 hx hby 337 at_324 (teq (by decide : (0 : Int32) = (0 : Int32))).1 (by decide) (by decide) ?_
                refine g_iconst X128 hx hby (0 : Int32) at_337 rfl ?_
                refine g_istore X128 hx hby at_338 (l' := #[.val (.int fl), .val (.long px), .second, .val (.long py), .second, .val (.long pz), .second, .val (.int bu), .val (.ref sd), .val (.int ua0), .val (.int ua1), .val (.int ua2), .val (.int (1 : Int32)), .val (.int (1 : Int32)), .val (.int (0 : Int32)), .val (.int (1 : Int32)), .val (.long q0), .second, .val (.long q1), .second, .val (.long q2), .second, .val (.ref b11), .val (.ref b14), .val (.ref b17), .val (.ref b20), .val (.int (1 : Int32)), .val (.int (0 : Int32)), .val (.int (0 : Int32)), .unset, .unset, .unset, .unset]) rfl ?_
                refine g_iload X128 hx hby at_340 rfl ?_
                refine g_ifN X128 hx hby at_342 (feq (by decide : ¬ ((1 : Int32) = (0 : Int32)))).1 ?_
                refine g_iload X128 hx hby at_345 rfl ?_
                refine g_ifY X128 hx hby 357 at_347 (feq (by decide : ¬ ((1 : Int32) = (0 : Int32)))).2 (by decide) (by decide) ?_
                refine g_iload X128 hx hby at_357 rfl ?_
                refine g_ifN X128 hx hby at_359 (feq (by decide : ¬ ((1 : Int32) = (0 : Int32)))).1 ?_
                refine g_iload X128 hx hby at_362 rfl ?_
                refine g_iconst X128 hx hby (1 : Int32) at_364 rfl ?_
                refine g_icN X128 hx hby at_365 (teq (by decide : (1 : Int32) = (1 : Int32))).2 ?_
                refine g_aload X128 hx hby at_368 rfl rfl ?_
                refine g_aload X128 hx hby at_370 rfl rfl ?_
                have z134 := (Nat.le_trans z129 K128.1)
                refine g_virtual X128 hx hby hZ hown (rm_remW l Z a0 hw [] b11 q1 sd b17 2 [(b14, q0)] [] ba T128.heap n0 z134 SB Ol128 Bk128) w144_ w145_ (notFace_of_selects (args := #[]) (mvT hZ w147_)) w147_ w146_ w10_ w148_ (by decide) rfl (own_Bk.exa Bk128) (by rw [hml]; rfl) [(.ref b17)] (lenOf own_pd15 rfl) rfl rfl (Nat.le_of_ble_eq_true rfl) (Nat.le_of_ble_eq_true rfl) (Nat.le_of_ble_eq_true rfl) (Nat.le_of_ble_eq_true rfl) at_372 (fun v133 T133 L133 X133 hQ133 => ?_)
                obtain ⟨rfl, N133q, Bq133, K133, Ol133⟩ := hQ133
                have N133 := Fr.app N128 N133q
                have Bk133 : own_Bk Z T133.heap n0 b11 sd ba 2 [(b14, q0)] := Bq133
                refine g_iload X133 hx hby at_375 rfl ?_
                refine g_ifY X133 hx hby 393 at_377 (teq (by decide : (0 : Int32) = (0 : Int32))).1 (by decide) (by decide) ?_
                have z135 := (Nat.le_trans z134 K133.1)
                exact JF1 _ _ _ _ _ _ _ _ (X133.mono (by decide) (by decide)) rfl N133 z135 Bk133
               ·skip
                refine g_iload X128 hx hby at_287 rfl ?_
                refine g_ifN X128 hx hby at_289 (feq (by decide : ¬ ((1 : Int32) = (0 : Int32)))).1 ?_
                refine g_iload X128 hx hby at_292 rfl ?_
                refine g_ifN X128 hx hby at_294 (feq (hr0_ : ¬ (rmv = (0 : Int32)))).1 ?_
                refine g_iconst X128 hx hby (1 : Int32) at_297 rfl ?_
                refine g_goto X128 hx hby 302 at_298 (by decide) (by decide) ?_
                refine g_istore X128 hx hby at_302 (l' := #[.val (.int fl), .val (.long px), .second, .val (.long py), .second, .val (.long pz), .second, .val (.int bu), .val (.ref sd), .val (.int ua0), .val (.int ua1), .val (.int ua2), .val (.int (1 : Int32)), .val (.int (1 : Int32)), .val (.int (0 : Int32)), .val (.int rmv), .val (.long q0), .second, .val (.long q1), .second, .val (.long q2), .second, .val (.ref b11), .val (.ref b14), .val (.ref b17), .val (.ref b20), .val (.int (1 : Int32)), .unset, .unset, .unset, .unset, .unset, .unset]) rfl ?_
                refine g_iload X128 hx hby at_304 rfl ?_
                refine g_ifN X128 hx hby at_306 (feq (by decide : ¬ ((1 : Int32) = (0 : Int32)))).1 ?_
                refine g_iload X128 hx hby at_309 rfl ?_
                refine g_iconst X128 hx hby (1 : Int32) at_311 rfl ?_
                refine g_icN X128 hx hby at_312 (feq (hr1_ : ¬ (rmv = (1 : Int32)))).1 ?_
                refine g_iconst X128 hx hby (1 : Int32) at_315 rfl ?_
                refine g_goto X128 hx hby 320 at_316 (by decide) (by decide) ?_
                refine g_istore X128 hx hby at_320 (l' := #[.val (.int fl), .val (.long px), .second, .val (.long py), .second, .val (.long pz), .second, .val (.int bu), .val (.ref sd), .val (.int ua0), .val (.int ua1), .val (.int ua2), .val (.int (1 : Int32)), .val (.int (1 : Int32)), .val (.int (0 : Int32)), .val (.int rmv), .val (.long q0), .second, .val (.long q1), .second, .val (.long q2), .second, .val (.ref b11), .val (.ref b14), .val (.ref b17), .val (.ref b20), .val (.int (1 : Int32)), .val (.int (1 : Int32)), .unset, .unset, .unset, .unset, .unset]) rfl ?_
                refine g_iload X128 hx hby at_322 rfl ?_
                refine g_ifY X128 hx hby 337 at_324 (teq (by decide : (0 : Int32) = (0 : Int32))).1 (by decide) (by decide) ?_
                refine g_iconst X128 hx hby (0 : Int32) at_337 rfl ?_
                refine g_istore X128 hx hby at_338 (l' := #[.val (.int fl), .val (.long px), .second, .val (.long py), .second, .val (.long pz), .second, .val (.int bu), .val (.ref sd), .val (.int ua0), .val (.int ua1), .val (.int ua2), .val (.int (1 : Int32)), .val (.int (1 : Int32)), .val (.int (0 : Int32)), .val (.int rmv), .val (.long q0), .second, .val (.long q1), .second, .val (.long q2), .second, .val (.ref b11), .val (.ref b14), .val (.ref b17), .val (.ref b20), .val (.int (1 : Int32)), .val (.int (1 : Int32)), .val (.int (0 : Int32)), .unset, .unset, .unset, .unset]) rfl ?_
                refine g_iload X128 hx hby at_340 rfl ?_
                refine g_ifN X128 hx hby at_342 (feq (by decide : ¬ ((1 : Int32) = (0 : Int32)))).1 ?_
                refine g_iload X128 hx hby at_345 rfl ?_
                refine g_ifY X128 hx hby 357 at_347 (feq (hr0_ : ¬ (rmv = (0 : Int32)))).2 (by decide) (by decide) ?_
                refine g_iload X128 hx hby at_357 rfl ?_
                refine g_ifN X128 hx hby at_359 (feq (by decide : ¬ ((1 : Int32) = (0 : Int32)))).1 ?_
                refine g_iload X128 hx hby at_362 rfl ?_
                refine g_iconst X128 hx hby (1 : Int32) at_364 rfl ?_
                refine g_icY X128 hx hby 375 at_365 (feq (hr1_ : ¬ (rmv = (1 : Int32)))).2 (by decide) (by decide) ?_
                refine g_iload X128 hx hby at_375 rfl ?_
                refine g_ifY X128 hx hby 393 at_377 (teq (by decide : (0 : Int32) = (0 : Int32))).1 (by decide) (by decide) ?_
                have z136 := (Nat.le_trans z129 K128.1)
                exact JF3 _ _ _ _ _ _ _ _ (X128.mono (by decide) (by decide)) rfl N128 z136 Bk128
             ·skip
              refine g_at 275 rfl rfl rfl ?_
              refine g_iload X128 hx hby at_275 rfl ?_
              refine g_ifN X128 hx hby at_277 (feq (by decide : ¬ ((1 : Int32) = (0 : Int32)))).1 ?_
              refine g_aload X128 hx hby at_280 rfl rfl ?_
              refine g_aload X128 hx hby at_282 rfl rfl ?_
              have z138 := (Nat.le_trans z129 K128.1)
              refine g_virtual X128 hx hby hZ hown (rm_addW l Z a0 hw [] b11 q2 sd b20 2 [(b14, q0), (b17, q1)] ba T128.heap n0 z138 SB Ol128 Bk128 Oo128_2 g_b20 (ninS (Ne.symm ne24) (ninS (Ne.symm ne25) nin0)) (by decide)) w72_ w73_ (notFace_of_selects (args := #[]) (mvT hZ w75_)) w75_ w74_ w10_ w76_ (by decide) rfl (own_Bk.exa Bk128) (by rw [hml]; rfl) [(.ref b20)] (lenOf own_pd15 rfl) rfl rfl (Nat.le_of_ble_eq_true rfl) (Nat.le_of_ble_eq_true rfl) (Nat.le_of_ble_eq_true rfl) (Nat.le_of_ble_eq_true rfl) at_284 (fun v137 T137 L137 X137 hQ137 => ?_)
              obtain ⟨rfl, N137q, Bq137, Ol137, K137, Oo137⟩ := hQ137
              have N137 := Fr.app N128 N137q
              have Bk137 : own_Bk Z T137.heap n0 b11 sd ba 3 [(b14, q0), (b17, q1), (b20, q2)] := Bq137
              by_cases hr0_ : rmv = (0 : Int32)
              ·subst hr0_
               refine g_iload X137 hx hby at_287 rfl ?_
               refine g_ifN X137 hx hby at_289 (feq (by decide : ¬ ((1 : Int32) = (0 : Int32)))).1 ?_
               refine g_iload X137 hx hby at_292 rfl ?_
               refine g_ifY X137 hx hby 301 at_294 (teq (by decide : (0 : Int32) = (0 : Int32))).1 (by decide) (by decide) ?_
               refine g_iconst X137 hx hby (0 : Int32) at_301 rfl ?_
               refine g_istore X137 hx hby at_302 (l' := #[.val (.int fl), .val (.long px), .second, .val (.long py), .second, .val (.long pz), .second, .val (.int bu), .val (.ref sd), .val (.int ua0), .val (.int ua1), .val (.int ua2), .val (.int (1 : Int32)), .val (.int (1 : Int32)), .val (.int (1 : Int32)), .val (.int (0 : Int32)), .val (.long q0), .second, .val (.long q1), .second, .val (.long q2), .second, .val (.ref b11), .val (.ref b14), .val (.ref b17), .val (.ref b20), .val (.int (0 : Int32)), .unset, .unset, .unset, .unset, .unset, .unset]) rfl ?_
               refine g_iload X137 hx hby at_304 rfl ?_
               refine g_ifN X137 hx hby at_306 (feq (by decide : ¬ ((1 : Int32) = (0 : Int32)))).1 ?_
               refine g_iload X137 hx hby at_309 rfl ?_
               refine g_iconst X137 hx hby (1 : Int32) at_311 rfl ?_
               refine g_icN X137 hx hby at_312 (feq (by decide : ¬ ((0 : Int32) = (1 : Int32)))).1 ?_
               refine g_iconst X137 hx hby (1 : Int32) at_315 rfl ?_
               refine g_goto X137 hx hby 320 at_316 (by decide) (by decide) ?_
               refine g_istore X137 hx hby at_320 (l' := #[.val (.int fl), .val (.long px), .second, .val (.long py), .second, .val (.long pz), .second, .val (.int bu), .val (.ref sd), .val (.int ua0), .val (.int ua1), .val (.int ua2), .val (.int (1 : Int32)), .val (.int (1 : Int32)), .val (.int (1 : Int32)), .val (.int (0 : Int32)), .val (.long q0), .second, .val (.long q1), .second, .val (.long q2), .second, .val (.ref b11), .val (.ref b14), .val (.ref b17), .val (.ref b20), .val (.int (0 : Int32)), .val (.int (1 : Int32)), .unset, .unset, .unset, .unset, .unset]) rfl ?_
               refine g_iload X137 hx hby at_322 rfl ?_
               refine g_ifN X137 hx hby at_324 (feq (by decide : ¬ ((1 : Int32) = (0 : Int32)))).1 ?_
               refine g_iload X137 hx hby at_327 rfl ?_
               refine g_iconst X137 hx hby (2 : Int32) at_329 rfl ?_
               refine g_icN X137 hx hby at_330 (feq (by decide : ¬ ((0 : Int32) = (2 : Int32)))).1 ?_
               refine g_iconst X137 hx hby (1 : Int32) at_333 rfl ?_
               refine g_goto X137 hx hby 338 at_334 (by decide) (by decide) ?_
               refine g_istore X137 hx hby at_338 (l' := #[.val (.int fl), .val (.long px), .second, .val (.long py), .second, .val (.long pz), .second, .val (.int bu), .val (.ref sd), .val (.int ua0), .val (.int ua1), .val (.int ua2), .val (.int (1 : Int32)), .val (.int (1 : Int32)), .val (.int (1 : Int32)), .val (.int (0 : Int32)), .val (.long q0), .second, .val (.long q1), .second, .val (.long q2), .second, .val (.ref b11), .val (.ref b14), .val (.ref b17), .val (.ref b20), .val (.int (0 : Int32)), .val (.int (1 : Int32)), .val (.int (1 : Int32)), .unset, .unset, .unset, .unset]) rfl ?_
               refine g_iload X137 hx hby at_340 rfl ?_
               refine g_ifN X137 hx hby at_342 (feq (by decide : ¬ ((1 : Int32) = (0 : Int32)))).1 ?_
               refine g_iload X137 hx hby at_345 rfl ?_
               refine g_ifN X137 hx hby at_347 (teq (by decide : (0 : Int32) = (0 : Int32))).2 ?_
               refine g_aload X137 hx hby at_350 rfl rfl ?_
               refine g_aload X137 hx hby at_352 rfl rfl ?_
               have z140 := (Nat.le_trans z138 K137.1)
               refine g_virtual X137 hx hby hZ hown (rm_remW l Z a0 hw [] b11 q0 sd b14 3 [] [(b17, q1), (b20, q2)] ba T137.heap n0 z140 SB Ol137 Bk137) w144_ w145_ (notFace_of_selects (args := #[]) (mvT hZ w147_)) w147_ w146_ w10_ w148_ (by decide) rfl (own_Bk.exa Bk137) (by rw [hml]; rfl) [(.ref b14)] (lenOf own_pd15 rfl) rfl rfl (Nat.le_of_ble_eq_true rfl) (Nat.le_of_ble_eq_true rfl) (Nat.le_of_ble_eq_true rfl) (Nat.le_of_ble_eq_true rfl) at_354 (fun v139 T139 L139 X139 hQ139 => ?_)
               obtain ⟨rfl, N139q, Bq139, K139, Ol139⟩ := hQ139
               have N139 := Fr.app N137 N139q
               have Bk139 : own_Bk Z T139.heap n0 b11 sd ba 3 [(b17, q1), (b20, q2)] := Bq139
               refine g_iload X139 hx hby at_357 rfl ?_
               refine g_ifN X139 hx hby at_359 (feq (by decide : ¬ ((1 : Int32) = (0 : Int32)))).1 ?_
               refine g_iload X139 hx hby at_362 rfl ?_
               refine g_iconst X139 hx hby (1 : Int32) at_364 rfl ?_
               refine g_icY X139 hx hby 375 at_365 (feq (by decide : ¬ ((0 : Int32) = (1 : Int32)))).2 (by decide) (by decide) ?_
               refine g_iload X139 hx hby at_375 rfl ?_
               refine g_ifN X139 hx hby at_377 (feq (by decide : ¬ ((1 : Int32) = (0 : Int32)))).1 ?_
               refine g_iload X139 hx hby at_380 rfl ?_
               refine g_iconst X139 hx hby (2 : Int32) at_382 rfl ?_
               refine g_icY X139 hx hby 393 at_383 (feq (by decide : ¬ ((0 : Int32) = (2 : Int32)))).2 (by decide) (by decide) ?_
               have z141 := (Nat.le_trans z140 K139.1)
               exact JF6 _ _ _ _ _ _ _ _ (X139.mono (by decide) (by decide)) rfl N139 z141 Bk139
              ·skip
               by_cases hr1_ : rmv = (1 : Int32)
               ·subst hr1_
                refine g_iload X137 hx hby at_287 rfl ?_
                refine g_ifN X137 hx hby at_289 (feq (by decide : ¬ ((1 : Int32) = (0 : Int32)))).1 ?_
                refine g_iload X137 hx hby at_292 rfl ?_
                refine g_ifN X137 hx hby at_294 (feq (by decide : ¬ ((1 : Int32) = (0 : Int32)))).1 ?_
                refine g_iconst X137 hx hby (1 : Int32) at_297 rfl ?_
                refine g_goto X137 hx hby 302 at_298 (by decide) (by decide) ?_
                refine g_istore X137 hx hby at_302 (l' := #[.val (.int fl), .val (.long px), .second, .val (.long py), .second, .val (.long pz), .second, .val (.int bu), .val (.ref sd), .val (.int ua0), .val (.int ua1), .val (.int ua2), .val (.int (1 : Int32)), .val (.int (1 : Int32)), .val (.int (1 : Int32)), .val (.int (1 : Int32)), .val (.long q0), .second, .val (.long q1), .second, .val (.long q2), .second, .val (.ref b11), .val (.ref b14), .val (.ref b17), .val (.ref b20), .val (.int (1 : Int32)), .unset, .unset, .unset, .unset, .unset, .unset]) rfl ?_
                refine g_iload X137 hx hby at_304 rfl ?_
                refine g_ifN X137 hx hby at_306 (feq (by decide : ¬ ((1 : Int32) = (0 : Int32)))).1 ?_
                refine g_iload X137 hx hby at_309 rfl ?_
                refine g_iconst X137 hx hby (1 : Int32) at_311 rfl ?_
                refine g_icY X137 hx hby 319 at_312 (teq (by decide : (1 : Int32) = (1 : Int32))).1 (by decide) (by decide) ?_
                refine g_iconst X137 hx hby (0 : Int32) at_319 rfl ?_
                refine g_istore X137 hx hby at_320 (l' := #[.val (.int fl), .val (.long px), .second, .val (.long py), .second, .val (.long pz), .second, .val (.int bu), .val (.ref sd), .val (.int ua0), .val (.int ua1), .val (.int ua2), .val (.int (1 : Int32)), .val (.int (1 : Int32)), .val (.int (1 : Int32)), .val (.int (1 : Int32)), .val (.long q0), .second, .val (.long q1), .second, .val (.long q2), .second, .val (.ref b11), .val (.ref b14), .val (.ref b17), .val (.ref b20), .val (.int (1 : Int32)), .val (.int (0 : Int32)), .unset, .unset, .unset, .unset, .unset]) rfl ?_
                refine g_iload X137 hx hby at_322 rfl ?_
                refine g_ifN X137 hx hby at_324 (feq (by decide : ¬ ((1 : Int32) = (0 : Int32)))).1 ?_
                refine g_iload X137 hx hby at_327 rfl ?_
                refine g_iconst X137 hx hby (2 : Int32) at_329 rfl ?_
                refine g_icN X137 hx hby at_330 (feq (by decide : ¬ ((1 : Int32) = (2 : Int32)))).1 ?_
                refine g_iconst X137 hx hby (1 : Int32) at_333 rfl ?_
                refine g_goto X137 hx hby 338 at_334 (by decide) (by decide) ?_
                refine g_istore X137 hx hby at_338 (l' := #[.val (.int fl), .val (.long px), .second, .val (.long py), .second, .val (.long pz), .second, .val (.int bu), .val (.ref sd), .val (.int ua0), .val (.int ua1), .val (.int ua2), .val (.int (1 : Int32)), .val (.int (1 : Int32)), .val (.int (1 : Int32)), .val (.int (1 : Int32)), .val (.long q0), .second, .val (.long q1), .second, .val (.long q2), .second, .val (.ref b11), .val (.ref b14), .val (.ref b17), .val (.ref b20), .val (.int (1 : Int32)), .val (.int (0 : Int32)), .val (.int (1 : Int32)), .unset, .unset, .unset, .unset]) rfl ?_
                refine g_iload X137 hx hby at_340 rfl ?_
                refine g_ifN X137 hx hby at_342 (feq (by decide : ¬ ((1 : Int32) = (0 : Int32)))).1 ?_
                refine g_iload X137 hx hby at_345 rfl ?_
                refine g_ifY X137 hx hby 357 at_347 (feq (by decide : ¬ ((1 : Int32) = (0 : Int32)))).2 (by decide) (by decide) ?_
                refine g_iload X137 hx hby at_357 rfl ?_
                refine g_ifN X137 hx hby at_359 (feq (by decide : ¬ ((1 : Int32) = (0 : Int32)))).1 ?_
                refine g_iload X137 hx hby at_362 rfl ?_
                refine g_iconst X137 hx hby (1 : Int32) at_364 rfl ?_
                refine g_icN X137 hx hby at_365 (teq (by decide : (1 : Int32) = (1 : Int32))).2 ?_
                refine g_aload X137 hx hby at_368 rfl rfl ?_
                refine g_aload X137 hx hby at_370 rfl rfl ?_
                have z143 := (Nat.le_trans z138 K137.1)
                refine g_virtual X137 hx hby hZ hown (rm_remW l Z a0 hw [] b11 q1 sd b17 3 [(b14, q0)] [(b20, q2)] ba T137.heap n0 z143 SB Ol137 Bk137) w144_ w145_ (notFace_of_selects (args := #[]) (mvT hZ w147_)) w147_ w146_ w10_ w148_ (by decide) rfl (own_Bk.exa Bk137) (by rw [hml]; rfl) [(.ref b17)] (lenOf own_pd15 rfl) rfl rfl (Nat.le_of_ble_eq_true rfl) (Nat.le_of_ble_eq_true rfl) (Nat.le_of_ble_eq_true rfl) (Nat.le_of_ble_eq_true rfl) at_372 (fun v142 T142 L142 X142 hQ142 => ?_)
                obtain ⟨rfl, N142q, Bq142, K142, Ol142⟩ := hQ142
                have N142 := Fr.app N137 N142q
                have Bk142 : own_Bk Z T142.heap n0 b11 sd ba 3 [(b14, q0), (b20, q2)] := Bq142
                refine g_iload X142 hx hby at_375 rfl ?_
                refine g_ifN X142 hx hby at_377 (feq (by decide : ¬ ((1 : Int32) = (0 : Int32)))).1 ?_
                refine g_iload X142 hx hby at_380 rfl ?_
                refine g_iconst X142 hx hby (2 : Int32) at_382 rfl ?_
                refine g_icY X142 hx hby 393 at_383 (feq (by decide : ¬ ((1 : Int32) = (2 : Int32)))).2 (by decide) (by decide) ?_
                have z144 := (Nat.le_trans z143 K142.1)
                exact JF5 _ _ _ _ _ _ _ _ (X142.mono (by decide) (by decide)) rfl N142 z144 Bk142
               ·skip
                by_cases hr2_ : rmv = (2 : Int32)
                ·subst hr2_
                 refine g_iload X137 hx hby at_287 rfl ?_
                 refine g_ifN X137 hx hby at_289 (feq (by decide : ¬ ((1 : Int32) = (0 : Int32)))).1 ?_
                 refine g_iload X137 hx hby at_292 rfl ?_
                 refine g_ifN X137 hx hby at_294 (feq (by decide : ¬ ((2 : Int32) = (0 : Int32)))).1 ?_
                 refine g_iconst X137 hx hby (1 : Int32) at_297 rfl ?_
                 refine g_goto X137 hx hby 302 at_298 (by decide) (by decide) ?_
                 refine g_istore X137 hx hby at_302 (l' := #[.val (.int fl), .val (.long px), .second, .val (.long py), .second, .val (.long pz), .second, .val (.int bu), .val (.ref sd), .val (.int ua0), .val (.int ua1), .val (.int ua2), .val (.int (1 : Int32)), .val (.int (1 : Int32)), .val (.int (1 : Int32)), .val (.int (2 : Int32)), .val (.long q0), .second, .val (.long q1), .second, .val (.long q2), .second, .val (.ref b11), .val (.ref b14), .val (.ref b17), .val (.ref b20), .val (.int (1 : Int32)), .unset, .unset, .unset, .unset, .unset, .unset]) rfl ?_
                 refine g_iload X137 hx hby at_304 rfl ?_
                 refine g_ifN X137 hx hby at_306 (feq (by decide : ¬ ((1 : Int32) = (0 : Int32)))).1 ?_
                 refine g_iload X137 hx hby at_309 rfl ?_
                 refine g_iconst X137 hx hby (1 : Int32) at_311 rfl ?_
                 refine g_icN X137 hx hby at_312 (feq (by decide : ¬ ((2 : Int32) = (1 : Int32)))).1 ?_
                 refine g_iconst X137 hx hby (1 : Int32) at_315 rfl ?_
                 refine g_goto X137 hx hby 320 at_316 (by decide) (by decide) ?_
                 refine g_istore X137 hx hby at_320 (l' := #[.val (.int fl), .val (.long px), .second, .val (.long py), .second, .val (.long pz), .second, .val (.int bu), .val (.ref sd), .val (.int ua0), .val (.int ua1), .val (.int ua2), .val (.int (1 : Int32)), .val (.int (1 : Int32)), .val (.int (1 : Int32)), .val (.int (2 : Int32)), .val (.long q0), .second, .val (.long q1), .second, .val (.long q2), .second, .val (.ref b11), .val (.ref b14), .val (.ref b17), .val (.ref b20), .val (.int (1 : Int32)), .val (.int (1 : Int32)), .unset, .unset, .unset, .unset, .unset]) rfl ?_
                 refine g_iload X137 hx hby at_322 rfl ?_
                 refine g_ifN X137 hx hby at_324 (feq (by decide : ¬ ((1 : Int32) = (0 : Int32)))).1 ?_
                 refine g_iload X137 hx hby at_327 rfl ?_
                 refine g_iconst X137 hx hby (2 : Int32) at_329 rfl ?_
                 refine g_icY X137 hx hby 337 at_330 (teq (by decide : (2 : Int32) = (2 : Int32))).1 (by decide) (by decide) ?_
                 refine g_iconst X137 hx hby (0 : Int32) at_337 rfl ?_
                 refine g_istore X137 hx hby at_338 (l' := #[.val (.int fl), .val (.long px), .second, .val (.long py), .second, .val (.long pz), .second, .val (.int bu), .val (.ref sd), .val (.int ua0), .val (.int ua1), .val (.int ua2), .val (.int (1 : Int32)), .val (.int (1 : Int32)), .val (.int (1 : Int32)), .val (.int (2 : Int32)), .val (.long q0), .second, .val (.long q1), .second, .val (.long q2), .second, .val (.ref b11), .val (.ref b14), .val (.ref b17), .val (.ref b20), .val (.int (1 : Int32)), .val (.int (1 : Int32)), .val (.int (0 : Int32)), .unset, .unset, .unset, .unset]) rfl ?_
                 refine g_iload X137 hx hby at_340 rfl ?_
                 refine g_ifN X137 hx hby at_342 (feq (by decide : ¬ ((1 : Int32) = (0 : Int32)))).1 ?_
                 refine g_iload X137 hx hby at_345 rfl ?_
                 refine g_ifY X137 hx hby 357 at_347 (feq (by decide : ¬ ((2 : Int32) = (0 : Int32)))).2 (by decide) (by decide) ?_
                 refine g_iload X137 hx hby at_357 rfl ?_
                 refine g_ifN X137 hx hby at_359 (feq (by decide : ¬ ((1 : Int32) = (0 : Int32)))).1 ?_
                 refine g_iload X137 hx hby at_362 rfl ?_
                 refine g_iconst X137 hx hby (1 : Int32) at_364 rfl ?_
                 refine g_icY X137 hx hby 375 at_365 (feq (by decide : ¬ ((2 : Int32) = (1 : Int32)))).2 (by decide) (by decide) ?_
                 refine g_iload X137 hx hby at_375 rfl ?_
                 refine g_ifN X137 hx hby at_377 (feq (by decide : ¬ ((1 : Int32) = (0 : Int32)))).1 ?_
                 refine g_iload X137 hx hby at_380 rfl ?_
                 refine g_iconst X137 hx hby (2 : Int32) at_382 rfl ?_
                 refine g_icN X137 hx hby at_383 (teq (by decide : (2 : Int32) = (2 : Int32))).2 ?_
                 refine g_aload X137 hx hby at_386 rfl rfl ?_
                 refine g_aload X137 hx hby at_388 rfl rfl ?_
                 have z146 := (Nat.le_trans z138 K137.1)
                 refine g_virtual X137 hx hby hZ hown (rm_remW l Z a0 hw [] b11 q2 sd b20 3 [(b14, q0), (b17, q1)] [] ba T137.heap n0 z146 SB Ol137 Bk137) w144_ w145_ (notFace_of_selects (args := #[]) (mvT hZ w147_)) w147_ w146_ w10_ w148_ (by decide) rfl (own_Bk.exa Bk137) (by rw [hml]; rfl) [(.ref b20)] (lenOf own_pd15 rfl) rfl rfl (Nat.le_of_ble_eq_true rfl) (Nat.le_of_ble_eq_true rfl) (Nat.le_of_ble_eq_true rfl) (Nat.le_of_ble_eq_true rfl) at_390 (fun v145 T145 L145 X145 hQ145 => ?_)
                 obtain ⟨rfl, N145q, Bq145, K145, Ol145⟩ := hQ145
                 have N145 := Fr.app N137 N145q
                 have Bk145 : own_Bk Z T145.heap n0 b11 sd ba 3 [(b14, q0), (b17, q1)] := Bq145
                 have z147 := (Nat.le_trans z146 K145.1)
                 exact JF3 _ _ _ _ _ _ _ _ (X145.mono (by decide) (by decide)) rfl N145 z147 Bk145
                ·skip
                 refine g_iload X137 hx hby at_287 rfl ?_
                 refine g_ifN X137 hx hby at_289 (feq (by decide : ¬ ((1 : Int32) = (0 : Int32)))).1 ?_
                 refine g_iload X137 hx hby at_292 rfl ?_
                 refine g_ifN X137 hx hby at_294 (feq (hr0_ : ¬ (rmv = (0 : Int32)))).1 ?_
                 refine g_iconst X137 hx hby (1 : Int32) at_297 rfl ?_
                 refine g_goto X137 hx hby 302 at_298 (by decide) (by decide) ?_
                 refine g_istore X137 hx hby at_302 (l' := #[.val (.int fl), .val (.long px), .second, .val (.long py), .second, .val (.long pz), .second, .val (.int bu), .val (.ref sd), .val (.int ua0), .val (.int ua1), .val (.int ua2), .val (.int (1 : Int32)), .val (.int (1 : Int32)), .val (.int (1 : Int32)), .val (.int rmv), .val (.long q0), .second, .val (.long q1), .second, .val (.long q2), .second, .val (.ref b11), .val (.ref b14), .val (.ref b17), .val (.ref b20), .val (.int (1 : Int32)), .unset, .unset, .unset, .unset, .unset, .unset]) rfl ?_
                 refine g_iload X137 hx hby at_304 rfl ?_
                 refine g_ifN X137 hx hby at_306 (feq (by decide : ¬ ((1 : Int32) = (0 : Int32)))).1 ?_
                 refine g_iload X137 hx hby at_309 rfl ?_
                 refine g_iconst X137 hx hby (1 : Int32) at_311 rfl ?_
                 refine g_icN X137 hx hby at_312 (feq (hr1_ : ¬ (rmv = (1 : Int32)))).1 ?_
                 refine g_iconst X137 hx hby (1 : Int32) at_315 rfl ?_
                 refine g_goto X137 hx hby 320 at_316 (by decide) (by decide) ?_
                 refine g_istore X137 hx hby at_320 (l' := #[.val (.int fl), .val (.long px), .second, .val (.long py), .second, .val (.long pz), .second, .val (.int bu), .val (.ref sd), .val (.int ua0), .val (.int ua1), .val (.int ua2), .val (.int (1 : Int32)), .val (.int (1 : Int32)), .val (.int (1 : Int32)), .val (.int rmv), .val (.long q0), .second, .val (.long q1), .second, .val (.long q2), .second, .val (.ref b11), .val (.ref b14), .val (.ref b17), .val (.ref b20), .val (.int (1 : Int32)), .val (.int (1 : Int32)), .unset, .unset, .unset, .unset, .unset]) rfl ?_
                 refine g_iload X137 hx hby at_322 rfl ?_
                 refine g_ifN X137 hx hby at_324 (feq (by decide : ¬ ((1 : Int32) = (0 : Int32)))).1 ?_
                 refine g_iload X137 hx hby at_327 rfl ?_
                 refine g_iconst X137 hx hby (2 : Int32) at_329 rfl ?_
                 refine g_icN X137 hx hby at_330 (feq (hr2_ : ¬ (rmv = (2 : Int32)))).1 ?_
                 refine g_iconst X137 hx hby (1 : Int32) at_333 rfl ?_
                 refine g_goto X137 hx hby 338 at_334 (by decide) (by decide) ?_
                 refine g_istore X137 hx hby at_338 (l' := #[.val (.int fl), .val (.long px), .second, .val (.long py), .second, .val (.long pz), .second, .val (.int bu), .val (.ref sd), .val (.int ua0), .val (.int ua1), .val (.int ua2), .val (.int (1 : Int32)), .val (.int (1 : Int32)), .val (.int (1 : Int32)), .val (.int rmv), .val (.long q0), .second, .val (.long q1), .second, .val (.long q2), .second, .val (.ref b11), .val (.ref b14), .val (.ref b17), .val (.ref b20), .val (.int (1 : Int32)), .val (.int (1 : Int32)), .val (.int (1 : Int32)), .unset, .unset, .unset, .unset]) rfl ?_
                 refine g_iload X137 hx hby at_340 rfl ?_
                 refine g_ifN X137 hx hby at_342 (feq (by decide : ¬ ((1 : Int32) = (0 : Int32)))).1 ?_
                 refine g_iload X137 hx hby at_345 rfl ?_
                 refine g_ifY X137 hx hby 357 at_347 (feq (hr0_ : ¬ (rmv = (0 : Int32)))).2 (by decide) (by decide) ?_
                 refine g_iload X137 hx hby at_357 rfl ?_
                 refine g_ifN X137 hx hby at_359 (feq (by decide : ¬ ((1 : Int32) = (0 : Int32)))).1 ?_
                 refine g_iload X137 hx hby at_362 rfl ?_
                 refine g_iconst X137 hx hby (1 : Int32) at_364 rfl ?_
                 refine g_icY X137 hx hby 375 at_365 (feq (hr1_ : ¬ (rmv = (1 : Int32)))).2 (by decide) (by decide) ?_
                 refine g_iload X137 hx hby at_375 rfl ?_
                 refine g_ifN X137 hx hby at_377 (feq (by decide : ¬ ((1 : Int32) = (0 : Int32)))).1 ?_
                 refine g_iload X137 hx hby at_380 rfl ?_
                 refine g_iconst X137 hx hby (2 : Int32) at_382 rfl ?_
                 refine g_icY X137 hx hby 393 at_383 (feq (hr2_ : ¬ (rmv = (2 : Int32)))).2 (by decide) (by decide) ?_
                 have z148 := (Nat.le_trans z138 K137.1)
                 exact JF7 _ _ _ _ _ _ _ _ (X137.mono (by decide) (by decide)) rfl N137 z148 Bk137
          by_cases hc165_149 : ua2 = (0 : Int32)
          ·skip
           refine g_ifY X9 hx hby 174 at_165 (teq hc165_149).1 (by decide) (by decide) ?_
           refine g_lconst X9 hx hby (1 : Int64) at_174 rfl ?_
           refine g_lload X9 hx hby at_175 rfl ?_
           refine g_ldc2J X9 hx hby hZ hown w3_ at_177 ?_
           refine g_land X9 hx hby at_180 ?_
           refine g_static X9 hx hby hZ hown (rm_maxL l Z a0 hw [] (1 : Int64) (pz &&& (9223372036854775807 : Int64)) h0 n0 Z0 ) w4_ w5_ w6_ w7_ (by decide) e9 (by rw [hml]; rfl) [(.long (1 : Int64)), (.long (pz &&& (9223372036854775807 : Int64)))] (lenOf own_pd1 rfl) rfl rfl (Nat.le_of_ble_eq_true rfl) (Nat.le_of_ble_eq_true rfl) (Nat.le_of_ble_eq_true rfl) (Nat.le_of_ble_eq_true rfl) at_181 (fun v150 T150 L150 X150 hQ150 => ?_)
           obtain ⟨rfl, N150q, eh150⟩ := hQ150
           have N150 := Fr.app N9 N150q
           exact J10 _ _ _ X150 eh150 N150 (Or.inr (own_max1 _))
          ·skip
           refine g_ifN X9 hx hby at_165 (feq hc165_149).1 ?_
           refine g_ldc2J X9 hx hby hZ hown w71_ at_168 ?_
           refine g_goto X9 hx hby 184 at_171 (by decide) (by decide) ?_
           exact J10 _ _ _ X9 e9 N9 (Or.inl rfl)
         by_cases hc143_151 : ua1 = (0 : Int32)
         ·skip
          refine g_ifY X8 hx hby 152 at_143 (teq hc143_151).1 (by decide) (by decide) ?_
          refine g_lconst X8 hx hby (1 : Int64) at_152 rfl ?_
          refine g_lloadN X8 hx hby at_153 rfl ?_
          refine g_ldc2J X8 hx hby hZ hown w3_ at_154 ?_
          refine g_land X8 hx hby at_157 ?_
          refine g_static X8 hx hby hZ hown (rm_maxL l Z a0 hw [] (1 : Int64) (py &&& (9223372036854775807 : Int64)) h0 n0 Z0 ) w4_ w5_ w6_ w7_ (by decide) e8 (by rw [hml]; rfl) [(.long (1 : Int64)), (.long (py &&& (9223372036854775807 : Int64)))] (lenOf own_pd1 rfl) rfl rfl (Nat.le_of_ble_eq_true rfl) (Nat.le_of_ble_eq_true rfl) (Nat.le_of_ble_eq_true rfl) (Nat.le_of_ble_eq_true rfl) at_158 (fun v152 T152 L152 X152 hQ152 => ?_)
          obtain ⟨rfl, N152q, eh152⟩ := hQ152
          have N152 := Fr.app N8 N152q
          exact J9 _ _ _ X152 eh152 N152 (Or.inr (own_max1 _))
         ·skip
          refine g_ifN X8 hx hby at_143 (feq hc143_151).1 ?_
          refine g_ldc2J X8 hx hby hZ hown w71_ at_146 ?_
          refine g_goto X8 hx hby 161 at_149 (by decide) (by decide) ?_
          exact J9 _ _ _ X8 e8 N8 (Or.inl rfl)
        by_cases hc121_153 : ua0 = (0 : Int32)
        ·skip
         refine g_ifY X7 hx hby 130 at_121 (teq hc121_153).1 (by decide) (by decide) ?_
         refine g_lconst X7 hx hby (1 : Int64) at_130 rfl ?_
         refine g_lloadN X7 hx hby at_131 rfl ?_
         refine g_ldc2J X7 hx hby hZ hown w3_ at_132 ?_
         refine g_land X7 hx hby at_135 ?_
         refine g_static X7 hx hby hZ hown (rm_maxL l Z a0 hw [] (1 : Int64) (px &&& (9223372036854775807 : Int64)) h0 n0 Z0 ) w4_ w5_ w6_ w7_ (by decide) e7 (by rw [hml]; rfl) [(.long (1 : Int64)), (.long (px &&& (9223372036854775807 : Int64)))] (lenOf own_pd1 rfl) rfl rfl (Nat.le_of_ble_eq_true rfl) (Nat.le_of_ble_eq_true rfl) (Nat.le_of_ble_eq_true rfl) (Nat.le_of_ble_eq_true rfl) at_136 (fun v154 T154 L154 X154 hQ154 => ?_)
         obtain ⟨rfl, N154q, eh154⟩ := hQ154
         have N154 := Fr.app N7 N154q
         exact J8 _ _ _ X154 eh154 N154 (Or.inr (own_max1 _))
        ·skip
         refine g_ifN X7 hx hby at_121 (feq hc121_153).1 ?_
         refine g_ldc2J X7 hx hby hZ hown w71_ at_124 ?_
         refine g_goto X7 hx hby 139 at_127 (by decide) (by decide) ?_
         exact J8 _ _ _ X7 e7 N7 (Or.inl rfl)
       by_cases hc101_155 : (fl &&& (64 : Int32)) = (0 : Int32)
       ·skip
        refine g_ifY X6 hx hby 108 at_101 (teq hc101_155).1 (by decide) (by decide) ?_
        refine g_iconst X6 hx hby (0 : Int32) at_108 rfl ?_
        exact J7 _ _ _ X6 e6 N6 (Or.inl rfl)
       ·skip
        refine g_ifN X6 hx hby at_101 (feq hc101_155).1 ?_
        refine g_iconst X6 hx hby (1 : Int32) at_104 rfl ?_
        refine g_goto X6 hx hby 109 at_105 (by decide) (by decide) ?_
        exact J7 _ _ _ X6 e6 N6 (Or.inr rfl)
      by_cases hc87_156 : (fl &&& (32 : Int32)) = (0 : Int32)
      ·skip
       refine g_ifY X5 hx hby 94 at_87 (teq hc87_156).1 (by decide) (by decide) ?_
       refine g_iconst X5 hx hby (0 : Int32) at_94 rfl ?_
       exact J6 _ _ _ X5 e5 N5 (Or.inl rfl)
      ·skip
       refine g_ifN X5 hx hby at_87 (feq hc87_156).1 ?_
       refine g_iconst X5 hx hby (1 : Int32) at_90 rfl ?_
       refine g_goto X5 hx hby 95 at_91 (by decide) (by decide) ?_
       exact J6 _ _ _ X5 e5 N5 (Or.inr rfl)
     by_cases hc73_157 : (fl &&& (16 : Int32)) = (0 : Int32)
     ·skip
      refine g_ifY X4 hx hby 80 at_73 (teq hc73_157).1 (by decide) (by decide) ?_
      refine g_iconst X4 hx hby (0 : Int32) at_80 rfl ?_
      exact J5 _ _ _ X4 e4 N4 (Or.inl rfl)
     ·skip
      refine g_ifN X4 hx hby at_73 (feq hc73_157).1 ?_
      refine g_iconst X4 hx hby (1 : Int32) at_76 rfl ?_
      refine g_goto X4 hx hby 81 at_77 (by decide) (by decide) ?_
      exact J5 _ _ _ X4 e4 N4 (Or.inr rfl)
    by_cases hc59_158 : (fl &&& (8 : Int32)) = (0 : Int32)
    ·skip
     refine g_ifY X3 hx hby 66 at_59 (teq hc59_158).1 (by decide) (by decide) ?_
     refine g_iconst X3 hx hby (0 : Int32) at_66 rfl ?_
     exact J4 _ _ _ X3 e3 N3 (Or.inl rfl)
    ·skip
     refine g_ifN X3 hx hby at_59 (feq hc59_158).1 ?_
     refine g_iconst X3 hx hby (1 : Int32) at_62 rfl ?_
     refine g_goto X3 hx hby 67 at_63 (by decide) (by decide) ?_
     exact J4 _ _ _ X3 e3 N3 (Or.inr rfl)
   by_cases hc45_159 : (fl &&& (4 : Int32)) = (0 : Int32)
   ·skip
    refine g_ifY X2 hx hby 52 at_45 (teq hc45_159).1 (by decide) (by decide) ?_
    refine g_iconst X2 hx hby (0 : Int32) at_52 rfl ?_
    exact J3 _ _ _ X2 e2 N2 (Or.inl rfl)
   ·skip
    refine g_ifN X2 hx hby at_45 (feq hc45_159).1 ?_
    refine g_iconst X2 hx hby (1 : Int32) at_48 rfl ?_
    refine g_goto X2 hx hby 53 at_49 (by decide) (by decide) ?_
    exact J3 _ _ _ X2 e2 N2 (Or.inr rfl)
  by_cases hc32_160 : (fl &&& (2 : Int32)) = (0 : Int32)
  ·skip
   refine g_ifY X1 hx hby 39 at_32 (teq hc32_160).1 (by decide) (by decide) ?_
   refine g_iconst X1 hx hby (0 : Int32) at_39 rfl ?_
   exact J2 _ _ _ X1 e1 N1 (Or.inl rfl)
  ·skip
   refine g_ifN X1 hx hby at_32 (feq hc32_160).1 ?_
   refine g_iconst X1 hx hby (1 : Int32) at_35 rfl ?_
   refine g_goto X1 hx hby 40 at_36 (by decide) (by decide) ?_
   exact J2 _ _ _ X1 e1 N1 (Or.inr rfl)
 by_cases hc3_161 : (fl &&& (1 : Int32)) = (0 : Int32)
 ·skip
  refine g_ifY X0 hx hby 10 at_3 (teq hc3_161).1 (by decide) (by decide) ?_
  refine g_iconst X0 hx hby (0 : Int32) at_10 rfl ?_
  refine g_istore X0 hx hby at_11 (l' := #[.val (.int fl), .val (.long px), .second, .val (.long py), .second, .val (.long pz), .second, .val (.int (0 : Int32)), .unset, .unset, .unset, .unset, .unset, .unset, .unset, .unset, .unset, .unset, .unset, .unset, .unset, .unset, .unset, .unset, .unset, .unset, .unset, .unset, .unset, .unset, .unset, .unset, .unset]) rfl ?_
  refine g_iload X0 hx hby at_13 rfl ?_
  refine g_ifY X0 hx hby 24 at_15 (teq (by decide : (0 : Int32) = (0 : Int32))).1 (by decide) (by decide) ?_
  refine g_getS X0 hx hby hZ hown (host := "") (Or.inl w0_) Via.refl e0 (SS.ext OLD.2) at_24 (fun T162 X162 e162 => ?_)
  refine g_astore X162 hx hby at_27 rfl (l' := #[.val (.int fl), .val (.long px), .second, .val (.long py), .second, .val (.long pz), .second, .val (.int (0 : Int32)), .val (.ref se), .unset, .unset, .unset, .unset, .unset, .unset, .unset, .unset, .unset, .unset, .unset, .unset, .unset, .unset, .unset, .unset, .unset, .unset, .unset, .unset, .unset, .unset, .unset, .unset]) rfl ?_
  exact J1 _ _ _ _ X162 e162 N0 (Or.inl ⟨rfl, nsb⟩)
 ·skip
  refine g_ifN X0 hx hby at_3 (feq hc3_161).1 ?_
  refine g_iconst X0 hx hby (1 : Int32) at_6 rfl ?_
  refine g_goto X0 hx hby 11 at_7 (by decide) (by decide) ?_
  refine g_istore X0 hx hby at_11 (l' := #[.val (.int fl), .val (.long px), .second, .val (.long py), .second, .val (.long pz), .second, .val (.int (1 : Int32)), .unset, .unset, .unset, .unset, .unset, .unset, .unset, .unset, .unset, .unset, .unset, .unset, .unset, .unset, .unset, .unset, .unset, .unset, .unset, .unset, .unset, .unset, .unset, .unset, .unset]) rfl ?_
  refine g_iload X0 hx hby at_13 rfl ?_
  refine g_ifN X0 hx hby at_15 (feq (by decide : ¬ ((1 : Int32) = (0 : Int32)))).1 ?_
  refine g_getS X0 hx hby hZ hown (host := "") (Or.inl w69_) Via.refl e0 (SB.ext OLD.2) at_18 (fun T163 X163 e163 => ?_)
  refine g_goto X163 hx hby 27 at_21 (by decide) (by decide) ?_
  refine g_astore X163 hx hby at_27 rfl (l' := #[.val (.int fl), .val (.long px), .second, .val (.long py), .second, .val (.long pz), .second, .val (.int (1 : Int32)), .val (.ref ba), .unset, .unset, .unset, .unset, .unset, .unset, .unset, .unset, .unset, .unset, .unset, .unset, .unset, .unset, .unset, .unset, .unset, .unset, .unset, .unset, .unset, .unset, .unset, .unset]) rfl ?_
  exact J1 _ _ _ _ X163 e163 N0 (Or.inr ⟨by decide, rfl⟩)


theorem own_eq_int {args : Array Value} {first s : State} {o : Option Outcome} {idx : List Nat} {t : Term} {k : Int32} (h : (Jvm.Cond.eq t (.int k)).value args first o s idx = some true) : t.eval args first o idx s = some (.int k) := by
 obtain ⟨x, y, h1, h2, k1, -⟩ := cmp_v (Or.inl h)
 obtain rfl : y = .int k := Option.some.inj (h2.symm.trans (Term.int_eval k))
 cases x with
 | int z =>
  rw [Cond.value, h1, h2] at h
  have e : z = k := by simpa using h
  rw [h1, e]
 | _ => obtain ⟨z, hz⟩ | ⟨hz, -⟩ := k1 <;> first | cases hz | simp [Value.isRef] at *
set_option maxRecDepth 65536 in
set_option maxHeartbeats 40000000 in
theorem comes_1 {Post : Tables → Env → Array Value → State → Outcome → State → Prop} (hpost : ∀ tb e args s v u, (limb_1_1.after args s (.returned v) u = true ∧ limb_1_2.after args s (.returned v) u = true ∧ True) → FrameEnd s (.returned v) u (Jvm.fieldLocs frame_1_writes args s ++ Jvm.arrayLocs frame_1_arrays args s ++ Jvm.staticLocs frame_1_statics s) 32 256 → Post tb e args s (.returned v) u) :
  ArmFor flags0 classFile x code maxLocals ret World_1 tables_1 room_1 Calls_1 rest_1 Pre_1 Post := by
 intro l hfl _ _ p e ha hc hk s m args below hf hA hF happ hP
 obtain ⟨hcalls, hrest, hpre⟩ := hP
 obtain ⟨-, -, -, hnamed, -, -, -, hat⟩ := (Spec.applies_iff hf).mp happ
 obtain ⟨hg, hn⟩ := and_e (Cond.before_iff.mp (show (Jvm.Cond.and given_1 narrow_1).before args s = true from hpre))
 obtain ⟨hcount, hg1⟩ := and_e hg
 obtain ⟨ga0, hg2⟩ := and_e hg1
 obtain ⟨ga1, hg3⟩ := and_e hg2
 obtain ⟨ga2, hg4⟩ := and_e hg3
 have ga3 := hg4
 obtain ⟨w0, w1, w2, w3, rfl⟩ : ∃ w0 w1 w2 w3 : Value, args = #[w0, w1, w2, w3] := by
  have hs : args.size = 4 := by simpa [Cond.value, given_1] using hcount
  obtain ⟨L⟩ := args
  match L, hs with
  | [w0, w1, w2, w3], _ => exact ⟨w0, w1, w2, w3, rfl⟩
 have hw := fun d (hd : d ∈ tables_1) => atoms_spec (ws := Jvm.Cond.code x code maxLocals ret :: tables_1) hat d (List.mem_cons_of_mem _ hd)
 have hfit : Fit s := fun {y c} hc i hi => by
  obtain ⟨ha, rfl⟩ := Array.getElem?_eq_some_iff.mp hc
  have q := List.all_eq_true.mp ((Array.all_eq_true_iff_forall_mem.mp hF) _ (Array.getElem_mem ha)) i (List.mem_range.mpr hi)
  simpa [Array.getElem?_eq_getElem hi] using q
 obtain ⟨i0, ei0⟩ := is_v ga0
 obtain rfl : w0 = (.int i0) := Option.some.inj ei0
 obtain ⟨i1, ei1⟩ := isL_v ga1
 obtain rfl : w1 = (.long i1) := Option.some.inj ei1
 obtain ⟨i2, ei2⟩ := isL_v ga2
 obtain rfl : w2 = (.long i2) := Option.some.inj ei2
 obtain ⟨i3, ei3⟩ := isL_v ga3
 obtain rfl : w3 = (.long i3) := Option.some.inj ei3
 obtain ⟨uS, hn0⟩ := and_e hn
 obtain ⟨uB, hn1⟩ := and_e hn0
 obtain ⟨vS, vB⟩ := and_e hn1
 obtain ⟨cS, evS⟩ := exa_v uS
 have StS := Sta.start evS (Or.inr ⟨(hw _ (List.mem_of_getElem? (i := 1) rfl)), (hw _ (List.mem_of_getElem? (i := 2) rfl))⟩)
 have OrS := Fld.start ((fld_at evS).symm.trans (own_eq_int vS))
 obtain ⟨cB, evB⟩ := exa_v uB
 have StB := Sta.start evB (Or.inr ⟨(hw _ (List.mem_of_getElem? (i := 1) rfl)), (hw _ (List.mem_of_getElem? (i := 70) rfl))⟩)
 have OrB := Fld.start ((fld_at evB).symm.trans (own_eq_int vB))
 have hne : ¬ cS = cB := Fld.ne OrS OrB (fun q => absurd (Value.int.inj q) (by decide))
 obtain ⟨n, o, h1, h2, h3, _, L, rfl, ⟨rfl, N⟩, hq⟩ := rm_law l s _ hw tables_1 i0 i1 i2 i3 cB cS s.heap s.heap.size (Nat.le_refl _) StB (Old.start s) StS hne p e ha hc hk s m _ below hf ((Spec.applies_iff_loose hf).mp happ).1 ⟨rfl, State.Warmed39.refl s, rfl⟩ trivial
 refine ⟨n, _, h1, h2, h3, hpost _ _ _ _ _ _ ⟨Cond.after_iff.mpr rfl, Cond.after_iff.mpr (eq_i res_at (Term.int_eval (1)) rfl), trivial⟩ ⟨hq.1, hq.2.1, (hq.2.2.sift fun y hy => Or.inr (N y hy)).mono (by decide) (by decide)⟩⟩
theorem main_1_1 : Claimed_1_1 := comes_1 fun _ _ _ _ _ _ h hF => ⟨h.1, hF⟩
theorem main_1_2 : Claimed_1_2 := comes_1 fun _ _ _ _ _ _ h hF => ⟨h.2.1, hF⟩

end Jvm.Pilot.@@N@@
namespace Jvm.Pilot.@@N@@
open Jvm Jvm.ClassFile Sem Op Lib Jvm.Free Jvm.Stand Jvm.Pilot.@@N@@.Jvm.D
/-! MADE BY PROGRAM (witnessworld.py) out of the Statement's table words and the real class files: 21 classes; the members and pool entries that the words name. The judged class is class 1, her method 1. -/
namespace start1
open Jvm.ClassFile
def u (s : String) : CpInfo := .utf8 (stringToUtf16 s)
/-- a pool by its gaps: so many unusable entries, then the entry; so many at the end -/
def gap : Nat → List CpInfo → List CpInfo
  | 0, r => r
  | n + 1, r => .unusable :: gap n r
def poolList (es : List (Nat × CpInfo)) (last : Nat) : List CpInfo := es.foldr (fun e r => gap e.1 (e.2 :: r)) (gap last [])
def pool (es : List (Nat × CpInfo)) (last : Nat) : Array CpInfo := ⟨poolList es last⟩
def fileOf (pool : Array CpInfo) (this : Nat) (attrs : Array Attribute := #[]) (ms : Array MethodInfo := #[]) (fl : Nat := 33) (sup : Nat := 0) (ifs : Array Nat := #[]) (fds : Array FieldInfo := #[]) : ClassFile where
  minorVersion := 0
  majorVersion := 65
  constantPool := pool
  accessFlags := fl
  thisClass := this
  superClass := sup
  interfaces := ifs
  fields := fds
  methods := ms
  attributes := attrs
def plain (name : String) (sup : Option ClassId) : Class where
  name := name
  kind := .ordinary
  loader := none
  accessFlags := 33
  super := sup
  interfaces := #[]
  cf := none
  fields := #[]
  methods := #[]
  instanceTypes := #[]
  staticTypes := #[]
  resolved := #[]
  callSites := []
  init := .initialized
  statics := none
  mirror := none

def pool0 : Array CpInfo := pool [(5, u "<init>"), (0, u "()V"), (1, .class_ 10), (1, u "java/lang/Object")] 113

def k0c0 : Code := { maxStack := 0, maxLocals := 1, code := object_method_1_code, exceptionTable := #[], attributes := #[] }
def k0m0 : Method := { name := "<init>", desc := "()V", sig := { parameters := [], returnType := none }, accessFlags := 1, code := some k0c0 }
/-- java/lang/Object -/
def k0 : Class := { plain "java/lang/Object" none with
  accessFlags := 33
  interfaces := #[]
  cf := some (fileOf pool0 8 #[] #[{ accessFlags := 1, nameIndex := 5, descriptorIndex := 6, attributes := #[] }] 33 0 #[] #[])
  fields := #[]
  methods := #[k0m0]
  instanceTypes := #[]
  staticTypes := #[]
  resolved := Array.replicate 124 none
  statics := none }

def pool1 : Array CpInfo := pool [(2, .class_ 4), (1, u "java/lang/Object"), (0, u "<init>"), (0, u "()V"), (0, .fieldref 8 9), (0, .class_ 10), (0, .nameAndType 11 12), (0, u "com/example/tidegate/tidegate/engine/Side"), (0, u "BUY"), (0, u "Lcom/example/tidegate/tidegate/engine/Side;"), (0, .fieldref 8 14), (0, .nameAndType 15 12), (0, u "SELL"), (0, .class_ 17), (0, u "com/example/tidegate/tidegate/engine/Order"), (0, .long 9223372036854775808), (3, .long 9223372036854775807), (1, .methodref 25 26), (0, .class_ 27), (0, .nameAndType 28 29), (0, u "java/lang/Math"), (0, u "max"), (0, u "(JJ)J"), (0, .class_ 31), (0, u "com/example/tidegate/tidegate/engine/BookSide"), (0, .methodref 30 33), (0, .nameAndType 5 34), (0, u "(Lcom/example/tidegate/tidegate/engine/Side;)V"), (0, .methodref 16 36), (0, .nameAndType 5 37), (0, u "(Ljava/lang/String;Lcom/example/tidegate/tidegate/engine/Security;Lcom/example/tidegate/tidegate/engine/Side;Lcom/example/tidegate/tidegate/engine/OrderType;JJJ)V"), (0, .methodref 30 39), (0, .nameAndType 40 41), (0, u "add"), (0, u "(Lcom/example/tidegate/tidegate/engine/Order;)V"), (0, .methodref 30 43), (0, .nameAndType 44 41), (0, u "remove"), (0, .methodref 46 47), (0, .class_ 48), (0, .nameAndType 49 50), (0, u "com/example/tidegate/tidegate/engine/BookSideFirstPinLaw"), (0, u "beats"), (0, u "(ZJJ)Z"), (0, .methodref 30 52), (0, .nameAndType 53 54), (0, u "first"), (0, u "()Lcom/example/tidegate/tidegate/engine/Order;"), (2, u "law"), (0, u "(IJJJ)Z")] 3

def k1m0 : Method := { name := "<init>", desc := "()V", sig := { parameters := [], returnType := none }, accessFlags := 1, code := none }
def k1c1 : Code := { maxStack := 12, maxLocals := 33, code := code, exceptionTable := #[], attributes := #[] }
def k1m1 : Method := { name := "law", desc := "(IJJJ)Z", sig := { parameters := [.int, .long, .long, .long], returnType := some .boolean }, accessFlags := 9, code := some k1c1 }
def k1c2 : Code := { maxStack := 4, maxLocals := 7, code := method_3_code, exceptionTable := #[], attributes := #[] }
def k1m2 : Method := { name := "beats", desc := "(ZJJ)Z", sig := { parameters := [.boolean, .long, .long], returnType := some .boolean }, accessFlags := 10, code := some k1c2 }
/-- com/example/tidegate/tidegate/engine/BookSideFirstPinLaw -/
def k1 : Class := { plain "com/example/tidegate/tidegate/engine/BookSideFirstPinLaw" (some 0) with
  accessFlags := 49
  interfaces := #[]
  cf := some (fileOf pool1 46 #[] #[{ accessFlags := 1, nameIndex := 5, descriptorIndex := 6, attributes := #[] }, { accessFlags := 9, nameIndex := 57, descriptorIndex := 58, attributes := #[] }, { accessFlags := 10, nameIndex := 49, descriptorIndex := 50, attributes := #[] }] 49 2 #[] #[])
  fields := #[]
  methods := #[k1m0, k1m1, k1m2]
  instanceTypes := #[]
  staticTypes := #[]
  resolved := Array.replicate 62 none
  statics := none }

def pool2 : Array CpInfo := pool [(1, .class_ 2), (0, u "java/lang/constant/Constable"), (0, .class_ 4), (0, u "java/lang/Object")] 6

/-- java/lang/constant/Constable -/
def k2 : Class := { plain "java/lang/constant/Constable" (some 0) with
  accessFlags := 1537
  interfaces := #[]
  cf := some (fileOf pool2 1 #[] #[] 1537 3 #[] #[])
  fields := #[]
  methods := #[]
  instanceTypes := #[]
  staticTypes := #[]
  resolved := Array.replicate 11 none
  statics := none }

def pool3 : Array CpInfo := pool [(1, .class_ 2), (0, u "java/lang/Comparable"), (0, .class_ 4), (0, u "java/lang/Object")] 7

/-- java/lang/Comparable -/
def k3 : Class := { plain "java/lang/Comparable" (some 0) with
  accessFlags := 1537
  interfaces := #[]
  cf := some (fileOf pool3 1 #[] #[] 1537 3 #[] #[])
  fields := #[]
  methods := #[]
  instanceTypes := #[]
  staticTypes := #[]
  resolved := Array.replicate 12 none
  statics := none }

def pool4 : Array CpInfo := pool [(1, .class_ 2), (0, u "java/io/Serializable"), (0, .class_ 4), (0, u "java/lang/Object")] 2

/-- java/io/Serializable -/
def k4 : Class := { plain "java/io/Serializable" (some 0) with
  accessFlags := 1537
  interfaces := #[]
  cf := some (fileOf pool4 1 #[] #[] 1537 3 #[] #[])
  fields := #[]
  methods := #[]
  instanceTypes := #[]
  staticTypes := #[]
  resolved := Array.replicate 7 none
  statics := none }

def pool5 : Array CpInfo := pool [(2, .class_ 4), (1, u "java/lang/Enum"), (0, u "name"), (0, u "Ljava/lang/String;"), (2, u "ordinal"), (0, u "I"), (1, .class_ 14), (1, u "java/lang/Object"), (4, u "hash"), (86, .class_ 108), (1, u "java/lang/Enum$EnumDesc"), (2, .class_ 112), (0, u "java/lang/constant/Constable"), (0, .class_ 114), (0, u "java/lang/Comparable"), (0, .class_ 116), (0, u "java/io/Serializable")] 87

/-- java/lang/Enum -/
def k5 : Class := { plain "java/lang/Enum" (some 0) with
  accessFlags := 1057
  interfaces := #[2, 3, 4]
  cf := some (fileOf pool5 2 #[.nestMembers #[106]] #[] 1057 12 #[111, 113, 115] #[{ accessFlags := 18, nameIndex := 5, descriptorIndex := 6, attributes := #[] }, { accessFlags := 18, nameIndex := 9, descriptorIndex := 10, attributes := #[] }, { accessFlags := 2, nameIndex := 19, descriptorIndex := 10, attributes := #[] }])
  fields := #[{ name := "name", type := (.object "java/lang/String"), accessFlags := 18, slot := 0, constantValue := 0 }, { name := "ordinal", type := .int, accessFlags := 18, slot := 1, constantValue := 0 }, { name := "hash", type := .int, accessFlags := 2, slot := 2, constantValue := 0 }]
  methods := #[]
  instanceTypes := #[(.object "java/lang/String"), .int, .int]
  staticTypes := #[]
  resolved := Array.replicate 204 none
  statics := none }

def pool6 : Array CpInfo := pool [(1, .class_ 2), (0, u "com/example/tidegate/tidegate/engine/Side"), (2, u "BUY"), (0, u "Lcom/example/tidegate/tidegate/engine/Side;"), (2, u "SELL"), (2, u "$VALUES"), (0, u "[Lcom/example/tidegate/tidegate/engine/Side;"), (6, .class_ 22), (1, u "java/lang/Enum")] 27

/-- com/example/tidegate/tidegate/engine/Side -/
def k6 : Class := { plain "com/example/tidegate/tidegate/engine/Side" (some 5) with
  accessFlags := 16433
  interfaces := #[]
  cf := some (fileOf pool6 1 #[] #[] 16433 20 #[] #[{ accessFlags := 16409, nameIndex := 5, descriptorIndex := 6, attributes := #[] }, { accessFlags := 16409, nameIndex := 9, descriptorIndex := 6, attributes := #[] }, { accessFlags := 4122, nameIndex := 12, descriptorIndex := 13, attributes := #[] }])
  fields := #[{ name := "BUY", type := (.object "com/example/tidegate/tidegate/engine/Side"), accessFlags := 16409, slot := 0, constantValue := 0 }, { name := "SELL", type := (.object "com/example/tidegate/tidegate/engine/Side"), accessFlags := 16409, slot := 1, constantValue := 0 }, { name := "$VALUES", type := (.array (.object "com/example/tidegate/tidegate/engine/Side")), accessFlags := 4122, slot := 2, constantValue := 0 }]
  methods := #[]
  instanceTypes := #[(.object "java/lang/String"), .int, .int]
  staticTypes := #[(.object "com/example/tidegate/tidegate/engine/Side"), (.object "com/example/tidegate/tidegate/engine/Side"), (.array (.object "com/example/tidegate/tidegate/engine/Side"))]
  resolved := Array.replicate 50 none
  statics := some 0 }

def pool7 : Array CpInfo := pool [(1, .class_ 2), (0, u "java/lang/Math"), (1, .class_ 6), (1, u "java/lang/Object"), (0, u "<init>"), (0, u "()V"), (89, .class_ 100), (1, u "java/lang/Math$RandomNumberGeneratorHolder"), (20, u "(JJ)J"), (50, u "negativeZeroFloatBits"), (0, u "J"), (2, u "negativeZeroDoubleBits"), (21, u "max"), (2, u "min"), (43, u "$assertionsDisabled"), (0, u "Z"), (88, u "(II)I"), (2, u "twoToTheDoubleScaleDown"), (0, u "D"), (4, u "twoToTheDoubleScaleUp"), (9, u "E"), (3, u "PI"), (2, u "TAU"), (2, u "DEGREES_TO_RADIANS"), (0, u "RADIANS_TO_DEGREES")] 94

def k7m0 : Method := { name := "<init>", desc := "()V", sig := { parameters := [], returnType := none }, accessFlags := 2, code := none }
def k7c1 : Code := { maxStack := 2, maxLocals := 2, code := jdk_29_method_65_code, exceptionTable := #[], attributes := #[] }
def k7m1 : Method := { name := "max", desc := "(II)I", sig := { parameters := [.int, .int], returnType := some .int }, accessFlags := 9, code := some k7c1 }
def k7c2 : Code := { maxStack := 4, maxLocals := 4, code := jdk_29_method_66_code, exceptionTable := #[], attributes := #[] }
def k7m2 : Method := { name := "max", desc := "(JJ)J", sig := { parameters := [.long, .long], returnType := some .long }, accessFlags := 9, code := some k7c2 }
def k7c3 : Code := { maxStack := 4, maxLocals := 4, code := jdk_29_method_70_code, exceptionTable := #[], attributes := #[] }
def k7m3 : Method := { name := "min", desc := "(JJ)J", sig := { parameters := [.long, .long], returnType := some .long }, accessFlags := 9, code := some k7c3 }
/-- java/lang/Math -/
def k7 : Class := { plain "java/lang/Math" (some 0) with
  accessFlags := 49
  interfaces := #[]
  cf := some (fileOf pool7 1 #[.nestMembers #[98]] #[{ accessFlags := 2, nameIndex := 7, descriptorIndex := 8, attributes := #[] }, { accessFlags := 9, nameIndex := 198, descriptorIndex := 335, attributes := #[] }, { accessFlags := 9, nameIndex := 198, descriptorIndex := 121, attributes := #[] }, { accessFlags := 9, nameIndex := 201, descriptorIndex := 121, attributes := #[] }] 49 4 #[] #[{ accessFlags := 25, nameIndex := 354, descriptorIndex := 339, attributes := #[] }, { accessFlags := 25, nameIndex := 358, descriptorIndex := 339, attributes := #[] }, { accessFlags := 25, nameIndex := 361, descriptorIndex := 339, attributes := #[] }, { accessFlags := 26, nameIndex := 364, descriptorIndex := 339, attributes := #[] }, { accessFlags := 26, nameIndex := 365, descriptorIndex := 339, attributes := #[] }, { accessFlags := 26, nameIndex := 172, descriptorIndex := 173, attributes := #[] }, { accessFlags := 26, nameIndex := 176, descriptorIndex := 173, attributes := #[] }, { accessFlags := 8, nameIndex := 344, descriptorIndex := 339, attributes := #[] }, { accessFlags := 8, nameIndex := 338, descriptorIndex := 339, attributes := #[] }, { accessFlags := 4120, nameIndex := 245, descriptorIndex := 246, attributes := #[] }])
  fields := #[{ name := "E", type := .double, accessFlags := 25, slot := 0, constantValue := 0 }, { name := "PI", type := .double, accessFlags := 25, slot := 1, constantValue := 0 }, { name := "TAU", type := .double, accessFlags := 25, slot := 2, constantValue := 0 }, { name := "DEGREES_TO_RADIANS", type := .double, accessFlags := 26, slot := 3, constantValue := 0 }, { name := "RADIANS_TO_DEGREES", type := .double, accessFlags := 26, slot := 4, constantValue := 0 }, { name := "negativeZeroFloatBits", type := .long, accessFlags := 26, slot := 5, constantValue := 0 }, { name := "negativeZeroDoubleBits", type := .long, accessFlags := 26, slot := 6, constantValue := 0 }, { name := "twoToTheDoubleScaleUp", type := .double, accessFlags := 8, slot := 7, constantValue := 0 }, { name := "twoToTheDoubleScaleDown", type := .double, accessFlags := 8, slot := 8, constantValue := 0 }, { name := "$assertionsDisabled", type := .boolean, accessFlags := 4120, slot := 9, constantValue := 0 }]
  methods := #[k7m0, k7m1, k7m2, k7m3]
  instanceTypes := #[]
  staticTypes := #[.double, .double, .double, .double, .double, .long, .long, .double, .double, .boolean]
  resolved := Array.replicate 460 none
  statics := none }

def pool8 : Array CpInfo := pool [(1, .methodref 2 3), (0, .class_ 4), (0, .nameAndType 5 6), (0, u "java/lang/Object"), (0, u "<init>"), (0, u "()V"), (0, .class_ 8), (0, u "com/example/tidegate/tidegate/engine/BookSide"), (0, .fieldref 7 10), (0, .nameAndType 11 12), (0, u "ranks"), (0, u "[J"), (0, .class_ 14), (0, u "com/example/tidegate/tidegate/engine/BookSide$Level"), (0, .fieldref 7 16), (0, .nameAndType 17 18), (0, u "levels"), (0, u "[Lcom/example/tidegate/tidegate/engine/BookSide$Level;"), (0, .class_ 20), (0, u "com/example/tidegate/tidegate/engine/Order"), (0, .long 9223372036854775808), (1, .methodref 13 24), (0, .nameAndType 5 25), (0, u "(J)V"), (0, .fieldref 7 27), (0, .nameAndType 28 29), (0, u "unpriced"), (0, u "Lcom/example/tidegate/tidegate/engine/BookSide$Level;"), (0, .fieldref 7 31), (0, .nameAndType 32 33), (0, u "side"), (0, u "Lcom/example/tidegate/tidegate/engine/Side;"), (0, .fieldref 13 35), (0, .nameAndType 36 37), (0, u "first"), (0, u "Lcom/example/tidegate/tidegate/engine/Order;"), (0, .fieldref 7 39), (0, .nameAndType 40 41), (0, u "levelCount"), (0, u "I"), (3, u "J"), (6, .methodref 19 53), (0, .nameAndType 54 55), (0, u "getRemaining"), (0, u "()J"), (0, .fieldref 19 57), (0, .nameAndType 58 37), (0, u "next"), (0, .fieldref 7 60), (0, .nameAndType 61 45), (0, u "quantity"), (0, .methodref 19 63), (0, .nameAndType 64 6), (0, u "startSlice"), (0, .methodref 19 66), (0, .nameAndType 67 68), (0, u "hasPrice"), (0, u "()Z"), (0, .methodref 19 70), (0, .nameAndType 71 55), (0, u "getPrice"), (0, .methodref 7 73), (0, .nameAndType 74 75), (0, u "levelAt"), (0, u "(J)Lcom/example/tidegate/tidegate/engine/BookSide$Level;"), (0, .fieldref 19 77), (0, .nameAndType 78 79), (0, u "restingOn"), (0, u "Lcom/example/tidegate/tidegate/engine/BookSide;"), (0, .fieldref 13 81), (0, .nameAndType 82 37), (0, u "last"), (0, .fieldref 19 84), (0, .nameAndType 85 37), (0, u "previous"), (6, .methodref 7 93), (0, .nameAndType 94 95), (0, u "indexOf"), (0, u "(J)I"), (0, .methodref 97 98), (0, .class_ 99), (0, .nameAndType 100 101), (0, u "java/lang/System"), (0, u "arraycopy"), (0, u "(Ljava/lang/Object;ILjava/lang/Object;II)V"), (7, .methodref 7 110), (0, .nameAndType 111 112), (0, u "rank"), (0, u "(J)J"), (0, .methodref 114 115), (0, .class_ 116), (0, .nameAndType 117 118), (0, u "java/lang/Math"), (0, u "max"), (0, u "(II)I"), (0, .methodref 120 121), (0, .class_ 122), (0, .nameAndType 123 124), (0, u "java/util/Arrays"), (0, u "binarySearch"), (0, u "([JIIJ)I"), (8, .fieldref 134 135), (0, .class_ 136), (0, .nameAndType 137 33), (0, u "com/example/tidegate/tidegate/engine/Side"), (0, u "BUY"), (0, u "FIRST_CAPACITY"), (2, u "(Lcom/example/tidegate/tidegate/engine/Side;)V"), (2, u "()Lcom/example/tidegate/tidegate/engine/Order;"), (7, u "add"), (0, u "(Lcom/example/tidegate/tidegate/engine/Order;)V"), (1, u "remove")] 11

def k8c0 : Code := { maxStack := 5, maxLocals := 2, code := prog_2_method_1_code, exceptionTable := #[], attributes := #[] }
def k8m0 : Method := { name := "<init>", desc := "(Lcom/example/tidegate/tidegate/engine/Side;)V", sig := { parameters := [(.object "com/example/tidegate/tidegate/engine/Side")], returnType := none }, accessFlags := 0, code := some k8c0 }
def k8c1 : Code := { maxStack := 3, maxLocals := 1, code := prog_2_method_2_code, exceptionTable := #[], attributes := #[] }
def k8m1 : Method := { name := "first", desc := "()Lcom/example/tidegate/tidegate/engine/Order;", sig := { parameters := [], returnType := some (.object "com/example/tidegate/tidegate/engine/Order") }, accessFlags := 0, code := some k8c1 }
def k8c2 : Code := { maxStack := 5, maxLocals := 3, code := prog_2_method_7_code, exceptionTable := #[], attributes := #[] }
def k8m2 : Method := { name := "add", desc := "(Lcom/example/tidegate/tidegate/engine/Order;)V", sig := { parameters := [(.object "com/example/tidegate/tidegate/engine/Order")], returnType := none }, accessFlags := 0, code := some k8c2 }
def k8c3 : Code := { maxStack := 6, maxLocals := 4, code := prog_2_method_10_code, exceptionTable := #[], attributes := #[] }
def k8m3 : Method := { name := "remove", desc := "(Lcom/example/tidegate/tidegate/engine/Order;)V", sig := { parameters := [(.object "com/example/tidegate/tidegate/engine/Order")], returnType := none }, accessFlags := 0, code := some k8c3 }
def k8c4 : Code := { maxStack := 5, maxLocals := 8, code := prog_2_method_12_code, exceptionTable := #[], attributes := #[] }
def k8m4 : Method := { name := "indexOf", desc := "(J)I", sig := { parameters := [.long], returnType := some .int }, accessFlags := 2, code := some k8c4 }
def k8c5 : Code := { maxStack := 6, maxLocals := 5, code := prog_2_method_13_code, exceptionTable := #[], attributes := #[] }
def k8m5 : Method := { name := "levelAt", desc := "(J)Lcom/example/tidegate/tidegate/engine/BookSide$Level;", sig := { parameters := [.long], returnType := some (.object "com/example/tidegate/tidegate/engine/BookSide$Level") }, accessFlags := 2, code := some k8c5 }
def k8c6 : Code := { maxStack := 2, maxLocals := 3, code := prog_2_method_14_code, exceptionTable := #[], attributes := #[] }
def k8m6 : Method := { name := "rank", desc := "(J)J", sig := { parameters := [.long], returnType := some .long }, accessFlags := 2, code := some k8c6 }
/-- com/example/tidegate/tidegate/engine/BookSide -/
def k8 : Class := { plain "com/example/tidegate/tidegate/engine/BookSide" (some 0) with
  accessFlags := 48
  interfaces := #[]
  cf := some (fileOf pool8 7 #[.nestMembers #[13]] #[{ accessFlags := 0, nameIndex := 5, descriptorIndex := 141, attributes := #[] }, { accessFlags := 0, nameIndex := 36, descriptorIndex := 144, attributes := #[] }, { accessFlags := 0, nameIndex := 152, descriptorIndex := 153, attributes := #[] }, { accessFlags := 0, nameIndex := 155, descriptorIndex := 153, attributes := #[] }, { accessFlags := 2, nameIndex := 94, descriptorIndex := 95, attributes := #[] }, { accessFlags := 2, nameIndex := 74, descriptorIndex := 75, attributes := #[] }, { accessFlags := 2, nameIndex := 111, descriptorIndex := 112, attributes := #[] }] 48 2 #[] #[{ accessFlags := 26, nameIndex := 138, descriptorIndex := 41, attributes := #[] }, { accessFlags := 18, nameIndex := 32, descriptorIndex := 33, attributes := #[] }, { accessFlags := 2, nameIndex := 11, descriptorIndex := 12, attributes := #[] }, { accessFlags := 2, nameIndex := 17, descriptorIndex := 18, attributes := #[] }, { accessFlags := 2, nameIndex := 40, descriptorIndex := 41, attributes := #[] }, { accessFlags := 18, nameIndex := 28, descriptorIndex := 29, attributes := #[] }, { accessFlags := 2, nameIndex := 61, descriptorIndex := 45, attributes := #[] }])
  fields := #[{ name := "FIRST_CAPACITY", type := .int, accessFlags := 26, slot := 0, constantValue := 0 }, { name := "side", type := (.object "com/example/tidegate/tidegate/engine/Side"), accessFlags := 18, slot := 0, constantValue := 0 }, { name := "ranks", type := (.array .long), accessFlags := 2, slot := 1, constantValue := 0 }, { name := "levels", type := (.array (.object "com/example/tidegate/tidegate/engine/BookSide$Level")), accessFlags := 2, slot := 2, constantValue := 0 }, { name := "levelCount", type := .int, accessFlags := 2, slot := 3, constantValue := 0 }, { name := "unpriced", type := (.object "com/example/tidegate/tidegate/engine/BookSide$Level"), accessFlags := 18, slot := 4, constantValue := 0 }, { name := "quantity", type := .long, accessFlags := 2, slot := 5, constantValue := 0 }]
  methods := #[k8m0, k8m1, k8m2, k8m3, k8m4, k8m5, k8m6]
  instanceTypes := #[(.object "com/example/tidegate/tidegate/engine/Side"), (.array .long), (.array (.object "com/example/tidegate/tidegate/engine/BookSide$Level")), .int, (.object "com/example/tidegate/tidegate/engine/BookSide$Level"), .long]
  staticTypes := #[.int]
  resolved := ((Array.replicate 167 none).setIfInBounds 34 (some (.field 9 1))).setIfInBounds 80 (some (.field 9 2))
  statics := none }

def pool9 : Array CpInfo := pool [(1, .methodref 2 3), (0, .class_ 4), (0, .nameAndType 5 6), (0, u "java/lang/Object"), (0, u "<init>"), (0, u "()V"), (0, .fieldref 8 9), (0, .class_ 10), (0, .nameAndType 11 12), (0, u "com/example/tidegate/tidegate/engine/BookSide$Level"), (0, u "price"), (0, u "J"), (2, u "first"), (0, u "Lcom/example/tidegate/tidegate/engine/Order;"), (11, u "last"), (0, u "(J)V"), (10, .class_ 41), (0, u "com/example/tidegate/tidegate/engine/BookSide")] 2

def k9c0 : Code := { maxStack := 3, maxLocals := 3, code := prog_3_method_1_code, exceptionTable := #[], attributes := #[] }
def k9m0 : Method := { name := "<init>", desc := "(J)V", sig := { parameters := [.long], returnType := none }, accessFlags := 0, code := some k9c0 }
/-- com/example/tidegate/tidegate/engine/BookSide$Level -/
def k9 : Class := { plain "com/example/tidegate/tidegate/engine/BookSide$Level" (some 0) with
  accessFlags := 48
  interfaces := #[]
  cf := some (fileOf pool9 8 #[.nestHost 40] #[{ accessFlags := 0, nameIndex := 5, descriptorIndex := 29, attributes := #[] }] 48 2 #[] #[{ accessFlags := 18, nameIndex := 11, descriptorIndex := 12, attributes := #[] }, { accessFlags := 2, nameIndex := 15, descriptorIndex := 16, attributes := #[] }, { accessFlags := 2, nameIndex := 28, descriptorIndex := 16, attributes := #[] }])
  fields := #[{ name := "price", type := .long, accessFlags := 18, slot := 0, constantValue := 0 }, { name := "first", type := (.object "com/example/tidegate/tidegate/engine/Order"), accessFlags := 2, slot := 1, constantValue := 0 }, { name := "last", type := (.object "com/example/tidegate/tidegate/engine/Order"), accessFlags := 2, slot := 2, constantValue := 0 }]
  methods := #[k9m0]
  instanceTypes := #[.long, (.object "com/example/tidegate/tidegate/engine/Order"), (.object "com/example/tidegate/tidegate/engine/Order")]
  staticTypes := #[]
  resolved := Array.replicate 44 none
  statics := none }

def pool10 : Array CpInfo := pool [(3, .methodref 4 5), (0, .class_ 6), (0, .nameAndType 7 8), (0, u "java/lang/Object"), (0, u "<init>"), (0, u "()V"), (0, .fieldref 10 11), (0, .class_ 12), (0, .nameAndType 13 14), (0, u "com/example/tidegate/tidegate/engine/Order"), (0, u "id"), (0, u "Ljava/lang/String;"), (0, .fieldref 10 16), (0, .nameAndType 17 18), (0, u "security"), (0, u "Lcom/example/tidegate/tidegate/engine/Security;"), (0, .fieldref 10 20), (0, .nameAndType 21 22), (0, u "side"), (0, u "Lcom/example/tidegate/tidegate/engine/Side;"), (0, .fieldref 10 24), (0, .nameAndType 25 26), (0, u "type"), (0, u "Lcom/example/tidegate/tidegate/engine/OrderType;"), (0, .fieldref 10 28), (0, .nameAndType 29 30), (0, u "quantity"), (0, u "J"), (0, .fieldref 10 32), (0, .nameAndType 33 30), (0, u "price"), (0, .fieldref 10 35), (0, .nameAndType 36 30), (0, u "peak"), (0, .fieldref 10 38), (0, .nameAndType 39 30), (0, u "remaining"), (0, .long 9223372036854775808), (1, .fieldref 10 43), (0, .nameAndType 44 30), (0, u "slice"), (1, .class_ 48), (1, u "java/lang/Math"), (1, u "(JJ)J"), (0, .methodref 46 52), (0, .nameAndType 53 50), (0, u "min"), (0, u "NO_PRICE"), (1, u "restingOn"), (0, u "Lcom/example/tidegate/tidegate/engine/BookSide;"), (0, u "previous"), (0, u "Lcom/example/tidegate/tidegate/engine/Order;"), (0, u "next"), (0, u "(Ljava/lang/String;Lcom/example/tidegate/tidegate/engine/Security;Lcom/example/tidegate/tidegate/engine/Side;Lcom/example/tidegate/tidegate/engine/OrderType;JJJ)V"), (11, u "()J"), (0, u "getPrice"), (0, u "hasPrice"), (0, u "()Z"), (1, u "getRemaining"), (4, u "startSlice")] 3

def k10c0 : Code := { maxStack := 3, maxLocals := 11, code := prog_19_method_1_code, exceptionTable := #[], attributes := #[] }
def k10m0 : Method := { name := "<init>", desc := "(Ljava/lang/String;Lcom/example/tidegate/tidegate/engine/Security;Lcom/example/tidegate/tidegate/engine/Side;Lcom/example/tidegate/tidegate/engine/OrderType;JJJ)V", sig := { parameters := [(.object "java/lang/String"), (.object "com/example/tidegate/tidegate/engine/Security"), (.object "com/example/tidegate/tidegate/engine/Side"), (.object "com/example/tidegate/tidegate/engine/OrderType"), .long, .long, .long], returnType := none }, accessFlags := 0, code := some k10c0 }
def k10c1 : Code := { maxStack := 2, maxLocals := 1, code := prog_19_method_7_code, exceptionTable := #[], attributes := #[] }
def k10m1 : Method := { name := "getPrice", desc := "()J", sig := { parameters := [], returnType := some .long }, accessFlags := 1, code := some k10c1 }
def k10c2 : Code := { maxStack := 4, maxLocals := 1, code := prog_19_method_8_code, exceptionTable := #[], attributes := #[] }
def k10m2 : Method := { name := "hasPrice", desc := "()Z", sig := { parameters := [], returnType := some .boolean }, accessFlags := 1, code := some k10c2 }
def k10c3 : Code := { maxStack := 2, maxLocals := 1, code := prog_19_method_9_code, exceptionTable := #[], attributes := #[] }
def k10m3 : Method := { name := "getRemaining", desc := "()J", sig := { parameters := [], returnType := some .long }, accessFlags := 1, code := some k10c3 }
def k10c4 : Code := { maxStack := 5, maxLocals := 1, code := prog_19_method_13_code, exceptionTable := #[], attributes := #[] }
def k10m4 : Method := { name := "startSlice", desc := "()V", sig := { parameters := [], returnType := none }, accessFlags := 0, code := some k10c4 }
/-- com/example/tidegate/tidegate/engine/Order -/
def k10 : Class := { plain "com/example/tidegate/tidegate/engine/Order" (some 0) with
  accessFlags := 49
  interfaces := #[]
  cf := some (fileOf pool10 10 #[] #[{ accessFlags := 0, nameIndex := 7, descriptorIndex := 61, attributes := #[] }, { accessFlags := 1, nameIndex := 74, descriptorIndex := 73, attributes := #[] }, { accessFlags := 1, nameIndex := 75, descriptorIndex := 76, attributes := #[] }, { accessFlags := 1, nameIndex := 78, descriptorIndex := 73, attributes := #[] }, { accessFlags := 0, nameIndex := 83, descriptorIndex := 8, attributes := #[] }] 49 4 #[] #[{ accessFlags := 24, nameIndex := 54, descriptorIndex := 30, attributes := #[] }, { accessFlags := 18, nameIndex := 13, descriptorIndex := 14, attributes := #[] }, { accessFlags := 18, nameIndex := 17, descriptorIndex := 18, attributes := #[] }, { accessFlags := 18, nameIndex := 21, descriptorIndex := 22, attributes := #[] }, { accessFlags := 18, nameIndex := 25, descriptorIndex := 26, attributes := #[] }, { accessFlags := 18, nameIndex := 29, descriptorIndex := 30, attributes := #[] }, { accessFlags := 18, nameIndex := 36, descriptorIndex := 30, attributes := #[] }, { accessFlags := 2, nameIndex := 33, descriptorIndex := 30, attributes := #[] }, { accessFlags := 2, nameIndex := 39, descriptorIndex := 30, attributes := #[] }, { accessFlags := 2, nameIndex := 44, descriptorIndex := 30, attributes := #[] }, { accessFlags := 0, nameIndex := 56, descriptorIndex := 57, attributes := #[] }, { accessFlags := 0, nameIndex := 58, descriptorIndex := 59, attributes := #[] }, { accessFlags := 0, nameIndex := 60, descriptorIndex := 59, attributes := #[] }])
  fields := #[{ name := "NO_PRICE", type := .long, accessFlags := 24, slot := 0, constantValue := 0 }, { name := "id", type := (.object "java/lang/String"), accessFlags := 18, slot := 0, constantValue := 0 }, { name := "security", type := (.object "com/example/tidegate/tidegate/engine/Security"), accessFlags := 18, slot := 1, constantValue := 0 }, { name := "side", type := (.object "com/example/tidegate/tidegate/engine/Side"), accessFlags := 18, slot := 2, constantValue := 0 }, { name := "type", type := (.object "com/example/tidegate/tidegate/engine/OrderType"), accessFlags := 18, slot := 3, constantValue := 0 }, { name := "quantity", type := .long, accessFlags := 18, slot := 4, constantValue := 0 }, { name := "peak", type := .long, accessFlags := 18, slot := 5, constantValue := 0 }, { name := "price", type := .long, accessFlags := 2, slot := 6, constantValue := 0 }, { name := "remaining", type := .long, accessFlags := 2, slot := 7, constantValue := 0 }, { name := "slice", type := .long, accessFlags := 2, slot := 8, constantValue := 0 }, { name := "restingOn", type := (.object "com/example/tidegate/tidegate/engine/BookSide"), accessFlags := 0, slot := 9, constantValue := 0 }, { name := "previous", type := (.object "com/example/tidegate/tidegate/engine/Order"), accessFlags := 0, slot := 10, constantValue := 0 }, { name := "next", type := (.object "com/example/tidegate/tidegate/engine/Order"), accessFlags := 0, slot := 11, constantValue := 0 }]
  methods := #[k10m0, k10m1, k10m2, k10m3, k10m4]
  instanceTypes := #[(.object "java/lang/String"), (.object "com/example/tidegate/tidegate/engine/Security"), (.object "com/example/tidegate/tidegate/engine/Side"), (.object "com/example/tidegate/tidegate/engine/OrderType"), .long, .long, .long, .long, .long, (.object "com/example/tidegate/tidegate/engine/BookSide"), (.object "com/example/tidegate/tidegate/engine/Order"), (.object "com/example/tidegate/tidegate/engine/Order")]
  staticTypes := #[.long]
  resolved := Array.replicate 87 none
  statics := none }

def pool11 : Array CpInfo := pool [(2, .class_ 4), (1, u "java/lang/Object"), (0, u "<init>"), (0, u "()V"), (6, .methodref 14 15), (0, .class_ 16), (0, .nameAndType 17 18), (0, u "java/util/Arrays"), (0, u "rangeCheck"), (0, u "(III)V"), (55, .class_ 76), (1, u "java/util/Arrays$NaturalOrder"), (36, .class_ 115), (1, u "java/util/Arrays$LegacyMergeSort"), (1, u "Z"), (87, .methodref 14 206), (0, .nameAndType 207 208), (0, u "binarySearch0"), (0, u "([JIIJ)I"), (166, .class_ 376), (0, u "java/util/Arrays$ArrayList"), (68, u "$assertionsDisabled"), (269, u "MIN_ARRAY_SORT_GRAN"), (0, u "I"), (2, u "INSERTIONSORT_THRESHOLD"), (74, u "binarySearch"), (180, .class_ 976), (0, u "java/util/Arrays$ArrayItr")] 52

def k11m0 : Method := { name := "<init>", desc := "()V", sig := { parameters := [], returnType := none }, accessFlags := 2, code := none }
def k11c1 : Code := { maxStack := 4, maxLocals := 3, code := jdk_65_method_30_code, exceptionTable := #[], attributes := #[] }
def k11m1 : Method := { name := "rangeCheck", desc := "(III)V", sig := { parameters := [.int, .int, .int], returnType := none }, accessFlags := 8, code := some k11c1 }
def k11c2 : Code := { maxStack := 5, maxLocals := 5, code := jdk_65_method_55_code, exceptionTable := #[], attributes := #[] }
def k11m2 : Method := { name := "binarySearch", desc := "([JIIJ)I", sig := { parameters := [(.array .long), .int, .int, .long], returnType := some .int }, accessFlags := 9, code := some k11c2 }
def k11c3 : Code := { maxStack := 4, maxLocals := 10, code := jdk_65_method_56_code, exceptionTable := #[], attributes := #[] }
def k11m3 : Method := { name := "binarySearch0", desc := "([JIIJ)I", sig := { parameters := [(.array .long), .int, .int, .long], returnType := some .int }, accessFlags := 10, code := some k11c3 }
/-- java/util/Arrays -/
def k11 : Class := { plain "java/util/Arrays" (some 0) with
  accessFlags := 49
  interfaces := #[]
  cf := some (fileOf pool11 14 #[.nestMembers #[975, 375, 113, 74]] #[{ accessFlags := 2, nameIndex := 5, descriptorIndex := 6, attributes := #[] }, { accessFlags := 8, nameIndex := 17, descriptorIndex := 18, attributes := #[] }, { accessFlags := 9, nameIndex := 794, descriptorIndex := 208, attributes := #[] }, { accessFlags := 10, nameIndex := 207, descriptorIndex := 208, attributes := #[] }] 49 2 #[] #[{ accessFlags := 26, nameIndex := 715, descriptorIndex := 716, attributes := #[] }, { accessFlags := 26, nameIndex := 719, descriptorIndex := 716, attributes := #[] }, { accessFlags := 4120, nameIndex := 445, descriptorIndex := 117, attributes := #[] }])
  fields := #[{ name := "MIN_ARRAY_SORT_GRAN", type := .int, accessFlags := 26, slot := 0, constantValue := 0 }, { name := "INSERTIONSORT_THRESHOLD", type := .int, accessFlags := 26, slot := 1, constantValue := 0 }, { name := "$assertionsDisabled", type := .boolean, accessFlags := 4120, slot := 2, constantValue := 0 }]
  methods := #[k11m0, k11m1, k11m2, k11m3]
  instanceTypes := #[]
  staticTypes := #[.int, .int, .boolean]
  resolved := Array.replicate 1029 none
  statics := none }

def pool12 : Array CpInfo := pool [(2, .class_ 4), (1, u "java/lang/Object"), (0, u "<init>"), (0, u "()V"), (1, .class_ 10), (1, u "java/lang/System"), (0, u "allowSecurityManager"), (0, u "I"), (16, u "cons"), (0, u "Ljava/io/Console;"), (77, .class_ 110), (1, u "java/lang/System$CallersHolder"), (43, u "initialErrStream"), (0, u "Ljava/io/PrintStream;"), (19, u "security"), (0, u "Ljava/lang/SecurityManager;"), (31, .class_ 209), (0, u "java/lang/System$1"), (7, u "props"), (0, u "Ljava/util/Properties;"), (2, u "lineSeparator"), (0, u "Ljava/lang/String;"), (96, .class_ 321), (1, u "java/lang/System$LoggerFinder"), (5, .class_ 328), (0, u "java/lang/System$Logger"), (67, u "err"), (2, u "out"), (91, u "notSupportedJnuEncoding"), (15, u "in"), (17, u "initialIn"), (0, u "Ljava/io/InputStream;"), (35, u "bootLayer"), (0, u "Ljava/lang/ModuleLayer;"), (99, .class_ 664), (0, u "java/lang/System$2"), (9, u "NEVER"), (2, u "MAYBE"), (49, u "arraycopy"), (0, u "(Ljava/lang/Object;ILjava/lang/Object;II)V"), (72, .class_ 802), (0, u "java/lang/System$Logger$Level")] 31

def k12m0 : Method := { name := "<init>", desc := "()V", sig := { parameters := [], returnType := none }, accessFlags := 2, code := none }
def k12m1 : Method := { name := "arraycopy", desc := "(Ljava/lang/Object;ILjava/lang/Object;II)V", sig := { parameters := [(.object "java/lang/Object"), .int, (.object "java/lang/Object"), .int, .int], returnType := none }, accessFlags := 265, code := none }
/-- java/lang/System -/
def k12 : Class := { plain "java/lang/System" (some 0) with
  accessFlags := 49
  interfaces := #[]
  cf := some (fileOf pool12 8 #[.nestMembers #[319, 327, 801, 108, 663, 208]] #[{ accessFlags := 2, nameIndex := 5, descriptorIndex := 6, attributes := #[] }, { accessFlags := 265, nameIndex := 727, descriptorIndex := 728, attributes := #[] }] 49 2 #[] #[{ accessFlags := 25, nameIndex := 507, descriptorIndex := 526, attributes := #[] }, { accessFlags := 25, nameIndex := 399, descriptorIndex := 155, attributes := #[] }, { accessFlags := 25, nameIndex := 396, descriptorIndex := 155, attributes := #[] }, { accessFlags := 10, nameIndex := 525, descriptorIndex := 526, attributes := #[] }, { accessFlags := 26, nameIndex := 674, descriptorIndex := 12, attributes := #[] }, { accessFlags := 26, nameIndex := 677, descriptorIndex := 12, attributes := #[] }, { accessFlags := 10, nameIndex := 11, descriptorIndex := 12, attributes := #[] }, { accessFlags := 74, nameIndex := 175, descriptorIndex := 176, attributes := #[] }, { accessFlags := 10, nameIndex := 491, descriptorIndex := 222, attributes := #[] }, { accessFlags := 74, nameIndex := 29, descriptorIndex := 30, attributes := #[] }, { accessFlags := 74, nameIndex := 154, descriptorIndex := 155, attributes := #[] }, { accessFlags := 10, nameIndex := 217, descriptorIndex := 218, attributes := #[] }, { accessFlags := 10, nameIndex := 221, descriptorIndex := 222, attributes := #[] }, { accessFlags := 8, nameIndex := 562, descriptorIndex := 563, attributes := #[] }])
  fields := #[{ name := "in", type := (.object "java/io/InputStream"), accessFlags := 25, slot := 0, constantValue := 0 }, { name := "out", type := (.object "java/io/PrintStream"), accessFlags := 25, slot := 1, constantValue := 0 }, { name := "err", type := (.object "java/io/PrintStream"), accessFlags := 25, slot := 2, constantValue := 0 }, { name := "initialIn", type := (.object "java/io/InputStream"), accessFlags := 10, slot := 3, constantValue := 0 }, { name := "NEVER", type := .int, accessFlags := 26, slot := 4, constantValue := 0 }, { name := "MAYBE", type := .int, accessFlags := 26, slot := 5, constantValue := 0 }, { name := "allowSecurityManager", type := .int, accessFlags := 10, slot := 6, constantValue := 0 }, { name := "security", type := (.object "java/lang/SecurityManager"), accessFlags := 74, slot := 7, constantValue := 0 }, { name := "notSupportedJnuEncoding", type := (.object "java/lang/String"), accessFlags := 10, slot := 8, constantValue := 0 }, { name := "cons", type := (.object "java/io/Console"), accessFlags := 74, slot := 9, constantValue := 0 }, { name := "initialErrStream", type := (.object "java/io/PrintStream"), accessFlags := 74, slot := 10, constantValue := 0 }, { name := "props", type := (.object "java/util/Properties"), accessFlags := 10, slot := 11, constantValue := 0 }, { name := "lineSeparator", type := (.object "java/lang/String"), accessFlags := 10, slot := 12, constantValue := 0 }, { name := "bootLayer", type := (.object "java/lang/ModuleLayer"), accessFlags := 8, slot := 13, constantValue := 0 }]
  methods := #[k12m0, k12m1]
  instanceTypes := #[]
  staticTypes := #[(.object "java/io/InputStream"), (.object "java/io/PrintStream"), (.object "java/io/PrintStream"), (.object "java/io/InputStream"), .int, .int, .int, (.object "java/lang/SecurityManager"), (.object "java/lang/String"), (.object "java/io/Console"), (.object "java/io/PrintStream"), (.object "java/util/Properties"), (.object "java/lang/String"), (.object "java/lang/ModuleLayer")]
  resolved := Array.replicate 834 none
  statics := none }

def pool13 : Array CpInfo := pool [(1, u "java/lang/Cloneable"), (0, .class_ 1), (0, u "java/lang/Object"), (0, .class_ 3)] 3

/-- java/lang/Cloneable -/
def k13 : Class := { plain "java/lang/Cloneable" (some 0) with
  accessFlags := 1537
  interfaces := #[]
  cf := some (fileOf pool13 2 #[] #[] 1537 4 #[] #[])
  fields := #[]
  methods := #[]
  instanceTypes := #[]
  staticTypes := #[]
  resolved := Array.replicate 8 none
  statics := none }

/-- the primitive byte -/
def k14 : Class := { plain "byte" none with kind := .primitive 'B', accessFlags := 0x411 }
/-- [B -/
def k15 : Class := { plain "[B" (some 0) with kind := .array 14 .byte, interfaces := #[13, 4], accessFlags := 1041 }

/-- the primitive int -/
def k16 : Class := { plain "int" none with kind := .primitive 'I', accessFlags := 0x411 }
/-- [I -/
def k17 : Class := { plain "[I" (some 0) with kind := .array 16 .int, interfaces := #[13, 4], accessFlags := 1041 }

/-- the primitive long -/
def k18 : Class := { plain "long" none with kind := .primitive 'J', accessFlags := 0x411 }
/-- [J -/
def k19 : Class := { plain "[J" (some 0) with kind := .array 18 .long, interfaces := #[13, 4], accessFlags := 1041 }

/-- [Lcom/example/tidegate/tidegate/engine/BookSide$Level; -/
def k20 : Class := { plain "[Lcom/example/tidegate/tidegate/engine/BookSide$Level;" (some 0) with kind := .array 9 (.object "com/example/tidegate/tidegate/engine/BookSide$Level"), interfaces := #[13, 4], accessFlags := 1041 }

def heap : Heap := #[{ cls := 6, slots := #[.ref 1, .ref 2, .null], vm := .statics 6 },
  { cls := 6, slots := #[.null, .int 0, .int 0], vm := .none },
  { cls := 6, slots := #[.null, .int 1, .int 0], vm := .none }]
def classes : Array Class := #[k0, k1, k2, k3, k4, k5, k6, k7, k8, k9, k10, k11, k12, k13, k14, k15, k16, k17, k18, k19, k20]
def interned : List (Array UInt16 × Addr) := []
def slotsUsed : Nat := 9
def theMethod : MethodId := ⟨1, 1⟩
def args0 : Array Value := #[.int 113, .long 5, .long 7, .long 9]
def aboutOver (below : List Frame) : State where
  vm := { classes := classes, interned := interned.toArray }
  heap := heap
  slotsUsed := slotsUsed
  threads := #[{ frames := .invoking theMethod args0 :: below }]
def below0 : List Frame := [.native { method := ⟨0, 0⟩, args := #[] }]
def about1 : State := aboutOver below0
def p0 : Program := .bare "" "" ""
def e0 : Env := launch0.env 0 0 0
theorem w_frames : about1.frames = Frame.invoking theMethod args0 :: below0 := rfl
set_option maxRecDepth 65536 in
theorem w_args : argsFit about1.vm theMethod args0 = true := by decide +kernel
set_option maxRecDepth 65536 in
theorem w_heap : heapFits about1 = true := by decide +kernel
set_option maxRecDepth 65536 in
theorem w_runnable : about1.curStatus? = some .runnable := by decide +kernel
set_option maxRecDepth 65536 in
theorem w_alone : about1.alone = true := by decide +kernel
set_option maxRecDepth 65536 in
theorem w_named : about1.methodNamed? x = some theMethod := by decide +kernel
set_option maxRecDepth 65536 in
theorem w_hears : about1.hears theMethod below0 = true := by decide +kernel
set_option maxRecDepth 65536 in
theorem w_ripe : about1.ripe theMethod args0 below0 = true := by decide +kernel
theorem w_running : about1.status = .running := rfl
set_option maxRecDepth 65536 in
theorem w_room : about1.hasRoom e0.platform room_1 = true :=
  launch0.hasRoom_least _ room_1 (by decide +kernel) (by decide +kernel) (by decide +kernel) (by decide +kernel) (by decide +kernel) (by decide +kernel)
theorem allAtoms_all (ts : List Jvm.Cond) (a : Array Jvm.Value) (st : Jvm.State) : (allAtoms ts).before a st = ts.all (fun c => c.before a st) := by
  induction ts with
  | nil => rfl
  | cons c t ih =>
    show (Jvm.Cond.and c (allAtoms t)).before a st = _
    rw [Jvm.Cond.before_and, ih, List.all_cons]
def words1 : List Jvm.Cond := Jvm.Cond.code x code maxLocals ret :: tables_1
/-- a 'code' word, met by the world's own term for the bytes: nothing is compared byte by byte -/
theorem code_word {y : MethodName} {bytes : ByteArray} {mx : Nat} {rt : Option FieldType} {a : Array Value} {s : State} {m : MethodId} {meth : Method} {c : Code} (h1 : s.methodNamed? y = some m) (h2 : s.vm.method? m = some meth) (h3 : meth.code = some c) (h4 : c.code = bytes)
    (h5 : (c.maxLocals == mx && c.exceptionTable.isEmpty && decide (c.maxStack ≤ mostOperands) && decide (meth.sig.returnType = rt) && !meth.locks && decide (parseMethodDescriptor y.desc = some meth.sig)) = true) : (Jvm.Cond.code y bytes mx rt).before a s = true := by
  simp only [Bool.and_eq_true, beq_iff_eq, Bool.not_eq_true', decide_eq_true_eq] at h5
  obtain ⟨⟨⟨⟨⟨g1, g2⟩, g3⟩, g4⟩, g5⟩, g6⟩ := h5
  simp [Cond.before, Cond.holds, Cond.value, h1, h2, h3, h4, g1, g2, g3, g4, g5, g6]
def isCode : Jvm.Cond → Bool
  | .code _ _ _ _ => true
  | _ => false
theorem all_split {L : List Jvm.Cond} {P : Jvm.Cond → Bool} (h1 : L.all (fun c => isCode c || P c) = true) (h2 : ∀ c ∈ L.filter isCode, P c = true) : L.all P = true := by
  refine List.all_eq_true.mpr fun c hc => ?_
  have h := List.all_eq_true.mp h1 c hc
  rcases Bool.eq_false_or_eq_true (isCode c) with hi | hi
  · exact h2 c (List.mem_filter.mpr ⟨hc, hi⟩)
  · simpa [hi] using h
set_option maxRecDepth 65536 in
theorem w_c0 : (Jvm.Cond.code x code maxLocals ret).before args0 about1 = true := code_word (m := ⟨1, 1⟩) (meth := k1m1) (c := k1c1) (by decide +kernel) rfl rfl rfl (by decide +kernel)
set_option maxRecDepth 65536 in
theorem w_c1 : (Jvm.Cond.code ({ cls := "java/lang/Math", name := "max", desc := "(JJ)J" } : Jvm.MethodName) jdk_29_method_66_code (4 : Nat) (Option.some Jvm.ClassFile.FieldType.long)).before args0 about1 = true := code_word (m := ⟨7, 2⟩) (meth := k7m2) (c := k7c2) (by decide +kernel) rfl rfl rfl (by decide +kernel)
set_option maxRecDepth 65536 in
theorem w_c2 : (Jvm.Cond.code ({ cls := "com/example/tidegate/tidegate/engine/BookSide", name := "<init>", desc := "(Lcom/example/tidegate/tidegate/engine/Side;)V" } : Jvm.MethodName) prog_2_method_1_code (2 : Nat) (Option.none : Option Jvm.ClassFile.FieldType)).before args0 about1 = true := code_word (m := ⟨8, 0⟩) (meth := k8m0) (c := k8c0) (by decide +kernel) rfl rfl rfl (by decide +kernel)
set_option maxRecDepth 65536 in
theorem w_c3 : (Jvm.Cond.code ({ cls := "java/lang/Object", name := "<init>", desc := "()V" } : Jvm.MethodName) object_method_1_code (1 : Nat) (Option.none : Option Jvm.ClassFile.FieldType)).before args0 about1 = true := code_word (m := ⟨0, 0⟩) (meth := k0m0) (c := k0c0) (by decide +kernel) rfl rfl rfl (by decide +kernel)
set_option maxRecDepth 65536 in
theorem w_c4 : (Jvm.Cond.code ({ cls := "com/example/tidegate/tidegate/engine/BookSide$Level", name := "<init>", desc := "(J)V" } : Jvm.MethodName) prog_3_method_1_code (3 : Nat) (Option.none : Option Jvm.ClassFile.FieldType)).before args0 about1 = true := code_word (m := ⟨9, 0⟩) (meth := k9m0) (c := k9c0) (by decide +kernel) rfl rfl rfl (by decide +kernel)
set_option maxRecDepth 65536 in
theorem w_c5 : (Jvm.Cond.code ({ cls := "com/example/tidegate/tidegate/engine/Order", name := "<init>", desc := "(Ljava/lang/String;Lcom/example/tidegate/tidegate/engine/Security;Lcom/example/tidegate/tidegate/engine/Side;Lcom/example/tidegate/tidegate/engine/OrderType;JJJ)V" } : Jvm.MethodName) prog_19_method_1_code (11 : Nat) (Option.none : Option Jvm.ClassFile.FieldType)).before args0 about1 = true := code_word (m := ⟨10, 0⟩) (meth := k10m0) (c := k10c0) (by decide +kernel) rfl rfl rfl (by decide +kernel)
set_option maxRecDepth 65536 in
theorem w_c6 : (Jvm.Cond.code ({ cls := "com/example/tidegate/tidegate/engine/BookSide", name := "first", desc := "()Lcom/example/tidegate/tidegate/engine/Order;" } : Jvm.MethodName) prog_2_method_2_code (1 : Nat) (Option.some (Jvm.ClassFile.FieldType.object "com/example/tidegate/tidegate/engine/Order"))).before args0 about1 = true := code_word (m := ⟨8, 1⟩) (meth := k8m1) (c := k8c1) (by decide +kernel) rfl rfl rfl (by decide +kernel)
set_option maxRecDepth 65536 in
theorem w_c7 : (Jvm.Cond.code ({ cls := "com/example/tidegate/tidegate/engine/BookSide", name := "add", desc := "(Lcom/example/tidegate/tidegate/engine/Order;)V" } : Jvm.MethodName) prog_2_method_7_code (3 : Nat) (Option.none : Option Jvm.ClassFile.FieldType)).before args0 about1 = true := code_word (m := ⟨8, 2⟩) (meth := k8m2) (c := k8c2) (by decide +kernel) rfl rfl rfl (by decide +kernel)
set_option maxRecDepth 65536 in
theorem w_c8 : (Jvm.Cond.code ({ cls := "com/example/tidegate/tidegate/engine/Order", name := "getRemaining", desc := "()J" } : Jvm.MethodName) prog_19_method_9_code (1 : Nat) (Option.some Jvm.ClassFile.FieldType.long)).before args0 about1 = true := code_word (m := ⟨10, 3⟩) (meth := k10m3) (c := k10c3) (by decide +kernel) rfl rfl rfl (by decide +kernel)
set_option maxRecDepth 65536 in
theorem w_c9 : (Jvm.Cond.code ({ cls := "com/example/tidegate/tidegate/engine/Order", name := "startSlice", desc := "()V" } : Jvm.MethodName) prog_19_method_13_code (1 : Nat) (Option.none : Option Jvm.ClassFile.FieldType)).before args0 about1 = true := code_word (m := ⟨10, 4⟩) (meth := k10m4) (c := k10c4) (by decide +kernel) rfl rfl rfl (by decide +kernel)
set_option maxRecDepth 65536 in
theorem w_c10 : (Jvm.Cond.code ({ cls := "java/lang/Math", name := "min", desc := "(JJ)J" } : Jvm.MethodName) jdk_29_method_70_code (4 : Nat) (Option.some Jvm.ClassFile.FieldType.long)).before args0 about1 = true := code_word (m := ⟨7, 3⟩) (meth := k7m3) (c := k7c3) (by decide +kernel) rfl rfl rfl (by decide +kernel)
set_option maxRecDepth 65536 in
theorem w_c11 : (Jvm.Cond.code ({ cls := "com/example/tidegate/tidegate/engine/Order", name := "hasPrice", desc := "()Z" } : Jvm.MethodName) prog_19_method_8_code (1 : Nat) (Option.some Jvm.ClassFile.FieldType.boolean)).before args0 about1 = true := code_word (m := ⟨10, 2⟩) (meth := k10m2) (c := k10c2) (by decide +kernel) rfl rfl rfl (by decide +kernel)
set_option maxRecDepth 65536 in
theorem w_c12 : (Jvm.Cond.code ({ cls := "com/example/tidegate/tidegate/engine/Order", name := "getPrice", desc := "()J" } : Jvm.MethodName) prog_19_method_7_code (1 : Nat) (Option.some Jvm.ClassFile.FieldType.long)).before args0 about1 = true := code_word (m := ⟨10, 1⟩) (meth := k10m1) (c := k10c1) (by decide +kernel) rfl rfl rfl (by decide +kernel)
set_option maxRecDepth 65536 in
theorem w_c13 : (Jvm.Cond.code ({ cls := "com/example/tidegate/tidegate/engine/BookSide", name := "levelAt", desc := "(J)Lcom/example/tidegate/tidegate/engine/BookSide$Level;" } : Jvm.MethodName) prog_2_method_13_code (5 : Nat) (Option.some (Jvm.ClassFile.FieldType.object "com/example/tidegate/tidegate/engine/BookSide$Level"))).before args0 about1 = true := code_word (m := ⟨8, 5⟩) (meth := k8m5) (c := k8c5) (by decide +kernel) rfl rfl rfl (by decide +kernel)
set_option maxRecDepth 65536 in
theorem w_c14 : (Jvm.Cond.code ({ cls := "com/example/tidegate/tidegate/engine/BookSide", name := "indexOf", desc := "(J)I" } : Jvm.MethodName) prog_2_method_12_code (8 : Nat) (Option.some Jvm.ClassFile.FieldType.int)).before args0 about1 = true := code_word (m := ⟨8, 4⟩) (meth := k8m4) (c := k8c4) (by decide +kernel) rfl rfl rfl (by decide +kernel)
set_option maxRecDepth 65536 in
theorem w_c15 : (Jvm.Cond.code ({ cls := "com/example/tidegate/tidegate/engine/BookSide", name := "rank", desc := "(J)J" } : Jvm.MethodName) prog_2_method_14_code (3 : Nat) (Option.some Jvm.ClassFile.FieldType.long)).before args0 about1 = true := code_word (m := ⟨8, 6⟩) (meth := k8m6) (c := k8c6) (by decide +kernel) rfl rfl rfl (by decide +kernel)
set_option maxRecDepth 65536 in
theorem w_c16 : (Jvm.Cond.code ({ cls := "java/lang/Math", name := "max", desc := "(II)I" } : Jvm.MethodName) jdk_29_method_65_code (2 : Nat) (Option.some Jvm.ClassFile.FieldType.int)).before args0 about1 = true := code_word (m := ⟨7, 1⟩) (meth := k7m1) (c := k7c1) (by decide +kernel) rfl rfl rfl (by decide +kernel)
set_option maxRecDepth 65536 in
theorem w_c17 : (Jvm.Cond.code ({ cls := "java/util/Arrays", name := "binarySearch", desc := "([JIIJ)I" } : Jvm.MethodName) jdk_65_method_55_code (5 : Nat) (Option.some Jvm.ClassFile.FieldType.int)).before args0 about1 = true := code_word (m := ⟨11, 2⟩) (meth := k11m2) (c := k11c2) (by decide +kernel) rfl rfl rfl (by decide +kernel)
set_option maxRecDepth 65536 in
theorem w_c18 : (Jvm.Cond.code ({ cls := "java/util/Arrays", name := "rangeCheck", desc := "(III)V" } : Jvm.MethodName) jdk_65_method_30_code (3 : Nat) (Option.none : Option Jvm.ClassFile.FieldType)).before args0 about1 = true := code_word (m := ⟨11, 1⟩) (meth := k11m1) (c := k11c1) (by decide +kernel) rfl rfl rfl (by decide +kernel)
set_option maxRecDepth 65536 in
theorem w_c19 : (Jvm.Cond.code ({ cls := "java/util/Arrays", name := "binarySearch0", desc := "([JIIJ)I" } : Jvm.MethodName) jdk_65_method_56_code (10 : Nat) (Option.some Jvm.ClassFile.FieldType.int)).before args0 about1 = true := code_word (m := ⟨11, 3⟩) (meth := k11m3) (c := k11c3) (by decide +kernel) rfl rfl rfl (by decide +kernel)
set_option maxRecDepth 65536 in
theorem w_c20 : (Jvm.Cond.code ({ cls := "com/example/tidegate/tidegate/engine/BookSide", name := "remove", desc := "(Lcom/example/tidegate/tidegate/engine/Order;)V" } : Jvm.MethodName) prog_2_method_10_code (4 : Nat) (Option.none : Option Jvm.ClassFile.FieldType)).before args0 about1 = true := code_word (m := ⟨8, 3⟩) (meth := k8m3) (c := k8c3) (by decide +kernel) rfl rfl rfl (by decide +kernel)
set_option maxRecDepth 65536 in
theorem w_c21 : (Jvm.Cond.code ({ cls := "com/example/tidegate/tidegate/engine/BookSideFirstPinLaw", name := "beats", desc := "(ZJJ)Z" } : Jvm.MethodName) method_3_code (7 : Nat) (Option.some Jvm.ClassFile.FieldType.boolean)).before args0 about1 = true := code_word (m := ⟨1, 2⟩) (meth := k1m2) (c := k1c2) (by decide +kernel) rfl rfl rfl (by decide +kernel)
def codes1 : List Jvm.Cond := [Jvm.Cond.code x code maxLocals ret, Jvm.Cond.code ({ cls := "java/lang/Math", name := "max", desc := "(JJ)J" } : Jvm.MethodName) jdk_29_method_66_code (4 : Nat) (Option.some Jvm.ClassFile.FieldType.long), Jvm.Cond.code ({ cls := "com/example/tidegate/tidegate/engine/BookSide", name := "<init>", desc := "(Lcom/example/tidegate/tidegate/engine/Side;)V" } : Jvm.MethodName) prog_2_method_1_code (2 : Nat) (Option.none : Option Jvm.ClassFile.FieldType), Jvm.Cond.code ({ cls := "java/lang/Object", name := "<init>", desc := "()V" } : Jvm.MethodName) object_method_1_code (1 : Nat) (Option.none : Option Jvm.ClassFile.FieldType), Jvm.Cond.code ({ cls := "com/example/tidegate/tidegate/engine/BookSide$Level", name := "<init>", desc := "(J)V" } : Jvm.MethodName) prog_3_method_1_code (3 : Nat) (Option.none : Option Jvm.ClassFile.FieldType), Jvm.Cond.code ({ cls := "com/example/tidegate/tidegate/engine/Order", name := "<init>", desc := "(Ljava/lang/String;Lcom/example/tidegate/tidegate/engine/Security;Lcom/example/tidegate/tidegate/engine/Side;Lcom/example/tidegate/tidegate/engine/OrderType;JJJ)V" } : Jvm.MethodName) prog_19_method_1_code (11 : Nat) (Option.none : Option Jvm.ClassFile.FieldType), Jvm.Cond.code ({ cls := "com/example/tidegate/tidegate/engine/BookSide", name := "first", desc := "()Lcom/example/tidegate/tidegate/engine/Order;" } : Jvm.MethodName) prog_2_method_2_code (1 : Nat) (Option.some (Jvm.ClassFile.FieldType.object "com/example/tidegate/tidegate/engine/Order")), Jvm.Cond.code ({ cls := "com/example/tidegate/tidegate/engine/BookSide", name := "add", desc := "(Lcom/example/tidegate/tidegate/engine/Order;)V" } : Jvm.MethodName) prog_2_method_7_code (3 : Nat) (Option.none : Option Jvm.ClassFile.FieldType), Jvm.Cond.code ({ cls := "com/example/tidegate/tidegate/engine/Order", name := "getRemaining", desc := "()J" } : Jvm.MethodName) prog_19_method_9_code (1 : Nat) (Option.some Jvm.ClassFile.FieldType.long), Jvm.Cond.code ({ cls := "com/example/tidegate/tidegate/engine/Order", name := "startSlice", desc := "()V" } : Jvm.MethodName) prog_19_method_13_code (1 : Nat) (Option.none : Option Jvm.ClassFile.FieldType), Jvm.Cond.code ({ cls := "java/lang/Math", name := "min", desc := "(JJ)J" } : Jvm.MethodName) jdk_29_method_70_code (4 : Nat) (Option.some Jvm.ClassFile.FieldType.long), Jvm.Cond.code ({ cls := "com/example/tidegate/tidegate/engine/Order", name := "hasPrice", desc := "()Z" } : Jvm.MethodName) prog_19_method_8_code (1 : Nat) (Option.some Jvm.ClassFile.FieldType.boolean), Jvm.Cond.code ({ cls := "com/example/tidegate/tidegate/engine/Order", name := "getPrice", desc := "()J" } : Jvm.MethodName) prog_19_method_7_code (1 : Nat) (Option.some Jvm.ClassFile.FieldType.long), Jvm.Cond.code ({ cls := "com/example/tidegate/tidegate/engine/BookSide", name := "levelAt", desc := "(J)Lcom/example/tidegate/tidegate/engine/BookSide$Level;" } : Jvm.MethodName) prog_2_method_13_code (5 : Nat) (Option.some (Jvm.ClassFile.FieldType.object "com/example/tidegate/tidegate/engine/BookSide$Level")), Jvm.Cond.code ({ cls := "com/example/tidegate/tidegate/engine/BookSide", name := "indexOf", desc := "(J)I" } : Jvm.MethodName) prog_2_method_12_code (8 : Nat) (Option.some Jvm.ClassFile.FieldType.int), Jvm.Cond.code ({ cls := "com/example/tidegate/tidegate/engine/BookSide", name := "rank", desc := "(J)J" } : Jvm.MethodName) prog_2_method_14_code (3 : Nat) (Option.some Jvm.ClassFile.FieldType.long), Jvm.Cond.code ({ cls := "java/lang/Math", name := "max", desc := "(II)I" } : Jvm.MethodName) jdk_29_method_65_code (2 : Nat) (Option.some Jvm.ClassFile.FieldType.int), Jvm.Cond.code ({ cls := "java/util/Arrays", name := "binarySearch", desc := "([JIIJ)I" } : Jvm.MethodName) jdk_65_method_55_code (5 : Nat) (Option.some Jvm.ClassFile.FieldType.int), Jvm.Cond.code ({ cls := "java/util/Arrays", name := "rangeCheck", desc := "(III)V" } : Jvm.MethodName) jdk_65_method_30_code (3 : Nat) (Option.none : Option Jvm.ClassFile.FieldType), Jvm.Cond.code ({ cls := "java/util/Arrays", name := "binarySearch0", desc := "([JIIJ)I" } : Jvm.MethodName) jdk_65_method_56_code (10 : Nat) (Option.some Jvm.ClassFile.FieldType.int), Jvm.Cond.code ({ cls := "com/example/tidegate/tidegate/engine/BookSide", name := "remove", desc := "(Lcom/example/tidegate/tidegate/engine/Order;)V" } : Jvm.MethodName) prog_2_method_10_code (4 : Nat) (Option.none : Option Jvm.ClassFile.FieldType), Jvm.Cond.code ({ cls := "com/example/tidegate/tidegate/engine/BookSideFirstPinLaw", name := "beats", desc := "(ZJJ)Z" } : Jvm.MethodName) method_3_code (7 : Nat) (Option.some Jvm.ClassFile.FieldType.boolean)]
set_option maxRecDepth 65536 in
theorem codes_eq : words1.filter isCode = codes1 := rfl
theorem w_codes : ∀ c ∈ words1.filter isCode, c.before args0 about1 = true := by
  rw [codes_eq]
  intro c hc
  simp only [codes1, List.mem_cons, List.not_mem_nil, or_false] at hc
  rcases hc with rfl | rfl | rfl | rfl | rfl | rfl | rfl | rfl | rfl | rfl | rfl | rfl | rfl | rfl | rfl | rfl | rfl | rfl | rfl | rfl | rfl | rfl
  · exact w_c0
  · exact w_c1
  · exact w_c2
  · exact w_c3
  · exact w_c4
  · exact w_c5
  · exact w_c6
  · exact w_c7
  · exact w_c8
  · exact w_c9
  · exact w_c10
  · exact w_c11
  · exact w_c12
  · exact w_c13
  · exact w_c14
  · exact w_c15
  · exact w_c16
  · exact w_c17
  · exact w_c18
  · exact w_c19
  · exact w_c20
  · exact w_c21
set_option maxRecDepth 65536 in
theorem w_t1 : (words1.take 24).all (fun c => isCode c || c.before args0 about1) = true := by decide +kernel
set_option maxRecDepth 65536 in
theorem w_t2 : ((words1.drop 24).take 24).all (fun c => isCode c || c.before args0 about1) = true := by decide +kernel
set_option maxRecDepth 65536 in
theorem w_t3 : (((words1.drop 24).drop 24).take 24).all (fun c => isCode c || c.before args0 about1) = true := by decide +kernel
set_option maxRecDepth 65536 in
theorem w_t4 : ((((words1.drop 24).drop 24).drop 24).take 24).all (fun c => isCode c || c.before args0 about1) = true := by decide +kernel
set_option maxRecDepth 65536 in
theorem w_t5 : (((((words1.drop 24).drop 24).drop 24).drop 24).take 24).all (fun c => isCode c || c.before args0 about1) = true := by decide +kernel
set_option maxRecDepth 65536 in
theorem w_t6 : ((((((words1.drop 24).drop 24).drop 24).drop 24).drop 24).take 24).all (fun c => isCode c || c.before args0 about1) = true := by decide +kernel
set_option maxRecDepth 65536 in
theorem w_t7 : ((((((words1.drop 24).drop 24).drop 24).drop 24).drop 24).drop 24).all (fun c => isCode c || c.before args0 about1) = true := by decide +kernel
theorem w_tables : (allAtoms (Jvm.Cond.code x code maxLocals ret :: tables_1)).before args0 about1 = true := by
  rw [allAtoms_all]
  show words1.all (fun c => c.before args0 about1) = true
  refine all_split ?_ w_codes
  rw [← List.take_append_drop 24 words1, List.all_append, w_t1, ← List.take_append_drop 24 (words1.drop 24), List.all_append, w_t2, ← List.take_append_drop 24 ((words1.drop 24).drop 24), List.all_append, w_t3, ← List.take_append_drop 24 (((words1.drop 24).drop 24).drop 24), List.all_append, w_t4, ← List.take_append_drop 24 ((((words1.drop 24).drop 24).drop 24).drop 24), List.all_append, w_t5, ← List.take_append_drop 24 (((((words1.drop 24).drop 24).drop 24).drop 24).drop 24), List.all_append, w_t6, w_t7]
  rfl
set_option maxRecDepth 65536 in
theorem w_case : (Jvm.Cond.and given_1 narrow_1).before args0 about1 = true := by decide +kernel
theorem w_applies : (headSpec (Jvm.Cond.code x code maxLocals ret :: tables_1) room_1).applies x e0.platform about1 = true :=
  (Spec.applies_iff w_frames).mpr ⟨w_running, w_runnable, w_alone, w_named, w_hears, w_ripe, w_room, w_tables⟩
theorem atStart : AtStart classFile x code maxLocals ret World_1 tables_1 room_1 Calls_1 rest_1 Pre_1 launch0 p0 e0 about1 theMethod args0 below0 :=
  ⟨lists_1, trivial, launch0.admits_env _ _ _, launch0.least_env, fairChoices_fair.cas, fairChoices_fair.clock, w_frames, w_args, w_heap, w_applies, trivial, trivial, w_case⟩
end start1
theorem witness_1 : WitnessClaimed_1 := ⟨start1.p0, start1.e0, start1.about1, start1.theMethod, start1.args0, start1.below0, start1.atStart⟩
end Jvm.Pilot.@@N@@
