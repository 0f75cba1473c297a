import JvmDerived
import JvmDerived.Pilot.@@N@@Statement
import JvmDerived.Pilot.@@N@@Code
set_option linter.unusedVariables false
set_option linter.unusedSimpArgs false
set_option maxRecDepth 65536
set_option maxHeartbeats 40000000
namespace Jvm.RoadKit
open Sem ClassFile Op Lib Jvm.Stand Jvm.Free Jvm.LawKit
section New
variable {p : Program} {l : Launch} {e : Env} {R : Room} {s : State} {m : MethodId} {args : Array Value} {below : List Frame} {meth : Method} {c : Code} {T : State} {locs : List Loc} {cells slots : Nat}
theorem retI (X : Stand p l e R s m args below meth c T locs cells slots) (hx : p.tables.exec = Jvm.exec) {pc : Nat} {Ls : Array Slot} {z : Int32} {rest : List Value} (hret : meth.sig.returnType = some .int) (hd : decode c.code pc = .ok (.ireturn, 1)) {fs : List Frame}
    (hl : ∀ (f : JFrame) (acts : List Action), f.method = m → f.locked = none → f.entered = [] → (doReturn e (T.setTop f) acts (some (.int z))).1 = T.setFrames fs) : Steps p.tables e below (T.setTop (mkF m pc Ls (.int z :: rest))) (T.setFrames fs) := by
  have hm' : T.vm.method? m = some meth := X.method'
  have hn : narrow .int (.int z) = .int z := rfl
  show Steps p.tables e below (T.setTop { method := m, pc := pc, locals := Ls, stack := _ :: rest, locked := none }) _
  jvm_step X.here [X.here.top, hx, hd, hm', hret, hn]
  first | (intro acts; rw [hl _ acts rfl rfl rfl]) | rw [hl _ _ rfl rfl rfl]
  exact Steps.refl _
theorem own_retA (X : Stand p l e R s m args below meth c T locs cells slots) (hx : p.tables.exec = Jvm.exec) {pc : Nat} {Ls : Array Slot} {w : Value} {t : FieldType} {rest : List Value} (hret : meth.sig.returnType = some t) (ht : t.isReference = true) (hw : w.isRef = true) (hd : decode c.code pc = .ok (.areturn, 1)) {fs : List Frame}
    (hl : ∀ (f : JFrame) (acts : List Action), f.method = m → f.locked = none → f.entered = [] → (doReturn e (T.setTop f) acts (some w)).1 = T.setFrames fs) : Steps p.tables e below (T.setTop (mkF m pc Ls (w :: rest))) (T.setFrames fs) := by
  have hm' : T.vm.method? m = some meth := X.method'
  rcases ref_cases hw with rfl | ⟨z, rfl⟩
  all_goals
    show Steps p.tables e below (T.setTop { method := m, pc := pc, locals := Ls, stack := _ :: rest, locked := none }) _
    jvm_step X.here [X.here.top, hx, hd, hm', hret, Value.isRef]
    try (refine ⟨ht, ?_⟩)
    first | (intro acts; rw [hl _ acts rfl rfl rfl]) | rw [hl _ _ rfl rfl rfl]
    exact Steps.refl _
end New
/-- from U the run comes to an end of which P tells -/
def own_Go (tb : Tables) (e : Env) (below : List Frame) (P : Outcome → State → Prop) (U : State) : Prop := ∃ s₂ o, Steps tb e below U s₂ ∧ s₂.status = .running ∧ Ended s₂ below o ∧ P o s₂
theorem own_st {tb : Tables} {e : Env} {below : List Frame} {P : Outcome → State → Prop} {U V : State} (h : ∀ t, Steps tb e below V t → Steps tb e below U t) (g : own_Go tb e below P V) : own_Go tb e below P U := by
  obtain ⟨s₂, o, h1, r⟩ := g
  exact ⟨s₂, o, h _ h1, r⟩
theorem own_tr {tb : Tables} {e : Env} {below : List Frame} {P : Outcome → State → Prop} {U V : State} (h : Steps tb e below U V) (g : own_Go tb e below P V) : own_Go tb e below P U := by
  obtain ⟨s₂, o, h1, r⟩ := g
  exact ⟨s₂, o, h.trans h1, r⟩
theorem own_end {p : Program} {l : Launch} {e : Env} {R : Room} {s : State} {m : MethodId} {args : Array Value} {below : List Frame} {meth : Method} {c : Code} {T : State} {locs : List Loc} {cells slots : Nat} (X : Stand p l e R s m args below meth c T locs cells slots) {h : Heap} (eT : T.heap = h) {v : Option Value} (hv : meth.sig.returnType = none → v = none) (hlk : meth.locks = false) {g : JFrame}
    (hst : ∀ fs, (∀ (f : JFrame) (acts : List Action), f.method = m → f.locked = none → f.entered = [] → (doReturn e (T.setTop f) acts v).1 = T.setFrames fs) → Steps p.tables e below (T.setTop g) (T.setFrames fs))
    {Q : Option Value → Heap → List Loc → Prop} (hQ : Q v h locs) {cc ss : Nat} (hc : cells ≤ cc) (hs : slots ≤ ss) :
    own_Go p.tables e below (fun o U' => ∃ v L, o = .returned v ∧ Q v U'.heap L ∧ FrameEnd s o U' L cc ss) (T.setTop g) := by
  subst eT
  obtain ⟨fs, hr, hrun, hended, hW, hsame⟩ := X.leave (v := v) hv hlk
  exact ⟨_, _, hst fs hr, hrun, hended, _, _, rfl, hQ, ⟨_, rfl⟩, hW, hsame.mono hc hs⟩
section Steps2
variable {p : Program} {l : Launch} {e : Env} {R : Room} {s : State} {m : MethodId} {args : Array Value} {below : List Frame} {meth : Method} {c : Code} {T : State} {locs : List Loc} {cells slots : Nat} {P : Outcome → State → Prop} {pc : Nat} {Ls : Array Slot} {st : List Value}
theorem o_iloadN (X : Stand p l e R s m args below meth c T locs cells slots) {cb : ByteArray} (hq : p.tables.exec = Jvm.exec ∧ c.code = cb) {k : Fin 4} {v : Int32} (hd : decode cb pc = .ok (.iload_n k, 1)) (hl : Ls[k.val]? = some (.val (.int v))) (g : own_Go p.tables e below P (T.setTop (mkF m (pc + 1) Ls (.int v :: st)))) : own_Go p.tables e below P (T.setTop (mkF m pc Ls st)) := own_st (fun t k => XS.iloadN X.here hq.1 rfl (hb hq.2 hd) hl k) g
theorem o_iload (X : Stand p l e R s m args below meth c T locs cells slots) {cb : ByteArray} (hq : p.tables.exec = Jvm.exec ∧ c.code = cb) {k : Nat} {v : Int32} (hd : decode cb pc = .ok (.iload k, 2)) (hl : Ls[k]? = some (.val (.int v))) (g : own_Go p.tables e below P (T.setTop (mkF m (pc + 2) Ls (.int v :: st)))) : own_Go p.tables e below P (T.setTop (mkF m pc Ls st)) := own_st (fun t k => XS.iload X.here hq.1 rfl (hb hq.2 hd) hl k) g
theorem o_lloadN (X : Stand p l e R s m args below meth c T locs cells slots) {cb : ByteArray} (hq : p.tables.exec = Jvm.exec ∧ c.code = cb) {k : Fin 4} {v : Int64} (hd : decode cb pc = .ok (.lload_n k, 1)) (hl : Ls[k.val]? = some (.val (.long v))) (g : own_Go p.tables e below P (T.setTop (mkF m (pc + 1) Ls (.long v :: st)))) : own_Go p.tables e below P (T.setTop (mkF m pc Ls st)) := own_st (fun t k => XS.lloadN X.here hq.1 rfl (hb hq.2 hd) hl k) g
theorem o_lload (X : Stand p l e R s m args below meth c T locs cells slots) {cb : ByteArray} (hq : p.tables.exec = Jvm.exec ∧ c.code = cb) {k : Nat} {v : Int64} (hd : decode cb pc = .ok (.lload k, 2)) (hl : Ls[k]? = some (.val (.long v))) (g : own_Go p.tables e below P (T.setTop (mkF m (pc + 2) Ls (.long v :: st)))) : own_Go p.tables e below P (T.setTop (mkF m pc Ls st)) := own_st (fun t k => XS.lload X.here hq.1 rfl (hb hq.2 hd) hl k) g
theorem o_aloadN (X : Stand p l e R s m args below meth c T locs cells slots) {cb : ByteArray} (hq : p.tables.exec = Jvm.exec ∧ c.code = cb) {k : Fin 4} {v : Value} (hd : decode cb pc = .ok (.aload_n k, 1)) (hl : Ls[k.val]? = some (.val v)) (hv : v.isRef = true) (g : own_Go p.tables e below P (T.setTop (mkF m (pc + 1) Ls (v :: st)))) : own_Go p.tables e below P (T.setTop (mkF m pc Ls st)) := own_st (fun t k => XS.aloadN X.here hq.1 rfl (hb hq.2 hd) hl hv k) g
theorem o_aload (X : Stand p l e R s m args below meth c T locs cells slots) {cb : ByteArray} (hq : p.tables.exec = Jvm.exec ∧ c.code = cb) {k : Nat} {v : Value} (hd : decode cb pc = .ok (.aload k, 2)) (hl : Ls[k]? = some (.val v)) (hv : v.isRef = true) (g : own_Go p.tables e below P (T.setTop (mkF m (pc + 2) Ls (v :: st)))) : own_Go p.tables e below P (T.setTop (mkF m pc Ls st)) := own_st (fun t k => XS.aload X.here hq.1 rfl (hb hq.2 hd) hl hv k) g
theorem o_istoreN (X : Stand p l e R s m args below meth c T locs cells slots) {cb : ByteArray} (hq : p.tables.exec = Jvm.exec ∧ c.code = cb) {k : Fin 4} {v : Int32} {l' : Array Slot} (hd : decode cb pc = .ok (.istore_n k, 1)) (hl : storeLocals Ls k.val (.int v) = some l') (g : own_Go p.tables e below P (T.setTop (mkF m (pc + 1) l' st))) : own_Go p.tables e below P (T.setTop (mkF m pc Ls (.int v :: st))) := own_st (fun t k => XS.istoreN X.here hq.1 rfl (hb hq.2 hd) rfl hl k) g
theorem o_istore (X : Stand p l e R s m args below meth c T locs cells slots) {cb : ByteArray} (hq : p.tables.exec = Jvm.exec ∧ c.code = cb) {k : Nat} {v : Int32} {l' : Array Slot} (hd : decode cb pc = .ok (.istore k, 2)) (hl : storeLocals Ls k (.int v) = some l') (g : own_Go p.tables e below P (T.setTop (mkF m (pc + 2) l' st))) : own_Go p.tables e below P (T.setTop (mkF m pc Ls (.int v :: st))) := own_st (fun t k => XS.istore X.here hq.1 rfl (hb hq.2 hd) rfl hl k) g
theorem o_lstoreN (X : Stand p l e R s m args below meth c T locs cells slots) {cb : ByteArray} (hq : p.tables.exec = Jvm.exec ∧ c.code = cb) {k : Fin 4} {v : Int64} {l' : Array Slot} (hd : decode cb pc = .ok (.lstore_n k, 1)) (hl : storeLocals Ls k.val (.long v) = some l') (g : own_Go p.tables e below P (T.setTop (mkF m (pc + 1) l' st))) : own_Go p.tables e below P (T.setTop (mkF m pc Ls (.long v :: st))) := own_st (fun t k => XS.lstoreN X.here hq.1 rfl (hb hq.2 hd) rfl hl k) g
theorem o_lstore (X : Stand p l e R s m args below meth c T locs cells slots) {cb : ByteArray} (hq : p.tables.exec = Jvm.exec ∧ c.code = cb) {k : Nat} {v : Int64} {l' : Array Slot} (hd : decode cb pc = .ok (.lstore k, 2)) (hl : storeLocals Ls k (.long v) = some l') (g : own_Go p.tables e below P (T.setTop (mkF m (pc + 2) l' st))) : own_Go p.tables e below P (T.setTop (mkF m pc Ls (.long v :: st))) := own_st (fun t k => XS.lstore X.here hq.1 rfl (hb hq.2 hd) rfl hl k) g
theorem o_astoreN (X : Stand p l e R s m args below meth c T locs cells slots) {cb : ByteArray} (hq : p.tables.exec = Jvm.exec ∧ c.code = cb) {k : Fin 4} {v : Value} {l' : Array Slot} (hd : decode cb pc = .ok (.astore_n k, 1)) (hv : v.isRef = true) (hl : storeLocals Ls k.val v = some l') (g : own_Go p.tables e below P (T.setTop (mkF m (pc + 1) l' st))) : own_Go p.tables e below P (T.setTop (mkF m pc Ls (v :: st))) := own_st (fun t k => XS.astoreN X.here hq.1 rfl (hb hq.2 hd) rfl hv hl k) g
theorem o_astore (X : Stand p l e R s m args below meth c T locs cells slots) {cb : ByteArray} (hq : p.tables.exec = Jvm.exec ∧ c.code = cb) {k : Nat} {v : Value} {l' : Array Slot} (hd : decode cb pc = .ok (.astore k, 2)) (hv : v.isRef = true) (hl : storeLocals Ls k v = some l') (g : own_Go p.tables e below P (T.setTop (mkF m (pc + 2) l' st))) : own_Go p.tables e below P (T.setTop (mkF m pc Ls (v :: st))) := own_st (fun t k => XS.astore X.here hq.1 rfl (hb hq.2 hd) rfl hv hl k) g
theorem o_iconst (X : Stand p l e R s m args below meth c T locs cells slots) {cb : ByteArray} (hq : p.tables.exec = Jvm.exec ∧ c.code = cb) {i : Int} (z : Int32) (hd : decode cb pc = .ok (.iconst i, 1)) (hz : Int32.ofInt i = z) (g : own_Go p.tables e below P (T.setTop (mkF m (pc + 1) Ls (.int z :: st)))) : own_Go p.tables e below P (T.setTop (mkF m pc Ls st)) := by subst hz; exact own_st (fun t k => XS.iconst X.here hq.1 rfl (hb hq.2 hd) k) g
theorem o_bipush (X : Stand p l e R s m args below meth c T locs cells slots) {cb : ByteArray} (hq : p.tables.exec = Jvm.exec ∧ c.code = cb) {i : Int} (z : Int32) (hd : decode cb pc = .ok (.bipush i, 2)) (hz : (Int8.ofInt i).toInt32 = z) (g : own_Go p.tables e below P (T.setTop (mkF m (pc + 2) Ls (.int z :: st)))) : own_Go p.tables e below P (T.setTop (mkF m pc Ls st)) := by subst hz; exact own_st (fun t k => XS.bipush X.here hq.1 rfl (hb hq.2 hd) k) g
theorem o_sipush (X : Stand p l e R s m args below meth c T locs cells slots) {cb : ByteArray} (hq : p.tables.exec = Jvm.exec ∧ c.code = cb) {i : Int} (z : Int32) (hd : decode cb pc = .ok (.sipush i, 3)) (hz : (Int16.ofInt i).toInt32 = z) (g : own_Go p.tables e below P (T.setTop (mkF m (pc + 3) Ls (.int z :: st)))) : own_Go p.tables e below P (T.setTop (mkF m pc Ls st)) := by subst hz; exact own_st (fun t k => XS.sipush X.here hq.1 rfl (hb hq.2 hd) k) g
theorem o_lconst (X : Stand p l e R s m args below meth c T locs cells slots) {cb : ByteArray} (hq : p.tables.exec = Jvm.exec ∧ c.code = cb) {i : Fin 2} (z : Int64) (hd : decode cb pc = .ok (.lconst i, 1)) (hz : Int64.ofNat i = z) (g : own_Go p.tables e below P (T.setTop (mkF m (pc + 1) Ls (.long z :: st)))) : own_Go p.tables e below P (T.setTop (mkF m pc Ls st)) := by subst hz; exact own_st (fun t k => XS.lconst X.here hq.1 rfl (hb hq.2 hd) k) g
theorem o_aconstNull (X : Stand p l e R s m args below meth c T locs cells slots) {cb : ByteArray} (hq : p.tables.exec = Jvm.exec ∧ c.code = cb) (hd : decode cb pc = .ok (.aconst_null, 1)) (g : own_Go p.tables e below P (T.setTop (mkF m (pc + 1) Ls (.null :: st)))) : own_Go p.tables e below P (T.setTop (mkF m pc Ls st)) := own_st (fun t k => XS.aconstNull X.here hq.1 rfl (hb hq.2 hd) k) g
theorem o_iadd (X : Stand p l e R s m args below meth c T locs cells slots) {cb : ByteArray} (hq : p.tables.exec = Jvm.exec ∧ c.code = cb) {x y : Int32} (hd : decode cb pc = .ok (.iadd, 1)) (g : own_Go p.tables e below P (T.setTop (mkF m (pc + 1) Ls (.int (x + y) :: st)))) : own_Go p.tables e below P (T.setTop (mkF m pc Ls (.int y :: .int x :: st))) := own_st (fun t k => XS.iadd X.here hq.1 rfl (hb hq.2 hd) rfl k) g
theorem o_ladd (X : Stand p l e R s m args below meth c T locs cells slots) {cb : ByteArray} (hq : p.tables.exec = Jvm.exec ∧ c.code = cb) {x y : Int64} (hd : decode cb pc = .ok (.ladd, 1)) (g : own_Go p.tables e below P (T.setTop (mkF m (pc + 1) Ls (.long (x + y) :: st)))) : own_Go p.tables e below P (T.setTop (mkF m pc Ls (.long y :: .long x :: st))) := own_st (fun t k => XS.ladd X.here hq.1 rfl (hb hq.2 hd) rfl k) g
theorem o_isub (X : Stand p l e R s m args below meth c T locs cells slots) {cb : ByteArray} (hq : p.tables.exec = Jvm.exec ∧ c.code = cb) {x y : Int32} (hd : decode cb pc = .ok (.isub, 1)) (g : own_Go p.tables e below P (T.setTop (mkF m (pc + 1) Ls (.int (x - y) :: st)))) : own_Go p.tables e below P (T.setTop (mkF m pc Ls (.int y :: .int x :: st))) := own_st (fun t k => XS.isub X.here hq.1 rfl (hb hq.2 hd) rfl k) g
theorem o_lsub (X : Stand p l e R s m args below meth c T locs cells slots) {cb : ByteArray} (hq : p.tables.exec = Jvm.exec ∧ c.code = cb) {x y : Int64} (hd : decode cb pc = .ok (.lsub, 1)) (g : own_Go p.tables e below P (T.setTop (mkF m (pc + 1) Ls (.long (x - y) :: st)))) : own_Go p.tables e below P (T.setTop (mkF m pc Ls (.long y :: .long x :: st))) := own_st (fun t k => XS.lsub X.here hq.1 rfl (hb hq.2 hd) rfl k) g
theorem o_imul (X : Stand p l e R s m args below meth c T locs cells slots) {cb : ByteArray} (hq : p.tables.exec = Jvm.exec ∧ c.code = cb) {x y : Int32} (hd : decode cb pc = .ok (.imul, 1)) (g : own_Go p.tables e below P (T.setTop (mkF m (pc + 1) Ls (.int (x * y) :: st)))) : own_Go p.tables e below P (T.setTop (mkF m pc Ls (.int y :: .int x :: st))) := own_st (fun t k => XS.imul X.here hq.1 rfl (hb hq.2 hd) rfl k) g
theorem o_lmul (X : Stand p l e R s m args below meth c T locs cells slots) {cb : ByteArray} (hq : p.tables.exec = Jvm.exec ∧ c.code = cb) {x y : Int64} (hd : decode cb pc = .ok (.lmul, 1)) (g : own_Go p.tables e below P (T.setTop (mkF m (pc + 1) Ls (.long (x * y) :: st)))) : own_Go p.tables e below P (T.setTop (mkF m pc Ls (.long y :: .long x :: st))) := own_st (fun t k => XS.lmul X.here hq.1 rfl (hb hq.2 hd) rfl k) g
theorem o_iand (X : Stand p l e R s m args below meth c T locs cells slots) {cb : ByteArray} (hq : p.tables.exec = Jvm.exec ∧ c.code = cb) {x y : Int32} (hd : decode cb pc = .ok (.iand, 1)) (g : own_Go p.tables e below P (T.setTop (mkF m (pc + 1) Ls (.int (x &&& y) :: st)))) : own_Go p.tables e below P (T.setTop (mkF m pc Ls (.int y :: .int x :: st))) := own_st (fun t k => XS.iand X.here hq.1 rfl (hb hq.2 hd) rfl k) g
theorem o_land (X : Stand p l e R s m args below meth c T locs cells slots) {cb : ByteArray} (hq : p.tables.exec = Jvm.exec ∧ c.code = cb) {x y : Int64} (hd : decode cb pc = .ok (.land, 1)) (g : own_Go p.tables e below P (T.setTop (mkF m (pc + 1) Ls (.long (x &&& y) :: st)))) : own_Go p.tables e below P (T.setTop (mkF m pc Ls (.long y :: .long x :: st))) := own_st (fun t k => XS.land X.here hq.1 rfl (hb hq.2 hd) rfl k) g
theorem o_ior (X : Stand p l e R s m args below meth c T locs cells slots) {cb : ByteArray} (hq : p.tables.exec = Jvm.exec ∧ c.code = cb) {x y : Int32} (hd : decode cb pc = .ok (.ior, 1)) (g : own_Go p.tables e below P (T.setTop (mkF m (pc + 1) Ls (.int (x ||| y) :: st)))) : own_Go p.tables e below P (T.setTop (mkF m pc Ls (.int y :: .int x :: st))) := own_st (fun t k => XS.ior X.here hq.1 rfl (hb hq.2 hd) rfl k) g
theorem o_lor (X : Stand p l e R s m args below meth c T locs cells slots) {cb : ByteArray} (hq : p.tables.exec = Jvm.exec ∧ c.code = cb) {x y : Int64} (hd : decode cb pc = .ok (.lor, 1)) (g : own_Go p.tables e below P (T.setTop (mkF m (pc + 1) Ls (.long (x ||| y) :: st)))) : own_Go p.tables e below P (T.setTop (mkF m pc Ls (.long y :: .long x :: st))) := own_st (fun t k => XS.lor X.here hq.1 rfl (hb hq.2 hd) rfl k) g
theorem o_ixor (X : Stand p l e R s m args below meth c T locs cells slots) {cb : ByteArray} (hq : p.tables.exec = Jvm.exec ∧ c.code = cb) {x y : Int32} (hd : decode cb pc = .ok (.ixor, 1)) (g : own_Go p.tables e below P (T.setTop (mkF m (pc + 1) Ls (.int (x ^^^ y) :: st)))) : own_Go p.tables e below P (T.setTop (mkF m pc Ls (.int y :: .int x :: st))) := own_st (fun t k => XS.ixor X.here hq.1 rfl (hb hq.2 hd) rfl k) g
theorem o_lxor (X : Stand p l e R s m args below meth c T locs cells slots) {cb : ByteArray} (hq : p.tables.exec = Jvm.exec ∧ c.code = cb) {x y : Int64} (hd : decode cb pc = .ok (.lxor, 1)) (g : own_Go p.tables e below P (T.setTop (mkF m (pc + 1) Ls (.long (x ^^^ y) :: st)))) : own_Go p.tables e below P (T.setTop (mkF m pc Ls (.long y :: .long x :: st))) := own_st (fun t k => XS.lxor X.here hq.1 rfl (hb hq.2 hd) rfl k) g
theorem o_idiv (X : Stand p l e R s m args below meth c T locs cells slots) {cb : ByteArray} (hq : p.tables.exec = Jvm.exec ∧ c.code = cb) {x y : Int32} (hd : decode cb pc = .ok (.idiv, 1)) (hy : y ≠ 0) (g : own_Go p.tables e below P (T.setTop (mkF m (pc + 1) Ls (.int (x / y) :: st)))) : own_Go p.tables e below P (T.setTop (mkF m pc Ls (.int y :: .int x :: st))) := own_st (fun t k => XS.idiv X.here hq.1 rfl (hb hq.2 hd) rfl hy k) g
theorem o_irem (X : Stand p l e R s m args below meth c T locs cells slots) {cb : ByteArray} (hq : p.tables.exec = Jvm.exec ∧ c.code = cb) {x y : Int32} (hd : decode cb pc = .ok (.irem, 1)) (hy : y ≠ 0) (g : own_Go p.tables e below P (T.setTop (mkF m (pc + 1) Ls (.int (x - x / y * y) :: st)))) : own_Go p.tables e below P (T.setTop (mkF m pc Ls (.int y :: .int x :: st))) := own_st (fun t k => XS.irem X.here hq.1 rfl (hb hq.2 hd) rfl hy k) g
theorem o_ldiv (X : Stand p l e R s m args below meth c T locs cells slots) {cb : ByteArray} (hq : p.tables.exec = Jvm.exec ∧ c.code = cb) {x y : Int64} (hd : decode cb pc = .ok (.ldiv, 1)) (hy : y ≠ 0) (g : own_Go p.tables e below P (T.setTop (mkF m (pc + 1) Ls (.long (x / y) :: st)))) : own_Go p.tables e below P (T.setTop (mkF m pc Ls (.long y :: .long x :: st))) := own_st (fun t k => XS.ldiv X.here hq.1 rfl (hb hq.2 hd) rfl hy k) g
theorem o_lrem (X : Stand p l e R s m args below meth c T locs cells slots) {cb : ByteArray} (hq : p.tables.exec = Jvm.exec ∧ c.code = cb) {x y : Int64} (hd : decode cb pc = .ok (.lrem, 1)) (hy : y ≠ 0) (g : own_Go p.tables e below P (T.setTop (mkF m (pc + 1) Ls (.long (x - x / y * y) :: st)))) : own_Go p.tables e below P (T.setTop (mkF m pc Ls (.long y :: .long x :: st))) := own_st (fun t k => XS.lrem X.here hq.1 rfl (hb hq.2 hd) rfl hy k) g
theorem o_ineg (X : Stand p l e R s m args below meth c T locs cells slots) {cb : ByteArray} (hq : p.tables.exec = Jvm.exec ∧ c.code = cb) {x : Int32} (hd : decode cb pc = .ok (.ineg, 1)) (g : own_Go p.tables e below P (T.setTop (mkF m (pc + 1) Ls (.int ((-x)) :: st)))) : own_Go p.tables e below P (T.setTop (mkF m pc Ls (.int x :: st))) := own_st (fun t k => XS.ineg X.here hq.1 rfl (hb hq.2 hd) rfl k) g
theorem o_lneg (X : Stand p l e R s m args below meth c T locs cells slots) {cb : ByteArray} (hq : p.tables.exec = Jvm.exec ∧ c.code = cb) {x : Int64} (hd : decode cb pc = .ok (.lneg, 1)) (g : own_Go p.tables e below P (T.setTop (mkF m (pc + 1) Ls (.long ((-x)) :: st)))) : own_Go p.tables e below P (T.setTop (mkF m pc Ls (.long x :: st))) := own_st (fun t k => XS.lneg X.here hq.1 rfl (hb hq.2 hd) rfl k) g
theorem o_i2l (X : Stand p l e R s m args below meth c T locs cells slots) {cb : ByteArray} (hq : p.tables.exec = Jvm.exec ∧ c.code = cb) {x : Int32} (hd : decode cb pc = .ok (.i2l, 1)) (g : own_Go p.tables e below P (T.setTop (mkF m (pc + 1) Ls (.long (x.toInt64) :: st)))) : own_Go p.tables e below P (T.setTop (mkF m pc Ls (.int x :: st))) := own_st (fun t k => XS.i2l X.here hq.1 rfl (hb hq.2 hd) rfl k) g
theorem o_l2i (X : Stand p l e R s m args below meth c T locs cells slots) {cb : ByteArray} (hq : p.tables.exec = Jvm.exec ∧ c.code = cb) {x : Int64} (hd : decode cb pc = .ok (.l2i, 1)) (g : own_Go p.tables e below P (T.setTop (mkF m (pc + 1) Ls (.int (x.toInt32) :: st)))) : own_Go p.tables e below P (T.setTop (mkF m pc Ls (.long x :: st))) := own_st (fun t k => XS.l2i X.here hq.1 rfl (hb hq.2 hd) rfl k) g
theorem o_i2b (X : Stand p l e R s m args below meth c T locs cells slots) {cb : ByteArray} (hq : p.tables.exec = Jvm.exec ∧ c.code = cb) {x : Int32} (hd : decode cb pc = .ok (.i2b, 1)) (g : own_Go p.tables e below P (T.setTop (mkF m (pc + 1) Ls (.int (x.toInt8.toInt32) :: st)))) : own_Go p.tables e below P (T.setTop (mkF m pc Ls (.int x :: st))) := own_st (fun t k => XS.i2b X.here hq.1 rfl (hb hq.2 hd) rfl k) g
theorem o_i2s (X : Stand p l e R s m args below meth c T locs cells slots) {cb : ByteArray} (hq : p.tables.exec = Jvm.exec ∧ c.code = cb) {x : Int32} (hd : decode cb pc = .ok (.i2s, 1)) (g : own_Go p.tables e below P (T.setTop (mkF m (pc + 1) Ls (.int (x.toInt16.toInt32) :: st)))) : own_Go p.tables e below P (T.setTop (mkF m pc Ls (.int x :: st))) := own_st (fun t k => XS.i2s X.here hq.1 rfl (hb hq.2 hd) rfl k) g
theorem o_i2c (X : Stand p l e R s m args below meth c T locs cells slots) {cb : ByteArray} (hq : p.tables.exec = Jvm.exec ∧ c.code = cb) {x : Int32} (hd : decode cb pc = .ok (.i2c, 1)) (g : own_Go p.tables e below P (T.setTop (mkF m (pc + 1) Ls (.int (x.toUInt32.toUInt16.toUInt32.toInt32) :: st)))) : own_Go p.tables e below P (T.setTop (mkF m pc Ls (.int x :: st))) := own_st (fun t k => XS.i2c X.here hq.1 rfl (hb hq.2 hd) rfl k) g
theorem o_ishl (X : Stand p l e R s m args below meth c T locs cells slots) {cb : ByteArray} (hq : p.tables.exec = Jvm.exec ∧ c.code = cb) {x : Int32} {y : Int32} (hd : decode cb pc = .ok (.ishl, 1)) (g : own_Go p.tables e below P (T.setTop (mkF m (pc + 1) Ls (.int (x <<< (y &&& 31)) :: st)))) : own_Go p.tables e below P (T.setTop (mkF m pc Ls (.int y :: .int x :: st))) := own_st (fun t k => XS.ishl X.here hq.1 rfl (hb hq.2 hd) rfl k) g
theorem o_ishr (X : Stand p l e R s m args below meth c T locs cells slots) {cb : ByteArray} (hq : p.tables.exec = Jvm.exec ∧ c.code = cb) {x : Int32} {y : Int32} (hd : decode cb pc = .ok (.ishr, 1)) (g : own_Go p.tables e below P (T.setTop (mkF m (pc + 1) Ls (.int (x >>> (y &&& 31)) :: st)))) : own_Go p.tables e below P (T.setTop (mkF m pc Ls (.int y :: .int x :: st))) := own_st (fun t k => XS.ishr X.here hq.1 rfl (hb hq.2 hd) rfl k) g
theorem o_iushr (X : Stand p l e R s m args below meth c T locs cells slots) {cb : ByteArray} (hq : p.tables.exec = Jvm.exec ∧ c.code = cb) {x : Int32} {y : Int32} (hd : decode cb pc = .ok (.iushr, 1)) (g : own_Go p.tables e below P (T.setTop (mkF m (pc + 1) Ls (.int ((x.toUInt32 >>> (y &&& 31).toUInt32).toInt32) :: st)))) : own_Go p.tables e below P (T.setTop (mkF m pc Ls (.int y :: .int x :: st))) := own_st (fun t k => XS.iushr X.here hq.1 rfl (hb hq.2 hd) rfl k) g
theorem o_lshl (X : Stand p l e R s m args below meth c T locs cells slots) {cb : ByteArray} (hq : p.tables.exec = Jvm.exec ∧ c.code = cb) {x : Int64} {y : Int32} (hd : decode cb pc = .ok (.lshl, 1)) (g : own_Go p.tables e below P (T.setTop (mkF m (pc + 1) Ls (.long (x <<< (y &&& 0x3f).toInt64) :: st)))) : own_Go p.tables e below P (T.setTop (mkF m pc Ls (.int y :: .long x :: st))) := own_st (fun t k => XS.lshl X.here hq.1 rfl (hb hq.2 hd) rfl k) g
theorem o_lshr (X : Stand p l e R s m args below meth c T locs cells slots) {cb : ByteArray} (hq : p.tables.exec = Jvm.exec ∧ c.code = cb) {x : Int64} {y : Int32} (hd : decode cb pc = .ok (.lshr, 1)) (g : own_Go p.tables e below P (T.setTop (mkF m (pc + 1) Ls (.long (x >>> (y &&& 0x3f).toInt64) :: st)))) : own_Go p.tables e below P (T.setTop (mkF m pc Ls (.int y :: .long x :: st))) := own_st (fun t k => XS.lshr X.here hq.1 rfl (hb hq.2 hd) rfl k) g
theorem o_lushr (X : Stand p l e R s m args below meth c T locs cells slots) {cb : ByteArray} (hq : p.tables.exec = Jvm.exec ∧ c.code = cb) {x : Int64} {y : Int32} (hd : decode cb pc = .ok (.lushr, 1)) (g : own_Go p.tables e below P (T.setTop (mkF m (pc + 1) Ls (.long ((x.toUInt64 >>> (y &&& 0x3f).toInt64.toUInt64).toInt64) :: st)))) : own_Go p.tables e below P (T.setTop (mkF m pc Ls (.int y :: .long x :: st))) := own_st (fun t k => XS.lushr X.here hq.1 rfl (hb hq.2 hd) rfl k) g
theorem o_lcmp (X : Stand p l e R s m args below meth c T locs cells slots) {cb : ByteArray} (hq : p.tables.exec = Jvm.exec ∧ c.code = cb) {x y : Int64} (hd : decode cb pc = .ok (.lcmp, 1)) (g : own_Go p.tables e below P (T.setTop (mkF m (pc + 1) Ls (.int (lcmpW x y) :: st)))) : own_Go p.tables e below P (T.setTop (mkF m pc Ls (.long y :: .long x :: st))) := own_st (fun t k => XS.lcmp X.here hq.1 rfl (hb hq.2 hd) rfl k) g
theorem o_iinc (X : Stand p l e R s m args below meth c T locs cells slots) {cb : ByteArray} (hq : p.tables.exec = Jvm.exec ∧ c.code = cb) {k : Nat} {cst : Int} {x : Int32} {l' : Array Slot} (hd : decode cb pc = .ok (.iinc k cst, 3)) (hl : Ls[k]? = some (.val (.int x))) (hl' : storeLocals Ls k (.int (x + Int32.ofInt cst)) = some l') (g : own_Go p.tables e below P (T.setTop (mkF m (pc + 3) l' st))) : own_Go p.tables e below P (T.setTop (mkF m pc Ls st)) := own_st (fun t k => XS.iinc X.here hq.1 rfl (hb hq.2 hd) hl hl' k) g
theorem o_dup (X : Stand p l e R s m args below meth c T locs cells slots) {cb : ByteArray} (hq : p.tables.exec = Jvm.exec ∧ c.code = cb) {x : Value} (hd : decode cb pc = .ok (.dup, 1)) (hc : x.category = 1) (g : own_Go p.tables e below P (T.setTop (mkF m (pc + 1) Ls (x :: x :: st)))) : own_Go p.tables e below P (T.setTop (mkF m pc Ls (x :: st))) := own_st (fun t k => XS.dup X.here hq.1 rfl (hb hq.2 hd) rfl hc k) g
theorem o_pop (X : Stand p l e R s m args below meth c T locs cells slots) {cb : ByteArray} (hq : p.tables.exec = Jvm.exec ∧ c.code = cb) {x : Value} (hd : decode cb pc = .ok (.pop, 1)) (hc : x.category = 1) (g : own_Go p.tables e below P (T.setTop (mkF m (pc + 1) Ls st))) : own_Go p.tables e below P (T.setTop (mkF m pc Ls (x :: st))) := own_st (fun t k => XS.pop X.here hq.1 rfl (hb hq.2 hd) rfl hc k) g
theorem o_dupX1 (X : Stand p l e R s m args below meth c T locs cells slots) {cb : ByteArray} (hq : p.tables.exec = Jvm.exec ∧ c.code = cb) {x y : Value} (hd : decode cb pc = .ok (.dup_x1, 1)) (hc : x.category = 1) (hc' : y.category = 1) (g : own_Go p.tables e below P (T.setTop (mkF m (pc + 1) Ls (x :: y :: x :: st)))) : own_Go p.tables e below P (T.setTop (mkF m pc Ls (x :: y :: st))) := own_st (fun t k => XS.dupX1 X.here hq.1 rfl (hb hq.2 hd) rfl hc hc' k) g
theorem o_dup2 (X : Stand p l e R s m args below meth c T locs cells slots) {cb : ByteArray} (hq : p.tables.exec = Jvm.exec ∧ c.code = cb) {x y : Value} (hd : decode cb pc = .ok (.dup2, 1)) (hc : x.category = 1) (hc' : y.category = 1) (g : own_Go p.tables e below P (T.setTop (mkF m (pc + 1) Ls (x :: y :: x :: y :: st)))) : own_Go p.tables e below P (T.setTop (mkF m pc Ls (x :: y :: st))) := own_st (fun t k => Jvm.Free.XT.dup2 X.here hq.1 rfl (hb hq.2 hd) rfl hc hc' k) g
theorem o_goto (X : Stand p l e R s m args below meth c T locs cells slots) {cb : ByteArray} (hq : p.tables.exec = Jvm.exec ∧ c.code = cb) {o : Int} {pc' : Nat} (hd : decode cb pc = .ok (.goto o, 3)) (g : own_Go p.tables e below P (T.setTop (mkF m pc' Ls st))) (ho : 0 ≤ (pc : Int) + o := by decide) (hp : ((pc : Int) + o).toNat = pc' := by decide) : own_Go p.tables e below P (T.setTop (mkF m pc Ls st)) := own_st (fun t k => XS.goto X.here hq.1 rfl rfl (hb hq.2 hd) ho hp k) g
theorem o_ifYes (X : Stand p l e R s m args below meth c T locs cells slots) {cb : ByteArray} (hq : p.tables.exec = Jvm.exec ∧ c.code = cb) {cd : ClassFile.Cond} {x : Int32} {o : Int} {pc' : Nat} (hd : decode cb pc = .ok (.ifCond cd o, 3)) (hc : if_icmp.holds cd x 0 = true) (g : own_Go p.tables e below P (T.setTop (mkF m pc' Ls st))) (ho : 0 ≤ (pc : Int) + o := by decide) (hp : ((pc : Int) + o).toNat = pc' := by decide) : own_Go p.tables e below P (T.setTop (mkF m pc Ls (.int x :: st))) := own_st (fun t k => XS.ifYes X.here hq.1 rfl rfl (hb hq.2 hd) rfl ((if0 _ _).trans hc) ho hp k) g
theorem o_ifNo (X : Stand p l e R s m args below meth c T locs cells slots) {cb : ByteArray} (hq : p.tables.exec = Jvm.exec ∧ c.code = cb) {cd : ClassFile.Cond} {x : Int32} {o : Int} (hd : decode cb pc = .ok (.ifCond cd o, 3)) (hc : if_icmp.holds cd x 0 = false) (g : own_Go p.tables e below P (T.setTop (mkF m (pc + 3) Ls st))) : own_Go p.tables e below P (T.setTop (mkF m pc Ls (.int x :: st))) := own_st (fun t k => XS.ifNo X.here hq.1 rfl (hb hq.2 hd) rfl ((if0 _ _).trans hc) k) g
theorem o_icmpYes (X : Stand p l e R s m args below meth c T locs cells slots) {cb : ByteArray} (hq : p.tables.exec = Jvm.exec ∧ c.code = cb) {cd : ClassFile.Cond} {x y : Int32} {o : Int} {pc' : Nat} (hd : decode cb pc = .ok (.if_icmp cd o, 3)) (hc : if_icmp.holds cd x y = true) (g : own_Go p.tables e below P (T.setTop (mkF m pc' Ls st))) (ho : 0 ≤ (pc : Int) + o := by decide) (hp : ((pc : Int) + o).toNat = pc' := by decide) : own_Go p.tables e below P (T.setTop (mkF m pc Ls (.int y :: .int x :: st))) := own_st (fun t k => XS.icmpYes X.here hq.1 rfl rfl (hb hq.2 hd) rfl hc ho hp k) g
theorem o_icmpNo (X : Stand p l e R s m args below meth c T locs cells slots) {cb : ByteArray} (hq : p.tables.exec = Jvm.exec ∧ c.code = cb) {cd : ClassFile.Cond} {x y : Int32} {o : Int} (hd : decode cb pc = .ok (.if_icmp cd o, 3)) (hc : if_icmp.holds cd x y = false) (g : own_Go p.tables e below P (T.setTop (mkF m (pc + 3) Ls st))) : own_Go p.tables e below P (T.setTop (mkF m pc Ls (.int y :: .int x :: st))) := own_st (fun t k => XS.icmpNo X.here hq.1 rfl (hb hq.2 hd) rfl hc k) g
theorem o_ifnullYes (X : Stand p l e R s m args below meth c T locs cells slots) {cb : ByteArray} (hq : p.tables.exec = Jvm.exec ∧ c.code = cb) {o : Int} {pc' : Nat} (hd : decode cb pc = .ok (.ifnull o, 3)) (g : own_Go p.tables e below P (T.setTop (mkF m pc' Ls st))) (ho : 0 ≤ (pc : Int) + o := by decide) (hp : ((pc : Int) + o).toNat = pc' := by decide) : own_Go p.tables e below P (T.setTop (mkF m pc Ls (.null :: st))) := own_st (fun t k => XS.ifnullYes X.here hq.1 rfl rfl (hb hq.2 hd) rfl ho hp k) g
theorem o_ifnullNo (X : Stand p l e R s m args below meth c T locs cells slots) {cb : ByteArray} (hq : p.tables.exec = Jvm.exec ∧ c.code = cb) {o : Int} {b : Addr} (hd : decode cb pc = .ok (.ifnull o, 3)) (g : own_Go p.tables e below P (T.setTop (mkF m (pc + 3) Ls st))) : own_Go p.tables e below P (T.setTop (mkF m pc Ls (.ref b :: st))) := own_st (fun t k => XS.ifnullNo X.here hq.1 rfl (hb hq.2 hd) rfl k) g
theorem o_ifnonnullNo (X : Stand p l e R s m args below meth c T locs cells slots) {cb : ByteArray} (hq : p.tables.exec = Jvm.exec ∧ c.code = cb) {o : Int} (hd : decode cb pc = .ok (.ifnonnull o, 3)) (g : own_Go p.tables e below P (T.setTop (mkF m (pc + 3) Ls st))) : own_Go p.tables e below P (T.setTop (mkF m pc Ls (.null :: st))) := own_st (fun t k => XS.ifnonnullNo X.here hq.1 rfl (hb hq.2 hd) rfl k) g
theorem o_ifnonnullYes (X : Stand p l e R s m args below meth c T locs cells slots) {cb : ByteArray} (hq : p.tables.exec = Jvm.exec ∧ c.code = cb) {o : Int} {b : Addr} {pc' : Nat} (hd : decode cb pc = .ok (.ifnonnull o, 3)) (g : own_Go p.tables e below P (T.setTop (mkF m pc' Ls st))) (ho : 0 ≤ (pc : Int) + o := by decide) (hp : ((pc : Int) + o).toNat = pc' := by decide) : own_Go p.tables e below P (T.setTop (mkF m pc Ls (.ref b :: st))) := own_st (fun t k => XS.ifnonnullYes X.here hq.1 rfl rfl (hb hq.2 hd) rfl ho hp k) g
theorem o_ldc (X : Stand p l e R s m args below meth c T locs cells slots) {cb : ByteArray} (hq : p.tables.exec = Jvm.exec ∧ c.code = cb) {own : String} {index : Nat} {v : Int32} (hown : s.vm.findClass own = some m.cls) (hd : decode cb pc = .ok (.ldc index, 2)) (hk : (Cond.constant own index v).before args s = true) (g : own_Go p.tables e below P (T.setTop (mkF m (pc + 2) Ls (.int v :: st)))) : own_Go p.tables e below P (T.setTop (mkF m pc Ls st)) := own_st (X.ldcInt hq.1 hown hk (g := mkF m pc Ls st) rfl (hb hq.2 hd)) g
theorem o_ldc2 (X : Stand p l e R s m args below meth c T locs cells slots) {cb : ByteArray} (hq : p.tables.exec = Jvm.exec ∧ c.code = cb) {own : String} {index : Nat} {v : Int64} (hown : s.vm.findClass own = some m.cls) (hd : decode cb pc = .ok (.ldc2_w index, 3)) (hk : (Cond.constantLong own index v).before args s = true) (g : own_Go p.tables e below P (T.setTop (mkF m (pc + 3) Ls (.long v :: st)))) : own_Go p.tables e below P (T.setTop (mkF m pc Ls st)) := own_st (X.ldc2Long hq.1 hown hk (g := mkF m pc Ls st) rfl (hb hq.2 hd)) g
end Steps2
end Jvm.RoadKit
namespace Jvm.Pilot.@@N@@
open Jvm Jvm.ClassFile Sem Op Lib Jvm.Free Jvm.Stand Jvm.LawKit Jvm.RoadKit Bundle Jvm.Pilot.@@N@@.Jvm.D
abbrev R_ (a b c d : Nat) : Room := ⟨a, b, c, d⟩
abbrev y0_ : MethodName := ⟨"com/example/nimble_anonymizer/nimbleanonymizer/NumericColumn", "digits", "(Ljava/lang/String;II)Z"⟩
abbrev y1_ : MethodName := ⟨"java/lang/StringLatin1", "indexOf", "([BIII)I"⟩
abbrev y2_ : MethodName := ⟨"java/lang/String", "indexOf", "(II)I"⟩
abbrev y3_ : MethodName := ⟨"java/lang/StringLatin1", "indexOfChar", "([BIII)I"⟩
abbrev y4_ : MethodName := ⟨"java/lang/String", "<init>", "([CIILjava/lang/Void;)V"⟩
abbrev y5_ : MethodName := ⟨"java/lang/String", "<init>", "([C)V"⟩
abbrev y6_ : MethodName := ⟨"java/lang/Math", "min", "(II)I"⟩
abbrev y7_ : MethodName := ⟨"com/example/nimble_anonymizer/nimbleanonymizer/NumericColumn", "isNumber", "(Ljava/lang/String;)Z"⟩
abbrev y8_ : MethodName := ⟨"java/lang/StringUTF16", "compress", "([CI[BII)I"⟩
abbrev y9_ : MethodName := ⟨"java/lang/StringUTF16", "compress", "([CII)[B"⟩
abbrev y10_ : MethodName := ⟨"java/lang/StringUTF16", "coderFromArrayLen", "([BI)B"⟩
abbrev y11_ : MethodName := ⟨"com/example/nimble_anonymizer/nimbleanonymizer/NumericColumnIsNumberPinLaw", "good", "([CII)Z"⟩
abbrev y12_ : MethodName := ⟨"java/lang/String", "isLatin1", "()Z"⟩
abbrev y13_ : MethodName := ⟨"java/lang/String", "length", "()I"⟩
abbrev y14_ : MethodName := ⟨"java/lang/String", "charAt", "(I)C"⟩
abbrev y15_ : MethodName := ⟨"com/example/nimble_anonymizer/nimbleanonymizer/NumericColumnIsNumberPinLaw", "point", "([CII)I"⟩
abbrev y16_ : MethodName := ⟨"jdk/internal/util/Preconditions", "checkIndex", "(IILjava/util/function/BiFunction;)I"⟩
abbrev y17_ : MethodName := ⟨"java/lang/String", "isEmpty", "()Z"⟩
abbrev y18_ : MethodName := ⟨"com/example/nimble_anonymizer/nimbleanonymizer/NumericColumn", "signed", "(Ljava/lang/String;)Z"⟩
abbrev y19_ : MethodName := ⟨"java/lang/Math", "max", "(II)I"⟩
abbrev y20_ : MethodName := ⟨"java/lang/String", "checkIndex", "(II)V"⟩
abbrev y21_ : MethodName := ⟨"java/lang/StringLatin1", "charAt", "([BI)C"⟩
abbrev y22_ : MethodName := ⟨"java/lang/String", "coder", "()B"⟩
abbrev y23_ : MethodName := ⟨"com/example/nimble_anonymizer/nimbleanonymizer/NumericColumnIsNumberPinLaw", "draw", "(I)C"⟩
abbrev y24_ : MethodName := ⟨"java/lang/StringLatin1", "canEncode", "(I)Z"⟩
abbrev HW (a0 : Array Value) (Z : State) : Prop := ∀ d ∈ tables_1, d.before a0 Z = true
theorem w_ {a0 : Array Value} {Z : State} {d : Jvm.Cond} (hw : HW a0 Z) (i : Nat) (h : tables_1[i]? = some d) : d.before a0 Z = true := hw _ (List.mem_of_getElem? h)
theorem v_ {a0 args : Array Value} {Z s : State} {d : Jvm.Cond} (hZ : Z.Warmed39 s.vm) (hw : HW a0 Z) (i : Nat) (h : tables_1[i]? = some d) (hd : (d.onTables && d.keepsFace) = true := by first | rfl | simp [Cond.onTables, Cond.keepsFace, Cond.keeps, Cond.steady]) : d.before args s = true := mvT hZ (hw _ (List.mem_of_getElem? h)) hd
theorem z_ {a b : Nat} (h : 2 * 0 + a = b) : 2 * 0 + a ≤ b := Nat.le_of_eq h
def own_P (s : State) (Q : Option Value → Heap → List Loc → Prop) (R : Room) : Outcome → State → Prop := fun o U' => ∃ v L, o = .returned v ∧ Q v U'.heap L ∧ FrameEnd s o U' L R.cells R.slots
def own_PW (s : State) (Q : Option Value → Heap → List Loc → Prop) (R : Room) : Outcome → State → Prop := fun o U' => ∃ v L, o = .returned v ∧ Q v U'.heap L ∧ ReturnedEndW s o U' L R.cells R.slots
abbrev own_Met (l : Launch) (y : MethodName) (bytes : ByteArray) (ML : Nat) (ret : Option FieldType) (R : Room) (as' : Array Value) (Z : State) (h0 : Heap) (Q : Option Value → Heap → List Loc → Prop) : Prop :=
 MetFree l y (head1 [Jvm.Cond.code y bytes ML ret] R) (fun a U => a = as' ∧ Z.Warmed39 U.vm ∧ U.heap = h0) (fun _ _ _ _ _ => True) (fun _ U o U' => ∃ v L, o = .returned v ∧ Q v U'.heap L ∧ FrameEnd U o U' L R.cells R.slots)
theorem own_bd {l : Launch} {y : MethodName} {bytes : ByteArray} {ML : Nat} {ret : Option FieldType} {R : Room} {as' : Array Value} {Z : State} {h0 : Heap} {Q : Option Value → Heap → List Loc → Prop} {own : String} (ho : y.cls = own) (hpl : plainFor y = true) (Ls : Array Slot)
  (k : ∀ (p : Program) (e : Env) (s : State) (m : MethodId) (below : List Frame) (meth : Method) (c : Code) (s₁ : State), p.tables.exec = Jvm.exec → c.code = bytes → (p.tables.exec = Jvm.exec ∧ c.code = bytes) → c.maxLocals = ML → s.vm.findClass own = some m.cls → meth.name = y.name → meth.locks = false → meth.sig.returnType = ret → Z.Warmed39 s.vm → Stand p l e R s m as' below meth c s₁ [] 0 0 → s₁.heap = h0 → own_Go p.tables e below (own_P s Q R) (s₁.setTop (mkF m 0 Ls []))) (hef : ∀ m : MethodId, entryFrame m as' ML = mkF m 0 Ls [] := by intro m; first | (simp [entryFrame, mkF, argsToLocals, Value.category]; done) | rfl) : own_Met l y bytes ML ret R as' Z h0 Q := by
 refine MetFree.of_bodySF hpl hisR ?_
 intro p e s m args below meth c s₁ Bd hml hP hK
 obtain ⟨rfl, hZ, hh⟩ := hP
 have hlk : meth.locks = false := BodyLoose.notSynchronized (by assumption)
 have X0 : Stand p l e R s m _ below meth c s₁ [] 0 0 := Stand.of_body Bd
 have e0 : s₁.heap = h0 := by rw [← hh, Bd.state]; rfl
 have g := k p e s m below meth c s₁ Bd.exec Bd.bytes ⟨Bd.exec, Bd.bytes⟩ hml (by rw [← ho]; exact findClass_of_methodNamed Bd.named) (name_of_methodNamed Bd.named Bd.method).1 hlk Bd.returns hZ X0 e0
 exact own_st (fun t k => castTop (hef m) k) g
variable {l : Launch} {Z : State} {a0 : Array Value}
theorem own_Sta_keep {Z : State} {h h' : Heap} {C n d : String} {v : Value} {ws : List Addr} (F : Sta Z h C n d v) (K : Keep h h' ws) (hs : ∀ x ∈ ws, ∀ cell : Cell, h[x]? = some cell → cell.vm.isStatics = false) : Sta Z h' C n d v := by
 obtain ⟨cf, i, k, f, st, cell, h1, h2, h3, h4, h5, h6, h7⟩ := F
 refine ⟨cf, i, k, f, st, cell, h1, h2, h3, h4, K.2.1 _ _ h5 fun hm => ?_, h6, h7⟩
 rw [hs _ hm _ h5] at h6
 cases h6
theorem pn_6 : plainName "java/lang/StringUTF16" = true := by first | (simp [plainName, overriddenIn]; done) | decide +kernel
abbrev D6 := decode jdk_52_method_21_code
theorem d6_0 : D6 0 = .ok (.iconst 0, 1) := by decide +kernel
theorem d6_1 : D6 1 = .ok (.istore 5, 2) := by decide +kernel
theorem d6_3 : D6 3 = .ok (.iload 5, 2) := by decide +kernel
theorem d6_5 : D6 5 = .ok (.iload 4, 2) := by decide +kernel
theorem d6_7 : D6 7 = .ok (.if_icmp .ge 37, 3) := by decide +kernel
theorem d6_10 : D6 10 = .ok (.aload_n 0, 1) := by decide +kernel
theorem d6_11 : D6 11 = .ok (.iload_n 1, 1) := by decide +kernel
theorem d6_12 : D6 12 = .ok (.caload, 1) := by decide +kernel
theorem d6_13 : D6 13 = .ok (.istore 6, 2) := by decide +kernel
theorem d6_15 : D6 15 = .ok (.iload 6, 2) := by decide +kernel
theorem d6_17 : D6 17 = .ok (.sipush 255, 3) := by decide +kernel
theorem d6_20 : D6 20 = .ok (.if_icmp .le 6, 3) := by decide +kernel
theorem d6_26 : D6 26 = .ok (.aload_n 2, 1) := by decide +kernel
theorem d6_27 : D6 27 = .ok (.iload_n 3, 1) := by decide +kernel
theorem d6_28 : D6 28 = .ok (.iload 6, 2) := by decide +kernel
theorem d6_30 : D6 30 = .ok (.i2b, 1) := by decide +kernel
theorem d6_31 : D6 31 = .ok (.bastore, 1) := by decide +kernel
theorem d6_32 : D6 32 = .ok (.iinc 1 1, 3) := by decide +kernel
theorem d6_35 : D6 35 = .ok (.iinc 3 1, 3) := by decide +kernel
theorem d6_38 : D6 38 = .ok (.iinc 5 1, 3) := by decide +kernel
theorem d6_41 : D6 41 = .ok (.goto (-38), 3) := by decide +kernel
theorem d6_44 : D6 44 = .ok (.iload 4, 2) := by decide +kernel
theorem d6_46 : D6 46 = .ok (.ireturn, 1) := by decide +kernel
section Sm
variable {p : Program} {l : Launch} {e : Env} {R : Room} {s : State} {m : MethodId} {args : Array Value} {below : List Frame} {meth : Method} {c : Code} {T : State} {locs : List Loc} {cells slots : Nat} {P : Outcome → State → Prop} {pc : Nat} {Ls : Array Slot} {st : List Value}
theorem e_I (X : Stand p l e R s m args below meth c T locs cells slots) {h : Heap} (eT : T.heap = h) {cb : ByteArray} (hq : p.tables.exec = Jvm.exec ∧ c.code = cb) (hlk : meth.locks = false) {z : Int32} {rest : List Value} (hrt : meth.sig.returnType = some .int) (hd : decode cb pc = .ok (.ireturn, 1)) {Q : Option Value → Heap → List Loc → Prop} (hQ : Q (some (.int z)) h locs) (hcs : cells ≤ R.cells ∧ slots ≤ R.slots := by decide) :
  own_Go p.tables e below (own_P s Q R) (T.setTop (mkF m pc Ls (.int z :: rest))) := own_end X eT (v := (some (.int z))) (fun h => by rw [hrt] at h; cases h) hlk (fun fs hr => retI X hq.1 hrt (hb hq.2 hd) hr) (Q := Q) hQ hcs.1 hcs.2
end Sm
def Q_rmcA1 (Z : State) (a0 : Array Value) (a1 a2 : Addr) (k1 : ClassId) (d1 : Value) (c0 : Int32) (k2 : ClassId) (h0 : Heap) (n0 : Nat) (v : Option Value) (h : Heap) (L : List Loc) : Prop := v = some (.int (1 : Int32)) ∧ Fr n0 L ∧ Keep h0 h [a2] ∧ Arv Z h a2 k2 .byte (1 : Int32) [(.int ((c0.toInt8.toInt32).toInt8.toInt32))] (.int (0 : Int32))
theorem rmcA1 (hw : HW a0 Z) (a1 a2 : Addr) (k1 : ClassId) (d1 : Value) (c0 : Int32) (k2 : ClassId) (h0 : Heap) (n0 : Nat) (Z0 : n0 ≤ h0.size) (V1 : Arv Z h0 a1 k1 .char (1 : Int32) [(.int c0)] d1) (V2 : Arv Z h0 a2 k2 .byte (1 : Int32) [(.int (0 : Int32))] (.int (0 : Int32))) (g2 : n0 ≤ a2) (n12 : a1 ≠ a2) (hc0 : ¬ (255 : Int32) < c0) :
  own_Met l y8_ jdk_52_method_21_code 7 (some .int) (R_ 0 0 0 0) #[(.ref a1), (.int (0 : Int32)), (.ref a2), (.int (0 : Int32)), (.int (1 : Int32))] Z h0 (Q_rmcA1 Z a0 a1 a2 k1 d1 c0 k2 h0 n0) := by
 refine own_bd (own := "java/lang/StringUTF16") rfl (plainFor_of_name pn_6) #[rv a1, iv 0, rv a2, iv 0, iv 1, .unset, .unset] ?_
 intro p e s m below meth c s₁ hx hby hq hml hown hnm hlk hrt hZ X0 e0
 refine o_iconst X0 hq 0 d6_0 rfl (o_istore X0 hq d6_1 (l' := #[rv a1, iv 0, rv a2, iv 0, iv 1, iv 0, .unset]) rfl (o_iload X0 hq d6_3 rfl (o_iload X0 hq d6_5 rfl (o_icmpNo X0 hq d6_7 (by decide) (o_aloadN X0 hq d6_10 rfl rfl (o_iloadN X0 hq d6_11 rfl ?_))))))
 obtain ⟨cl_1, Ar_1, qk_1, Sz_1, Ng_1, Hs_1, Gs_1⟩ := id V1
 refine own_st (X0.caload hx (j := (0 : Int32)) (v := (.int c0)) (by rw [e0]; exact Ar_1.1) (State.isArrayOf_alike hZ.alike Ar_1.2.1) Ar_1.2.2 (inb_of Sz_1 ⟨by decide, by decide⟩) (Hs_1.at (j := (0 : Int32)) (inb_of Sz_1 ⟨by decide, by decide⟩) rfl) (g := (mkF m 12 #[rv a1, iv 0, rv a2, iv 0, iv 1, iv 0, .unset] [(.int 0), (.ref a1)])) rfl rfl (hb hby d6_12)) ?_
 show own_Go _ _ _ _ (s₁.setTop (mkF m 13 #[rv a1, iv 0, rv a2, iv 0, iv 1, iv 0, .unset] [(.int c0)]))
 refine o_istore X0 hq d6_13 (l' := #[rv a1, iv 0, rv a2, iv 0, iv 1, iv 0, iv c0]) rfl (o_iload X0 hq d6_15 rfl (o_sipush X0 hq 255 d6_17 rfl (o_icmpYes X0 hq (pc' := 26) d6_20 (flt hc0).2.2.2 (o_aloadN X0 hq d6_26 rfl rfl (o_iloadN X0 hq d6_27 rfl (o_iload X0 hq d6_28 rfl (o_i2b X0 hq d6_30 ?_)))))))
 obtain ⟨cl_2, Ar_2, qk_2, Sz_2, Ng_2, Hs_2, Gs_2⟩ := id V2
 obtain ⟨T_3, h_3, X_3, e_3, W_3, st_3⟩ := stB X0 hx hZ e0 Ar_2 (j := (0 : Int32)) (inb_of Sz_2 ⟨by decide, by decide⟩) (g := (mkF m 31 #[rv a1, iv 0, rv a2, iv 0, iv 1, iv 0, iv c0] [(.int (c0.toInt8.toInt32)), (.int 0), (.ref a2)])) rfl rfl (hb hby d6_31)
 refine own_st st_3 ?_
 have V_3 : Arv Z h_3 a2 k2 .byte (1 : Int32) [(.int ((c0.toInt8.toInt32).toInt8.toInt32))] (.int (0 : Int32)) := Arv.set Ar_2 qk_2 Sz_2 Ng_2 Hs_2 Gs_2 (fits_nar_byte _) W_3 0 rfl (Nat.le_of_ble_eq_true rfl)
 have N_3 := Fr.snoc X_3 (Fr.nil n0) g2
 show own_Go _ _ _ _ (T_3.setTop (mkF m 32 #[rv a1, iv 0, rv a2, iv 0, iv 1, iv 0, iv c0] []))
 refine o_iinc X_3 hq d6_32 rfl (l' := #[rv a1, iv 1, rv a2, iv 0, iv 1, iv 0, iv c0]) rfl (o_iinc X_3 hq d6_35 rfl (l' := #[rv a1, iv 1, rv a2, iv 1, iv 1, iv 0, iv c0]) rfl (o_iinc X_3 hq d6_38 rfl (l' := #[rv a1, iv 1, rv a2, iv 1, iv 1, iv 1, iv c0]) rfl (o_goto X_3 hq (pc' := 3) d6_41 (o_iload X_3 hq d6_3 rfl (o_iload X_3 hq d6_5 rfl (o_icmpYes X_3 hq (pc' := 44) d6_7 (by decide) (o_iload X_3 hq d6_44 rfl ?_)))))))
 have Kp_4 : Keep h0 h_3 [a2] := ((Keep.refl h0 [a2]).wr W_3 (Or.inl (List.mem_of_getElem? (i := 0) rfl)))
 exact e_I X_3 e_3 hq hlk hrt d6_46 ⟨rfl, N_3, Kp_4, V_3⟩
abbrev D5 := decode jdk_52_method_16_code
theorem d5_0 : D5 0 = .ok (.iload_n 2, 1) := by decide +kernel
theorem d5_1 : D5 1 = .ok (.newarray .byte, 2) := by decide +kernel
theorem d5_3 : D5 3 = .ok (.astore_n 3, 1) := by decide +kernel
theorem d5_4 : D5 4 = .ok (.aload_n 0, 1) := by decide +kernel
theorem d5_5 : D5 5 = .ok (.iload_n 1, 1) := by decide +kernel
theorem d5_6 : D5 6 = .ok (.aload_n 3, 1) := by decide +kernel
theorem d5_7 : D5 7 = .ok (.iconst 0, 1) := by decide +kernel
theorem d5_8 : D5 8 = .ok (.iload_n 2, 1) := by decide +kernel
theorem d5_9 : D5 9 = .ok (.invokestatic 115, 3) := by decide +kernel
theorem pd_1 : parseMethodDescriptor "([CI[BII)I" = some ⟨[(.array .char), .int, (.array .byte), .int, .int], some .int⟩ := by decide +kernel
def own_KS (a0 : Array Value) (Z : State) (own C : String) (index : Nat) (y z : MethodName) (bytes : ByteArray) (maxL : Nat) (ret : Option FieldType) (k : Nat) : Prop := ((Jvm.Cond.methodLink own index y).before a0 Z = true ∧ (∃ ps r, parseMethodDescriptor y.desc = some ⟨ps, r⟩ ∧ k = ps.length) ∧ (y.cls ≠ "java/lang/invoke/MethodHandle" ∧ y.cls ≠ "java/lang/invoke/VarHandle")) ∧ (Jvm.Cond.static y).before a0 Z = true ∧ (Jvm.Cond.initialized y.cls).before a0 Z = true ∧ (Jvm.Cond.code y bytes maxL ret).before a0 Z = true
section Sm
variable {p : Program} {l : Launch} {e : Env} {R : Room} {s : State} {m : MethodId} {args : Array Value} {below : List Frame} {meth : Method} {c : Code} {T : State} {locs : List Loc} {cells slots : Nat} {P : Outcome → State → Prop} {pc : Nat} {Ls : Array Slot} {st : List Value}
theorem c_S5 (X : Stand p l e R s m args below meth c T locs cells slots) {cb : ByteArray} (hq : p.tables.exec = Jvm.exec ∧ c.code = cb) {Z : State} {a0 : Array Value} {h : Heap} {own C : String} {index : Nat} {y z : MethodName} {bytes : ByteArray} {maxL ML : Nat} {ret : Option FieldType} {rm : Room} {Q : Option Value → Heap → List Loc → Prop} {v1 v2 v3 v4 v5 : Value}
  (eT : T.heap = h) (hZ : Z.Warmed39 s.vm) (hown : s.vm.findClass own = some m.cls) (hml : c.maxLocals = ML) (hK : own_KS a0 Z own C index y z bytes maxL ret 5) (hM : own_Met l y bytes maxL ret rm #[v1, v2, v3, v4, v5] Z h Q)
  (hd : decode cb pc = .ok (.invokestatic index, 3)) 
  (k : ∀ (T' : State) (L : List Loc) (w : Value), Stand p l e R s m args below meth c T' (locs ++ L) (cells + rm.cells) (slots + rm.slots) → Q (some w) T'.heap L → own_Go p.tables e below P (T'.setTop (mkF m (pc + 3) Ls (w :: st)))) (W : Nat) (hsz : Ls.size = ML := by rfl) (hW : (st.map fun v => v.category).sum = W := by rfl) (sd : rm.frames + 1 ≤ R.frames ∧ W + (maxL + 11) + rm.locals ≤ R.locals ∧ cells + rm.cells ≤ R.cells ∧ slots + rm.slots ≤ R.slots := by decide) (hv : ∀ v h L, Q v h L → ∃ w, v = some w := by intro v h L q; first | exact Exists.intro _ q.1 | (obtain ⟨_, q⟩ := q; exact Exists.intro _ q.1) | (obtain ⟨_, _, q⟩ := q; exact Exists.intro _ q.1) | (obtain ⟨_, _, _, q⟩ := q; exact Exists.intro _ q.1)) : own_Go p.tables e below P (T.setTop (mkF m pc Ls (v5 :: v4 :: v3 :: v2 :: v1 :: st))) := by
 obtain ⟨⟨w1, ⟨ps, r, hp, hlen⟩, hy⟩, w2, w3, w4⟩ := hK
 obtain ⟨v, vm1, ⟨T', L0, k0, n0⟩, -, X', ⟨L, hQ, e1, e2, e3⟩, hst⟩ := Jvm.LawKit.callS X hq.1 (y := y) hown (mvT hZ w1) (mvT hZ w2) (mvT hZ w3) (mvT hZ w4) hy (backOf (W := W) (Q := Q) hM hZ w4 w3 sd.1 sd.2.1) (g := mkF m pc Ls (v5 :: v4 :: v3 :: v2 :: v1 :: st)) rfl (by rw [hml]; exact hsz) (argsL := [v1, v2, v3, v4, v5]) (rest := st) (lenOf hp hlen) rfl (by show 2 * 0 + _ ≤ _; rw [Nat.mul_zero, Nat.zero_add]; exact Nat.le_of_eq hW) (hb hq.2 hd) (fun _ _ => ⟨rfl, eT, sd.2.2.1, sd.2.2.2⟩)
 dsimp only [Pt.U, Pt.locs, Pt.cells, Pt.slots] at X' e1 e2 e3 hst hQ
 subst e1 e2 e3
 obtain ⟨w, rfl⟩ := hv _ _ _ hQ
 exact own_st hst (k _ _ _ X' hQ)
end Sm
theorem k5_115 {a0 : Array Value} {Z : State} (hw : HW a0 Z) : own_KS a0 Z "java/lang/StringUTF16" "" 115 y8_ y8_ jdk_52_method_21_code 7 (some .int) 5 := ⟨⟨(w_ hw 25 rfl), ⟨_, _, pd_1, rfl⟩, by decide⟩, (w_ hw 26 rfl), (w_ hw 22 rfl), (w_ hw 27 rfl)⟩
theorem d5_12 : D5 12 = .ok (.istore 4, 2) := by decide +kernel
theorem d5_14 : D5 14 = .ok (.iload 4, 2) := by decide +kernel
theorem d5_16 : D5 16 = .ok (.iload_n 2, 1) := by decide +kernel
theorem d5_17 : D5 17 = .ok (.if_icmp .eq 40, 3) := by decide +kernel
theorem d5_57 : D5 57 = .ok (.aload_n 3, 1) := by decide +kernel
theorem d5_58 : D5 58 = .ok (.areturn, 1) := by decide +kernel
section Sm
variable {p : Program} {l : Launch} {e : Env} {R : Room} {s : State} {m : MethodId} {args : Array Value} {below : List Frame} {meth : Method} {c : Code} {T : State} {locs : List Loc} {cells slots : Nat} {P : Outcome → State → Prop} {pc : Nat} {Ls : Array Slot} {st : List Value}
theorem e_R (X : Stand p l e R s m args below meth c T locs cells slots) {h : Heap} (eT : T.heap = h) {cb : ByteArray} (hq : p.tables.exec = Jvm.exec ∧ c.code = cb) (hlk : meth.locks = false) {z : Value} {t : FieldType} {rest : List Value} (ht : t.isReference = true) (hz : z.isRef = true) (hrt : meth.sig.returnType = some t) (hd : decode cb pc = .ok (.areturn, 1)) {Q : Option Value → Heap → List Loc → Prop} (hQ : Q (some z) h locs) (hcs : cells ≤ R.cells ∧ slots ≤ R.slots := by decide) :
  own_Go p.tables e below (own_P s Q R) (T.setTop (mkF m pc Ls (z :: rest))) := own_end X eT (v := (some z)) (fun h => by rw [hrt] at h; cases h) hlk (fun fs hr => own_retA X hq.1 hrt ht hz (hb hq.2 hd) hr) (Q := Q) hQ hcs.1 hcs.2
end Sm
def Q_rmcB1 (Z : State) (a0 : Array Value) (a1 : Addr) (k1 : ClassId) (d1 : Value) (c0 : Int32) (h0 : Heap) (n0 : Nat) (v : Option Value) (h : Heap) (L : List Loc) : Prop := ∃ b : Addr, ∃ kb : ClassId, v = some (.ref b) ∧ Fr n0 L ∧ Keep h0 h [] ∧ n0 ≤ b ∧ h0.size ≤ b ∧ Arv Z h b kb .byte (1 : Int32) [(.int ((c0.toInt8.toInt32).toInt8.toInt32))] (.int (0 : Int32))
theorem rmcB1 (hw : HW a0 Z) (a1 : Addr) (k1 : ClassId) (d1 : Value) (c0 : Int32) (h0 : Heap) (n0 : Nat) (Z0 : n0 ≤ h0.size) (V1 : Arv Z h0 a1 k1 .char (1 : Int32) [(.int c0)] d1) (hc0 : ¬ (255 : Int32) < c0) :
  own_Met l y9_ jdk_52_method_16_code 6 (some (.array .byte)) (R_ 1 1 1 18) #[(.ref a1), (.int (0 : Int32)), (.int (1 : Int32))] Z h0 (Q_rmcB1 Z a0 a1 k1 d1 c0 h0 n0) := by
 refine own_bd (own := "java/lang/StringUTF16") rfl (plainFor_of_name pn_6) #[rv a1, iv 0, iv 1, .unset, .unset, .unset] ?_
 intro p e s m below meth c s₁ hx hby hq hml hown hnm hlk hrt hZ X0 e0
 refine o_iloadN X0 hq d5_0 rfl ?_
 obtain ⟨T_1, h_1, k_1, X_1, e_1, E_1, A_1, st_1⟩ := newP X0 hx hZ (w_ hw 24 rfl) e0 (g := (mkF m 1 #[rv a1, iv 0, iv 1, .unset, .unset, .unset] [(.int 1)])) rfl (hb hby d5_1) rfl (by decide) (cap := 1) (by decide) (by decide) (by decide) (by decide)
 obtain ⟨b_1, g_1⟩ : ∃ z, z = h0.size := ⟨_, rfl⟩
 rw [← g_1] at A_1 st_1
 have V_1 : Arv Z h_1 b_1 k_1 .byte (1 : Int32) [(.int (0 : Int32))] (.int (0 : Int32)) := (Arv.new A_1 (by decide)).pad (pad_rep [] (.int (0 : Int32)) 1)
 have gg_1 : n0 ≤ b_1 := Nat.le_trans Z0 (Nat.le_of_eq g_1.symm)
 have sz_1 : h0.size ≤ b_1 := Nat.le_trans (Keep.refl h0 []).1 (Nat.le_of_eq g_1.symm)
 refine own_st st_1 ?_
 show own_Go _ _ _ _ (T_1.setTop (mkF m 3 #[rv a1, iv 0, iv 1, .unset, .unset, .unset] [(.ref b_1)]))
 refine o_astoreN X_1 hq d5_3 rfl (l' := #[rv a1, iv 0, iv 1, rv b_1, .unset, .unset]) rfl (o_aloadN X_1 hq d5_4 rfl rfl (o_iloadN X_1 hq d5_5 rfl (o_aloadN X_1 hq d5_6 rfl rfl (o_iconst X_1 hq 0 d5_7 rfl (o_iloadN X_1 hq d5_8 rfl ?_)))))
 have Fa_3 := (V1.ext E_1)
 have Zs_4 : n0 ≤ h_1.size := (Nat.le_trans Z0 E_1.1)
 refine c_S5 X_1 hq e_1 hZ hown hml (k5_115 hw) (rmcA1 hw a1 b_1 k1 d1 c0 k_1 h_1 n0 Zs_4 Fa_3 V_1 gg_1 (Nat.ne_of_lt (Nat.lt_of_lt_of_le V1.lt (Nat.le_of_eq g_1.symm))) hc0) d5_9 ?_ 0
 rintro T_2 L_2 _ X_2 ⟨⟨⟩, Nq_2, K_2, Fq_2_0⟩
 have N_2 := Fr.app (Fr.nil n0) Nq_2
 refine o_istore X_2 hq d5_12 (l' := #[rv a1, iv 0, iv 1, rv b_1, iv 1, .unset]) rfl (o_iload X_2 hq d5_14 rfl (o_iloadN X_2 hq d5_16 rfl (o_icmpYes X_2 hq (pc' := 57) d5_17 (by decide) (o_aloadN X_2 hq d5_57 rfl rfl ?_))))
 have Kp_5 : Keep h0 T_2.heap [] := (((Keep.refl h0 []).ext E_1).trans K_2 (allS (Or.inr sz_1) all0))
 exact e_R X_2 rfl hq hlk rfl rfl hrt d5_58 ⟨b_1, k_1, rfl, N_2, Kp_5, gg_1, sz_1, Fq_2_0⟩
abbrev D7 := decode jdk_52_method_15_code
theorem d7_0 : D7 0 = .ok (.iload_n 1, 1) := by decide +kernel
theorem d7_1 : D7 1 = .ok (.aload_n 0, 1) := by decide +kernel
theorem d7_2 : D7 2 = .ok (.arraylength, 1) := by decide +kernel
theorem d7_3 : D7 3 = .ok (.isub, 1) := by decide +kernel
theorem d7_4 : D7 4 = .ok (.bipush 31, 2) := by decide +kernel
theorem d7_6 : D7 6 = .ok (.iushr, 1) := by decide +kernel
theorem d7_7 : D7 7 = .ok (.i2b, 1) := by decide +kernel
theorem d7_8 : D7 8 = .ok (.ireturn, 1) := by decide +kernel
section Sm
variable {p : Program} {l : Launch} {e : Env} {R : Room} {s : State} {m : MethodId} {args : Array Value} {below : List Frame} {meth : Method} {c : Code} {T : State} {locs : List Loc} {cells slots : Nat} {P : Outcome → State → Prop} {pc : Nat} {Ls : Array Slot} {st : List Value}
theorem e_B (X : Stand p l e R s m args below meth c T locs cells slots) {h : Heap} (eT : T.heap = h) {cb : ByteArray} (hq : p.tables.exec = Jvm.exec ∧ c.code = cb) (hlk : meth.locks = false) {z : Int32} {rest : List Value} (hrt : meth.sig.returnType = some .byte) (hd : decode cb pc = .ok (.ireturn, 1)) {Q : Option Value → Heap → List Loc → Prop} (hQ : Q (some (.int (nar .byte z))) h locs) (hcs : cells ≤ R.cells ∧ slots ≤ R.slots := by decide) :
  own_Go p.tables e below (own_P s Q R) (T.setTop (mkF m pc Ls (.int z :: rest))) := own_end X eT (v := (some (.int (nar .byte z)))) (fun h => by rw [hrt] at h; cases h) hlk (fun fs hr => retN X hq.1 (z := z) (t := .byte) hrt (by simp) (hb hq.2 hd) hr) (Q := Q) hQ hcs.1 hcs.2
end Sm
def Q_rmcl1 (Z : State) (a0 : Array Value) (a1 : Addr) (k1 : ClassId) (vs : List Value) (d1 : Value) (h0 : Heap) (n0 : Nat) (v : Option Value) (h : Heap) (L : List Loc) : Prop := v = some (.int (0 : Int32)) ∧ Fr n0 L ∧ h = h0
theorem rmcl1 (hw : HW a0 Z) (a1 : Addr) (k1 : ClassId) (vs : List Value) (d1 : Value) (h0 : Heap) (n0 : Nat) (Z0 : n0 ≤ h0.size) (V1 : Arv Z h0 a1 k1 .byte (1 : Int32) vs d1) :
  own_Met l y10_ jdk_52_method_15_code 2 (some .byte) (R_ 0 0 0 0) #[(.ref a1), (.int (1 : Int32))] Z h0 (Q_rmcl1 Z a0 a1 k1 vs d1 h0 n0) := by
 refine own_bd (own := "java/lang/StringUTF16") rfl (plainFor_of_name pn_6) #[rv a1, iv 1] ?_
 intro p e s m below meth c s₁ hx hby hq hml hown hnm hlk hrt hZ X0 e0
 refine o_iloadN X0 hq d7_0 rfl (o_aloadN X0 hq d7_1 rfl rfl ?_)
 obtain ⟨cl_1, Ar_1, qk_1, Sz_1, Ng_1, Hs_1, Gs_1⟩ := id V1
 refine own_st (X0.arraylength hx (by rw [e0]; exact Ar_1.1) (State.isArrayOf_alike hZ.alike Ar_1.2.1) (g := (mkF m 2 #[rv a1, iv 1] [(.ref a1), (.int 1)])) rfl rfl (hb hby d7_2)) ?_
 rw [len_of Sz_1 Ng_1]
 show own_Go _ _ _ _ (s₁.setTop (mkF m 3 #[rv a1, iv 1] [(.int 1), (.int 1)]))
 refine o_isub X0 hq d7_3 ?_
 show own_Go _ _ _ _ (s₁.setTop (mkF m 4 #[rv a1, iv 1] [(.int 0)]))
 refine o_bipush X0 hq 31 d7_4 rfl (o_iushr X0 hq d7_6 ?_)
 show own_Go _ _ _ _ (s₁.setTop (mkF m 7 #[rv a1, iv 1] [(.int 0)]))
 refine o_i2b X0 hq d7_7 ?_
 show own_Go _ _ _ _ (s₁.setTop (mkF m 8 #[rv a1, iv 1] [(.int 0)]))
 exact e_B X0 e0 hq hlk hrt d7_8 ⟨rfl, (Fr.nil n0), rfl⟩
theorem pn_3 : plainName "java/lang/String" = true := by first | (simp [plainName, overriddenIn]; done) | decide +kernel
abbrev D3 := decode jdk_42_method_149_code
theorem d3_0 : D3 0 = .ok (.aload_n 0, 1) := by decide +kernel
theorem d3_1 : D3 1 = .ok (.invokespecial 1, 3) := by decide +kernel
theorem d3_4 : D3 4 = .ok (.iload_n 3, 1) := by decide +kernel
theorem d3_5 : D3 5 = .ok (.ifCond .ne 22, 3) := by decide +kernel
theorem d3_27 : D3 27 = .ok (.getstatic 38, 3) := by decide +kernel
theorem d3_30 : D3 30 = .ok (.ifCond .eq 28, 3) := by decide +kernel
theorem d3_33 : D3 33 = .ok (.aload_n 1, 1) := by decide +kernel
theorem d3_34 : D3 34 = .ok (.iload_n 2, 1) := by decide +kernel
theorem d3_35 : D3 35 = .ok (.iload_n 3, 1) := by decide +kernel
theorem d3_36 : D3 36 = .ok (.invokestatic 177, 3) := by decide +kernel
theorem pd_2 : parseMethodDescriptor "([CII)[B" = some ⟨[(.array .char), .int, .int], some (.array .byte)⟩ := by decide +kernel
section Sm
variable {p : Program} {l : Launch} {e : Env} {R : Room} {s : State} {m : MethodId} {args : Array Value} {below : List Frame} {meth : Method} {c : Code} {T : State} {locs : List Loc} {cells slots : Nat} {P : Outcome → State → Prop} {pc : Nat} {Ls : Array Slot} {st : List Value}
theorem c_S3 (X : Stand p l e R s m args below meth c T locs cells slots) {cb : ByteArray} (hq : p.tables.exec = Jvm.exec ∧ c.code = cb) {Z : State} {a0 : Array Value} {h : Heap} {own C : String} {index : Nat} {y z : MethodName} {bytes : ByteArray} {maxL ML : Nat} {ret : Option FieldType} {rm : Room} {Q : Option Value → Heap → List Loc → Prop} {v1 v2 v3 : Value}
  (eT : T.heap = h) (hZ : Z.Warmed39 s.vm) (hown : s.vm.findClass own = some m.cls) (hml : c.maxLocals = ML) (hK : own_KS a0 Z own C index y z bytes maxL ret 3) (hM : own_Met l y bytes maxL ret rm #[v1, v2, v3] Z h Q)
  (hd : decode cb pc = .ok (.invokestatic index, 3)) 
  (k : ∀ (T' : State) (L : List Loc) (w : Value), Stand p l e R s m args below meth c T' (locs ++ L) (cells + rm.cells) (slots + rm.slots) → Q (some w) T'.heap L → own_Go p.tables e below P (T'.setTop (mkF m (pc + 3) Ls (w :: st)))) (W : Nat) (hsz : Ls.size = ML := by rfl) (hW : (st.map fun v => v.category).sum = W := by rfl) (sd : rm.frames + 1 ≤ R.frames ∧ W + (maxL + 11) + rm.locals ≤ R.locals ∧ cells + rm.cells ≤ R.cells ∧ slots + rm.slots ≤ R.slots := by decide) (hv : ∀ v h L, Q v h L → ∃ w, v = some w := by intro v h L q; first | exact Exists.intro _ q.1 | (obtain ⟨_, q⟩ := q; exact Exists.intro _ q.1) | (obtain ⟨_, _, q⟩ := q; exact Exists.intro _ q.1) | (obtain ⟨_, _, _, q⟩ := q; exact Exists.intro _ q.1)) : own_Go p.tables e below P (T.setTop (mkF m pc Ls (v3 :: v2 :: v1 :: st))) := by
 obtain ⟨⟨w1, ⟨ps, r, hp, hlen⟩, hy⟩, w2, w3, w4⟩ := hK
 obtain ⟨v, vm1, ⟨T', L0, k0, n0⟩, -, X', ⟨L, hQ, e1, e2, e3⟩, hst⟩ := Jvm.LawKit.callS X hq.1 (y := y) hown (mvT hZ w1) (mvT hZ w2) (mvT hZ w3) (mvT hZ w4) hy (backOf (W := W) (Q := Q) hM hZ w4 w3 sd.1 sd.2.1) (g := mkF m pc Ls (v3 :: v2 :: v1 :: st)) rfl (by rw [hml]; exact hsz) (argsL := [v1, v2, v3]) (rest := st) (lenOf hp hlen) rfl (by show 2 * 0 + _ ≤ _; rw [Nat.mul_zero, Nat.zero_add]; exact Nat.le_of_eq hW) (hb hq.2 hd) (fun _ _ => ⟨rfl, eT, sd.2.2.1, sd.2.2.2⟩)
 dsimp only [Pt.U, Pt.locs, Pt.cells, Pt.slots] at X' e1 e2 e3 hst hQ
 subst e1 e2 e3
 obtain ⟨w, rfl⟩ := hv _ _ _ hQ
 exact own_st hst (k _ _ _ X' hQ)
end Sm
theorem k3_177 {a0 : Array Value} {Z : State} (hw : HW a0 Z) : own_KS a0 Z "java/lang/String" "" 177 y9_ y9_ jdk_52_method_16_code 6 (some (.array .byte)) 3 := ⟨⟨(w_ hw 20 rfl), ⟨_, _, pd_2, rfl⟩, by decide⟩, (w_ hw 21 rfl), (w_ hw 22 rfl), (w_ hw 23 rfl)⟩
theorem d3_39 : D3 39 = .ok (.astore 5, 2) := by decide +kernel
theorem d3_41 : D3 41 = .ok (.aload_n 0, 1) := by decide +kernel
theorem d3_42 : D3 42 = .ok (.aload 5, 2) := by decide +kernel
theorem d3_44 : D3 44 = .ok (.iload_n 3, 1) := by decide +kernel
theorem d3_45 : D3 45 = .ok (.invokestatic 47, 3) := by decide +kernel
theorem pd_3 : parseMethodDescriptor "([BI)B" = some ⟨[(.array .byte), .int], some .byte⟩ := by decide +kernel
section Sm
variable {p : Program} {l : Launch} {e : Env} {R : Room} {s : State} {m : MethodId} {args : Array Value} {below : List Frame} {meth : Method} {c : Code} {T : State} {locs : List Loc} {cells slots : Nat} {P : Outcome → State → Prop} {pc : Nat} {Ls : Array Slot} {st : List Value}
theorem c_S2 (X : Stand p l e R s m args below meth c T locs cells slots) {cb : ByteArray} (hq : p.tables.exec = Jvm.exec ∧ c.code = cb) {Z : State} {a0 : Array Value} {h : Heap} {own C : String} {index : Nat} {y z : MethodName} {bytes : ByteArray} {maxL ML : Nat} {ret : Option FieldType} {rm : Room} {Q : Option Value → Heap → List Loc → Prop} {v1 v2 : Value}
  (eT : T.heap = h) (hZ : Z.Warmed39 s.vm) (hown : s.vm.findClass own = some m.cls) (hml : c.maxLocals = ML) (hK : own_KS a0 Z own C index y z bytes maxL ret 2) (hM : own_Met l y bytes maxL ret rm #[v1, v2] Z h Q)
  (hd : decode cb pc = .ok (.invokestatic index, 3)) 
  (k : ∀ (T' : State) (L : List Loc) (w : Value), Stand p l e R s m args below meth c T' (locs ++ L) (cells + rm.cells) (slots + rm.slots) → Q (some w) T'.heap L → own_Go p.tables e below P (T'.setTop (mkF m (pc + 3) Ls (w :: st)))) (W : Nat) (hsz : Ls.size = ML := by rfl) (hW : (st.map fun v => v.category).sum = W := by rfl) (sd : rm.frames + 1 ≤ R.frames ∧ W + (maxL + 11) + rm.locals ≤ R.locals ∧ cells + rm.cells ≤ R.cells ∧ slots + rm.slots ≤ R.slots := by decide) (hv : ∀ v h L, Q v h L → ∃ w, v = some w := by intro v h L q; first | exact Exists.intro _ q.1 | (obtain ⟨_, q⟩ := q; exact Exists.intro _ q.1) | (obtain ⟨_, _, q⟩ := q; exact Exists.intro _ q.1) | (obtain ⟨_, _, _, q⟩ := q; exact Exists.intro _ q.1)) : own_Go p.tables e below P (T.setTop (mkF m pc Ls (v2 :: v1 :: st))) := by
 obtain ⟨⟨w1, ⟨ps, r, hp, hlen⟩, hy⟩, w2, w3, w4⟩ := hK
 obtain ⟨v, vm1, ⟨T', L0, k0, n0⟩, -, X', ⟨L, hQ, e1, e2, e3⟩, hst⟩ := Jvm.LawKit.callS X hq.1 (y := y) hown (mvT hZ w1) (mvT hZ w2) (mvT hZ w3) (mvT hZ w4) hy (backOf (W := W) (Q := Q) hM hZ w4 w3 sd.1 sd.2.1) (g := mkF m pc Ls (v2 :: v1 :: st)) rfl (by rw [hml]; exact hsz) (argsL := [v1, v2]) (rest := st) (lenOf hp hlen) rfl (by show 2 * 0 + _ ≤ _; rw [Nat.mul_zero, Nat.zero_add]; exact Nat.le_of_eq hW) (hb hq.2 hd) (fun _ _ => ⟨rfl, eT, sd.2.2.1, sd.2.2.2⟩)
 dsimp only [Pt.U, Pt.locs, Pt.cells, Pt.slots] at X' e1 e2 e3 hst hQ
 subst e1 e2 e3
 obtain ⟨w, rfl⟩ := hv _ _ _ hQ
 exact own_st hst (k _ _ _ X' hQ)
end Sm
theorem k3_47 {a0 : Array Value} {Z : State} (hw : HW a0 Z) : own_KS a0 Z "java/lang/String" "" 47 y10_ y10_ jdk_52_method_15_code 2 (some .byte) 2 := ⟨⟨(w_ hw 28 rfl), ⟨_, _, pd_3, rfl⟩, by decide⟩, (w_ hw 29 rfl), (w_ hw 22 rfl), (w_ hw 30 rfl)⟩
theorem d3_48 : D3 48 = .ok (.putfield 15, 3) := by decide +kernel
theorem d3_51 : D3 51 = .ok (.aload_n 0, 1) := by decide +kernel
theorem d3_52 : D3 52 = .ok (.aload 5, 2) := by decide +kernel
theorem d3_54 : D3 54 = .ok (.putfield 9, 3) := by decide +kernel
theorem d3_57 : D3 57 = .ok (.return_, 1) := by decide +kernel
section Sm
variable {p : Program} {l : Launch} {e : Env} {R : Room} {s : State} {m : MethodId} {args : Array Value} {below : List Frame} {meth : Method} {c : Code} {T : State} {locs : List Loc} {cells slots : Nat} {P : Outcome → State → Prop} {pc : Nat} {Ls : Array Slot} {st : List Value}
theorem e_V (X : Stand p l e R s m args below meth c T locs cells slots) {h : Heap} (eT : T.heap = h) {cb : ByteArray} (hq : p.tables.exec = Jvm.exec ∧ c.code = cb) (hlk : meth.locks = false) (hrt : meth.sig.returnType = none) (hd : decode cb pc = .ok (.return_, 1)) {Q : Option Value → Heap → List Loc → Prop} (hQ : Q none h locs) (hcs : cells ≤ R.cells ∧ slots ≤ R.slots := by decide) :
  own_Go p.tables e below (own_P s Q R) (T.setTop (mkF m pc Ls [])) := own_end X eT (v := none) (fun _ => rfl) hlk (fun fs hr => X.returnOut hq.1 hrt (hb hq.2 hd) hr) (Q := Q) hQ hcs.1 hcs.2
end Sm
def Q_rmiB1 (Z : State) (a0 : Array Value) (a1 a2 : Addr) (k1 : ClassId) (d1 : Value) (w c0 : Int32) (h0 : Heap) (n0 : Nat) (v : Option Value) (h : Heap) (L : List Loc) : Prop := ∃ b : Addr, ∃ kb : ClassId, v = none ∧ Fr n0 L ∧ Keep h0 h [a1] ∧ n0 ≤ b ∧ h0.size ≤ b ∧ Fld Z h a1 "java/lang/String" "value" "[B" (.ref b) ∧ Fld Z h a1 "java/lang/String" "coder" "B" (.int (0 : Int32)) ∧ Arv Z h b kb .byte (1 : Int32) [(.int ((c0.toInt8.toInt32).toInt8.toInt32))] (.int (0 : Int32))
theorem rmiB1 (hw : HW a0 Z) (a1 a2 : Addr) (k1 : ClassId) (d1 : Value) (w c0 : Int32) (h0 : Heap) (n0 : Nat) (Z0 : n0 ≤ h0.size) (E1 : Exa Z h0 a1 "java/lang/String") (g1 : n0 ≤ a1) (F1 : Fld Z h0 a1 "java/lang/String" "value" "[B" .null) (F2 : Fld Z h0 a1 "java/lang/String" "coder" "B" (.int (0 : Int32))) (V1 : Arv Z h0 a2 k1 .char (1 : Int32) [(.int c0)] d1) (hc0 : ¬ (255 : Int32) < c0) (S1 : Sta Z h0 "java/lang/String" "COMPACT_STRINGS" "Z" (.int w)) (hw0 : ¬ w = (0 : Int32)) :
  own_Met l y4_ jdk_42_method_149_code 6 none (R_ 2 1 1 35) #[(.ref a1), (.ref a2), (.int (0 : Int32)), (.int (1 : Int32)), .null] Z h0 (Q_rmiB1 Z a0 a1 a2 k1 d1 w c0 h0 n0) := by
 refine own_bd (own := "java/lang/String") rfl (plainFor_of_name pn_3) #[rv a1, rv a2, iv 0, iv 1, .val .null, .unset] ?_
 intro p e s m below meth c s₁ hx hby hq hml hown hnm hlk hrt hZ X0 e0
 refine o_aloadN X0 hq d3_0 rfl rfl ?_
 obtain ⟨T_1, X_1, e_1, st_1⟩ := initO X0 hx hZ hown (w_ hw 16 rfl) (w_ hw 17 rfl) (w_ hw 18 rfl) e0 (g := (mkF m 1 #[rv a1, rv a2, iv 0, iv 1, .val .null, .unset] [(.ref a1)])) rfl (by rw [hml]; rfl) rfl (hb hby d3_1) (by decide) (W := 0) (z_ rfl) (by decide)
 refine own_st st_1 ?_
 show own_Go _ _ _ _ (T_1.setTop (mkF m 4 #[rv a1, rv a2, iv 0, iv 1, .val .null, .unset] []))
 refine o_iloadN X_1 hq d3_4 rfl (o_ifYes X_1 hq (pc' := 27) d3_5 (by decide) ?_)
 obtain ⟨T_2, X_2, e_2, st_2⟩ := getS2 X_1 hx hZ hown (host := "") (Or.inl (w_ hw 19 rfl)) Via.refl e_1 S1 (g := (mkF m 27 #[rv a1, rv a2, iv 0, iv 1, .val .null, .unset] [])) rfl (hb hby d3_27)
 refine own_st st_2 ?_
 show own_Go _ _ _ _ (T_2.setTop (mkF m 30 #[rv a1, rv a2, iv 0, iv 1, .val .null, .unset] [(.int w)]))
 refine o_ifNo X_2 hq d3_30 (feq hw0).1 (o_aloadN X_2 hq d3_33 rfl rfl (o_iloadN X_2 hq d3_34 rfl (o_iloadN X_2 hq d3_35 rfl ?_)))
 refine c_S3 X_2 hq e_2 hZ hown hml (k3_177 hw) (rmcB1 hw a2 k1 d1 c0 h0 n0 Z0 V1 hc0) d3_36 ?_ 0
 rintro T_3 L_3 _ X_3 ⟨b__3, kb__3, ⟨⟩, Nq_3, K_3, gq_3_b, sq_3_b, Fq_3_0⟩
 have N_3 := Fr.app (Fr.nil n0) Nq_3
 have szq_3_b : h0.size ≤ b__3 := Nat.le_trans (Keep.refl h0 [a1]).1 sq_3_b
 refine o_astore X_3 hq d3_39 rfl (l' := #[rv a1, rv a2, iv 0, iv 1, .val .null, rv b__3]) rfl (o_aloadN X_3 hq d3_41 rfl rfl (o_aload X_3 hq d3_42 rfl rfl (o_iloadN X_3 hq d3_44 rfl ?_)))
 have Zs_5 : n0 ≤ T_3.heap.size := (Nat.le_trans Z0 K_3.1)
 refine c_S2 X_3 hq rfl hZ hown hml (k3_47 hw) (rmcl1 hw b__3 kb__3 [(.int ((c0.toInt8.toInt32).toInt8.toInt32))] (.int (0 : Int32)) T_3.heap n0 Zs_5 Fq_3_0) d3_45 ?_ 1
 rintro T_4 L_4 _ X_4 ⟨⟨⟩, Nq_4, e_4⟩
 have N_4 := Fr.app N_3 Nq_4
 have Fa_6 := (F2.keep K_3 nin0)
 have Fa_7 := (E1.keep K_3)
 obtain ⟨T_8, h_8, X_8, e_8, W_8, st_8⟩ := putFN X_4 hx hZ hown (w_ hw 31 rfl) Via.refl e_4 Fa_6 Fa_7 (Or.inr ⟨(w_ hw 32 rfl), rfl, hnm⟩) (w_ hw 7 rfl) (ty := .byte) (v' := (.int (0 : Int32))) (by decide) rfl (by decide) (g := (mkF m 48 #[rv a1, rv a2, iv 0, iv 1, .val .null, rv b__3] [(.int 0), (.ref a1)])) rfl rfl (hb hby d3_48)
 refine own_st st_8 ?_
 have N_8 := Fr.snoc X_8 N_4 g1
 show own_Go _ _ _ _ (T_8.setTop (mkF m 51 #[rv a1, rv a2, iv 0, iv 1, .val .null, rv b__3] []))
 refine o_aloadN X_8 hq d3_51 rfl rfl (o_aload X_8 hq d3_52 rfl rfl ?_)
 have Fa_9 := ((F1.keep K_3 nin0).other W_8 (Or.inr (slot_ne (Or.inr (w_ hw 34 rfl)) (Or.inr (w_ hw 32 rfl)) (by decide) (t := (.array .byte)) (t' := .byte) (by decide) (by decide))))
 have Fa_10 := (Fa_7.wr W_8)
 obtain ⟨T_11, h_11, X_11, e_11, W_11, st_11⟩ := putF X_8 hx hZ hown (host := "") (Or.inl (w_ hw 33 rfl)) Via.refl e_8 Fa_9 Fa_10 (Or.inr ⟨(w_ hw 34 rfl), rfl, hnm⟩) (w_ hw 7 rfl) (ty := (.array .byte)) (by decide) rfl rfl (g := (mkF m 54 #[rv a1, rv a2, iv 0, iv 1, .val .null, rv b__3] [(.ref b__3), (.ref a1)])) rfl rfl (hb hby d3_54)
 refine own_st st_11 ?_
 have N_11 := Fr.snoc X_11 N_8 g1
 show own_Go _ _ _ _ (T_11.setTop (mkF m 57 #[rv a1, rv a2, iv 0, iv 1, .val .null, rv b__3] []))
 have Kp_12 : Keep h0 h_11 [a1] := ((((Keep.refl h0 [a1]).trans K_3 all0).wr W_8 (Or.inl (List.mem_of_getElem? (i := 0) rfl))).wr W_11 (Or.inl (List.mem_of_getElem? (i := 0) rfl)))
 have Fa_13 := (Fa_9.same W_11)
 have Fa_14 := ((Fa_6.same W_8).other W_11 (Or.inr (slot_ne (Or.inr (w_ hw 32 rfl)) (Or.inr (w_ hw 34 rfl)) (by decide) (t := .byte) (t' := (.array .byte)) (by decide) (by decide))))
 have Fa_15 := ((Fq_3_0.other W_8 (Ne.symm (Nat.ne_of_lt (Nat.lt_of_lt_of_le F2.lt sq_3_b)))).other W_11 (Ne.symm (Nat.ne_of_lt (Nat.lt_of_lt_of_le F2.lt sq_3_b))))
 exact e_V X_11 e_11 hq hlk hrt d3_57 ⟨b__3, kb__3, rfl, N_11, Kp_12, gq_3_b, szq_3_b, Fa_13, Fa_14, Fa_15⟩
abbrev D2 := decode jdk_42_method_3_code
theorem d2_0 : D2 0 = .ok (.aload_n 0, 1) := by decide +kernel
theorem d2_1 : D2 1 = .ok (.aload_n 1, 1) := by decide +kernel
theorem d2_2 : D2 2 = .ok (.iconst 0, 1) := by decide +kernel
theorem d2_3 : D2 3 = .ok (.aload_n 1, 1) := by decide +kernel
theorem d2_4 : D2 4 = .ok (.arraylength, 1) := by decide +kernel
theorem d2_5 : D2 5 = .ok (.aconst_null, 1) := by decide +kernel
theorem d2_6 : D2 6 = .ok (.invokespecial 27, 3) := by decide +kernel
theorem pd_4 : parseMethodDescriptor "([CIILjava/lang/Void;)V" = some ⟨[(.array .char), .int, .int, (.object "java/lang/Void")], none⟩ := by decide +kernel
def own_KI (a0 : Array Value) (Z : State) (own C : String) (index : Nat) (y z : MethodName) (bytes : ByteArray) (maxL : Nat) (ret : Option FieldType) (k : Nat) : Prop := ((Jvm.Cond.methodLink own index y).before a0 Z = true ∧ (∃ ps r, parseMethodDescriptor y.desc = some ⟨ps, r⟩ ∧ k = ps.length) ∧ (y.cls ≠ "java/lang/invoke/MethodHandle" ∧ y.cls ≠ "java/lang/invoke/VarHandle")) ∧ y.name = "<init>" ∧ (Jvm.Cond.instanceMethod y).before a0 Z = true ∧ (Jvm.Cond.initialized y.cls).before a0 Z = true ∧ (Jvm.Cond.code y bytes maxL none).before a0 Z = true
section Sm
variable {p : Program} {l : Launch} {e : Env} {R : Room} {s : State} {m : MethodId} {args : Array Value} {below : List Frame} {meth : Method} {c : Code} {T : State} {locs : List Loc} {cells slots : Nat} {P : Outcome → State → Prop} {pc : Nat} {Ls : Array Slot} {st : List Value}
theorem c_I4v (X : Stand p l e R s m args below meth c T locs cells slots) {cb : ByteArray} (hq : p.tables.exec = Jvm.exec ∧ c.code = cb) {Z : State} {a0 : Array Value} {h : Heap} {own C : String} {index : Nat} {y z : MethodName} {bytes : ByteArray} {maxL ML : Nat} {ret : Option FieldType} {rm : Room} {Q : Option Value → Heap → List Loc → Prop} {a : Addr} {v1 v2 v3 v4 : Value}
  (eT : T.heap = h) (hZ : Z.Warmed39 s.vm) (hown : s.vm.findClass own = some m.cls) (hml : c.maxLocals = ML) (hK : own_KI a0 Z own C index y z bytes maxL ret 4) (hM : own_Met l y bytes maxL none rm #[(.ref a), v1, v2, v3, v4] Z h Q)
  (hd : decode cb pc = .ok (.invokespecial index, 3)) 
  (k : ∀ (T' : State) (L : List Loc), Stand p l e R s m args below meth c T' (locs ++ L) (cells + rm.cells) (slots + rm.slots) → Q none T'.heap L → own_Go p.tables e below P (T'.setTop (mkF m (pc + 3) Ls st))) (W : Nat) (hsz : Ls.size = ML := by rfl) (hW : (st.map fun v => v.category).sum = W := by rfl) (sd : rm.frames + 1 ≤ R.frames ∧ W + (maxL + 11) + rm.locals ≤ R.locals ∧ cells + rm.cells ≤ R.cells ∧ slots + rm.slots ≤ R.slots := by decide) (hv : ∀ v h L, Q v h L → v = none := by intro v h L q; first | exact id q.1 | (obtain ⟨_, q⟩ := q; exact id q.1) | (obtain ⟨_, _, q⟩ := q; exact id q.1) | (obtain ⟨_, _, _, q⟩ := q; exact id q.1)) : own_Go p.tables e below P (T.setTop (mkF m pc Ls (v4 :: v3 :: v2 :: v1 :: (.ref a) :: st))) := by
 obtain ⟨⟨w1, ⟨ps, r, hp, hlen⟩, hy⟩, hn, w2, w3, w4⟩ := hK
 obtain ⟨v, vm1, ⟨T', L0, k0, n0⟩, -, X', ⟨L, hQ, e1, e2, e3⟩, hst⟩ := X.specialBack hq.1 (y := y) hn hown (mvT hZ w1) (mvT hZ w2) (mvT hZ w4) hy (backOf (W := W) (Q := Q) hM hZ w4 w3 sd.1 sd.2.1) (g := mkF m pc Ls (v4 :: v3 :: v2 :: v1 :: (.ref a) :: st)) rfl (by rw [hml]; exact hsz) (Steps.refl _) (a := a) (argsL := [v1, v2, v3, v4]) (rest := st) (lenOf hp hlen) rfl (by show 2 * 0 + _ ≤ _; rw [Nat.mul_zero, Nat.zero_add]; exact Nat.le_of_eq hW) (hb hq.2 hd) (fun _ _ => ⟨rfl, eT, sd.2.2.1, sd.2.2.2⟩)
 dsimp only [Pt.U, Pt.locs, Pt.cells, Pt.slots] at X' e1 e2 e3 hst hQ
 subst e1 e2 e3
 obtain rfl := hv _ _ _ hQ
 exact own_tr hst (k _ _ X' hQ)
end Sm
theorem k2_27 {a0 : Array Value} {Z : State} (hw : HW a0 Z) : own_KI a0 Z "java/lang/String" "" 27 y4_ y4_ jdk_42_method_149_code 6 none 4 := ⟨⟨(w_ hw 12 rfl), ⟨_, _, pd_4, rfl⟩, by decide⟩, rfl, (w_ hw 13 rfl), (w_ hw 8 rfl), (w_ hw 15 rfl)⟩
theorem d2_9 : D2 9 = .ok (.return_, 1) := by decide +kernel
def Q_rmiA1 (Z : State) (a0 : Array Value) (a1 a2 : Addr) (k1 : ClassId) (d1 : Value) (w c0 : Int32) (h0 : Heap) (n0 : Nat) (v : Option Value) (h : Heap) (L : List Loc) : Prop := ∃ b : Addr, ∃ kb : ClassId, v = none ∧ Fr n0 L ∧ Keep h0 h [a1] ∧ n0 ≤ b ∧ h0.size ≤ b ∧ Fld Z h a1 "java/lang/String" "value" "[B" (.ref b) ∧ Fld Z h a1 "java/lang/String" "coder" "B" (.int (0 : Int32)) ∧ Arv Z h b kb .byte (1 : Int32) [(.int ((c0.toInt8.toInt32).toInt8.toInt32))] (.int (0 : Int32))
theorem rmiA1 (hw : HW a0 Z) (a1 a2 : Addr) (k1 : ClassId) (d1 : Value) (w c0 : Int32) (h0 : Heap) (n0 : Nat) (Z0 : n0 ≤ h0.size) (E1 : Exa Z h0 a1 "java/lang/String") (g1 : n0 ≤ a1) (F1 : Fld Z h0 a1 "java/lang/String" "value" "[B" .null) (F2 : Fld Z h0 a1 "java/lang/String" "coder" "B" (.int (0 : Int32))) (V1 : Arv Z h0 a2 k1 .char (1 : Int32) [(.int c0)] d1) (hc0 : ¬ (255 : Int32) < c0) (S1 : Sta Z h0 "java/lang/String" "COMPACT_STRINGS" "Z" (.int w)) (hw0 : ¬ w = (0 : Int32)) :
  own_Met l y5_ jdk_42_method_3_code 2 none (R_ 3 1 1 52) #[(.ref a1), (.ref a2)] Z h0 (Q_rmiA1 Z a0 a1 a2 k1 d1 w c0 h0 n0) := by
 refine own_bd (own := "java/lang/String") rfl (plainFor_of_name pn_3) #[rv a1, rv a2] ?_
 intro p e s m below meth c s₁ hx hby hq hml hown hnm hlk hrt hZ X0 e0
 refine o_aloadN X0 hq d2_0 rfl rfl (o_aloadN X0 hq d2_1 rfl rfl (o_iconst X0 hq 0 d2_2 rfl (o_aloadN X0 hq d2_3 rfl rfl ?_)))
 obtain ⟨cl_1, Ar_1, qk_1, Sz_1, Ng_1, Hs_1, Gs_1⟩ := id V1
 refine own_st (X0.arraylength hx (by rw [e0]; exact Ar_1.1) (State.isArrayOf_alike hZ.alike Ar_1.2.1) (g := (mkF m 4 #[rv a1, rv a2] [(.ref a2), (.int 0), (.ref a2), (.ref a1)])) rfl rfl (hb hby d2_4)) ?_
 rw [len_of Sz_1 Ng_1]
 show own_Go _ _ _ _ (s₁.setTop (mkF m 5 #[rv a1, rv a2] [(.int 1), (.int 0), (.ref a2), (.ref a1)]))
 refine o_aconstNull X0 hq d2_5 ?_
 refine c_I4v X0 hq e0 hZ hown hml (k2_27 hw) (rmiB1 hw a1 a2 k1 d1 w c0 h0 n0 Z0 E1 g1 F1 F2 V1 hc0 S1 hw0) d2_6 ?_ 0
 rintro T_2 L_2 X_2 ⟨b__2, kb__2, -, Nq_2, K_2, gq_2_b, sq_2_b, Fq_2_0, Fq_2_1, Fq_2_2⟩
 have N_2 := Fr.app (Fr.nil n0) Nq_2
 have szq_2_b : h0.size ≤ b__2 := Nat.le_trans (Keep.refl h0 [a1]).1 sq_2_b
 have Kp_3 : Keep h0 T_2.heap [a1] := ((Keep.refl h0 [a1]).trans K_2 (allS (Or.inl (List.mem_of_getElem? (i := 0) rfl)) all0))
 exact e_V X_2 rfl hq hlk hrt d2_9 ⟨b__2, kb__2, rfl, N_2, Kp_3, gq_2_b, szq_2_b, Fq_2_0, Fq_2_1, Fq_2_2⟩
def Q_rmcA2 (Z : State) (a0 : Array Value) (a1 a2 : Addr) (k1 : ClassId) (d1 : Value) (c0 c1 : Int32) (k2 : ClassId) (h0 : Heap) (n0 : Nat) (v : Option Value) (h : Heap) (L : List Loc) : Prop := v = some (.int (2 : Int32)) ∧ Fr n0 L ∧ Keep h0 h [a2] ∧ Arv Z h a2 k2 .byte (2 : Int32) [(.int ((c0.toInt8.toInt32).toInt8.toInt32)), (.int ((c1.toInt8.toInt32).toInt8.toInt32))] (.int (0 : Int32))
theorem rmcA2 (hw : HW a0 Z) (a1 a2 : Addr) (k1 : ClassId) (d1 : Value) (c0 c1 : Int32) (k2 : ClassId) (h0 : Heap) (n0 : Nat) (Z0 : n0 ≤ h0.size) (V1 : Arv Z h0 a1 k1 .char (2 : Int32) [(.int c0), (.int c1)] d1) (V2 : Arv Z h0 a2 k2 .byte (2 : Int32) [(.int (0 : Int32)), (.int (0 : Int32))] (.int (0 : Int32))) (g2 : n0 ≤ a2) (n12 : a1 ≠ a2) (hc0 : ¬ (255 : Int32) < c0) (hc1 : ¬ (255 : Int32) < c1) :
  own_Met l y8_ jdk_52_method_21_code 7 (some .int) (R_ 0 0 0 0) #[(.ref a1), (.int (0 : Int32)), (.ref a2), (.int (0 : Int32)), (.int (2 : Int32))] Z h0 (Q_rmcA2 Z a0 a1 a2 k1 d1 c0 c1 k2 h0 n0) := by
 refine own_bd (own := "java/lang/StringUTF16") rfl (plainFor_of_name pn_6) #[rv a1, iv 0, rv a2, iv 0, iv 2, .unset, .unset] ?_
 intro p e s m below meth c s₁ hx hby hq hml hown hnm hlk hrt hZ X0 e0
 refine o_iconst X0 hq 0 d6_0 rfl (o_istore X0 hq d6_1 (l' := #[rv a1, iv 0, rv a2, iv 0, iv 2, iv 0, .unset]) rfl (o_iload X0 hq d6_3 rfl (o_iload X0 hq d6_5 rfl (o_icmpNo X0 hq d6_7 (by decide) (o_aloadN X0 hq d6_10 rfl rfl (o_iloadN X0 hq d6_11 rfl ?_))))))
 obtain ⟨cl_1, Ar_1, qk_1, Sz_1, Ng_1, Hs_1, Gs_1⟩ := id V1
 refine own_st (X0.caload hx (j := (0 : Int32)) (v := (.int c0)) (by rw [e0]; exact Ar_1.1) (State.isArrayOf_alike hZ.alike Ar_1.2.1) Ar_1.2.2 (inb_of Sz_1 ⟨by decide, by decide⟩) (Hs_1.at (j := (0 : Int32)) (inb_of Sz_1 ⟨by decide, by decide⟩) rfl) (g := (mkF m 12 #[rv a1, iv 0, rv a2, iv 0, iv 2, iv 0, .unset] [(.int 0), (.ref a1)])) rfl rfl (hb hby d6_12)) ?_
 show own_Go _ _ _ _ (s₁.setTop (mkF m 13 #[rv a1, iv 0, rv a2, iv 0, iv 2, iv 0, .unset] [(.int c0)]))
 refine o_istore X0 hq d6_13 (l' := #[rv a1, iv 0, rv a2, iv 0, iv 2, iv 0, iv c0]) rfl (o_iload X0 hq d6_15 rfl (o_sipush X0 hq 255 d6_17 rfl (o_icmpYes X0 hq (pc' := 26) d6_20 (flt hc0).2.2.2 (o_aloadN X0 hq d6_26 rfl rfl (o_iloadN X0 hq d6_27 rfl (o_iload X0 hq d6_28 rfl (o_i2b X0 hq d6_30 ?_)))))))
 obtain ⟨cl_2, Ar_2, qk_2, Sz_2, Ng_2, Hs_2, Gs_2⟩ := id V2
 obtain ⟨T_3, h_3, X_3, e_3, W_3, st_3⟩ := stB X0 hx hZ e0 Ar_2 (j := (0 : Int32)) (inb_of Sz_2 ⟨by decide, by decide⟩) (g := (mkF m 31 #[rv a1, iv 0, rv a2, iv 0, iv 2, iv 0, iv c0] [(.int (c0.toInt8.toInt32)), (.int 0), (.ref a2)])) rfl rfl (hb hby d6_31)
 refine own_st st_3 ?_
 have V_3 : Arv Z h_3 a2 k2 .byte (2 : Int32) [(.int ((c0.toInt8.toInt32).toInt8.toInt32)), (.int (0 : Int32))] (.int (0 : Int32)) := Arv.set Ar_2 qk_2 Sz_2 Ng_2 Hs_2 Gs_2 (fits_nar_byte _) W_3 0 rfl (Nat.le_of_ble_eq_true rfl)
 have N_3 := Fr.snoc X_3 (Fr.nil n0) g2
 show own_Go _ _ _ _ (T_3.setTop (mkF m 32 #[rv a1, iv 0, rv a2, iv 0, iv 2, iv 0, iv c0] []))
 refine o_iinc X_3 hq d6_32 rfl (l' := #[rv a1, iv 1, rv a2, iv 0, iv 2, iv 0, iv c0]) rfl (o_iinc X_3 hq d6_35 rfl (l' := #[rv a1, iv 1, rv a2, iv 1, iv 2, iv 0, iv c0]) rfl (o_iinc X_3 hq d6_38 rfl (l' := #[rv a1, iv 1, rv a2, iv 1, iv 2, iv 1, iv c0]) rfl (o_goto X_3 hq (pc' := 3) d6_41 (o_iload X_3 hq d6_3 rfl (o_iload X_3 hq d6_5 rfl (o_icmpNo X_3 hq d6_7 (by decide) (o_aloadN X_3 hq d6_10 rfl rfl (o_iloadN X_3 hq d6_11 rfl ?_))))))))
 have Fa_4 := (V1.other W_3 n12)
 obtain ⟨cl_5, Ar_5, qk_5, Sz_5, Ng_5, Hs_5, Gs_5⟩ := id Fa_4
 refine own_st (X_3.caload hx (j := (1 : Int32)) (v := (.int c1)) (by rw [e_3]; exact Ar_5.1) (State.isArrayOf_alike hZ.alike Ar_5.2.1) Ar_5.2.2 (inb_of Sz_5 ⟨by decide, by decide⟩) (Hs_5.at (j := (1 : Int32)) (inb_of Sz_5 ⟨by decide, by decide⟩) rfl) (g := (mkF m 12 #[rv a1, iv 1, rv a2, iv 1, iv 2, iv 1, iv c0] [(.int 1), (.ref a1)])) rfl rfl (hb hby d6_12)) ?_
 show own_Go _ _ _ _ (T_3.setTop (mkF m 13 #[rv a1, iv 1, rv a2, iv 1, iv 2, iv 1, iv c0] [(.int c1)]))
 refine o_istore X_3 hq d6_13 (l' := #[rv a1, iv 1, rv a2, iv 1, iv 2, iv 1, iv c1]) rfl (o_iload X_3 hq d6_15 rfl (o_sipush X_3 hq 255 d6_17 rfl (o_icmpYes X_3 hq (pc' := 26) d6_20 (flt hc1).2.2.2 (o_aloadN X_3 hq d6_26 rfl rfl (o_iloadN X_3 hq d6_27 rfl (o_iload X_3 hq d6_28 rfl (o_i2b X_3 hq d6_30 ?_)))))))
 obtain ⟨cl_6, Ar_6, qk_6, Sz_6, Ng_6, Hs_6, Gs_6⟩ := id V_3
 obtain ⟨T_7, h_7, X_7, e_7, W_7, st_7⟩ := stB X_3 hx hZ e_3 Ar_6 (j := (1 : Int32)) (inb_of Sz_6 ⟨by decide, by decide⟩) (g := (mkF m 31 #[rv a1, iv 1, rv a2, iv 1, iv 2, iv 1, iv c1] [(.int (c1.toInt8.toInt32)), (.int 1), (.ref a2)])) rfl rfl (hb hby d6_31)
 refine own_st st_7 ?_
 have V_7 : Arv Z h_7 a2 k2 .byte (2 : Int32) [(.int ((c0.toInt8.toInt32).toInt8.toInt32)), (.int ((c1.toInt8.toInt32).toInt8.toInt32))] (.int (0 : Int32)) := Arv.set Ar_6 qk_6 Sz_6 Ng_6 Hs_6 Gs_6 (fits_nar_byte _) W_7 1 rfl (Nat.le_of_ble_eq_true rfl)
 have N_7 := Fr.snoc X_7 N_3 g2
 show own_Go _ _ _ _ (T_7.setTop (mkF m 32 #[rv a1, iv 1, rv a2, iv 1, iv 2, iv 1, iv c1] []))
 refine o_iinc X_7 hq d6_32 rfl (l' := #[rv a1, iv 2, rv a2, iv 1, iv 2, iv 1, iv c1]) rfl (o_iinc X_7 hq d6_35 rfl (l' := #[rv a1, iv 2, rv a2, iv 2, iv 2, iv 1, iv c1]) rfl (o_iinc X_7 hq d6_38 rfl (l' := #[rv a1, iv 2, rv a2, iv 2, iv 2, iv 2, iv c1]) rfl (o_goto X_7 hq (pc' := 3) d6_41 (o_iload X_7 hq d6_3 rfl (o_iload X_7 hq d6_5 rfl (o_icmpYes X_7 hq (pc' := 44) d6_7 (by decide) (o_iload X_7 hq d6_44 rfl ?_)))))))
 have Kp_8 : Keep h0 h_7 [a2] := (((Keep.refl h0 [a2]).wr W_3 (Or.inl (List.mem_of_getElem? (i := 0) rfl))).wr W_7 (Or.inl (List.mem_of_getElem? (i := 0) rfl)))
 exact e_I X_7 e_7 hq hlk hrt d6_46 ⟨rfl, N_7, Kp_8, V_7⟩
def Q_rmcB2 (Z : State) (a0 : Array Value) (a1 : Addr) (k1 : ClassId) (d1 : Value) (c0 c1 : Int32) (h0 : Heap) (n0 : Nat) (v : Option Value) (h : Heap) (L : List Loc) : Prop := ∃ b : Addr, ∃ kb : ClassId, v = some (.ref b) ∧ Fr n0 L ∧ Keep h0 h [] ∧ n0 ≤ b ∧ h0.size ≤ b ∧ Arv Z h b kb .byte (2 : Int32) [(.int ((c0.toInt8.toInt32).toInt8.toInt32)), (.int ((c1.toInt8.toInt32).toInt8.toInt32))] (.int (0 : Int32))
theorem rmcB2 (hw : HW a0 Z) (a1 : Addr) (k1 : ClassId) (d1 : Value) (c0 c1 : Int32) (h0 : Heap) (n0 : Nat) (Z0 : n0 ≤ h0.size) (V1 : Arv Z h0 a1 k1 .char (2 : Int32) [(.int c0), (.int c1)] d1) (hc0 : ¬ (255 : Int32) < c0) (hc1 : ¬ (255 : Int32) < c1) :
  own_Met l y9_ jdk_52_method_16_code 6 (some (.array .byte)) (R_ 1 1 2 18) #[(.ref a1), (.int (0 : Int32)), (.int (2 : Int32))] Z h0 (Q_rmcB2 Z a0 a1 k1 d1 c0 c1 h0 n0) := by
 refine own_bd (own := "java/lang/StringUTF16") rfl (plainFor_of_name pn_6) #[rv a1, iv 0, iv 2, .unset, .unset, .unset] ?_
 intro p e s m below meth c s₁ hx hby hq hml hown hnm hlk hrt hZ X0 e0
 refine o_iloadN X0 hq d5_0 rfl ?_
 obtain ⟨T_1, h_1, k_1, X_1, e_1, E_1, A_1, st_1⟩ := newP X0 hx hZ (w_ hw 24 rfl) e0 (g := (mkF m 1 #[rv a1, iv 0, iv 2, .unset, .unset, .unset] [(.int 2)])) rfl (hb hby d5_1) rfl (by decide) (cap := 2) (by decide) (by decide) (by decide) (by decide)
 obtain ⟨b_1, g_1⟩ : ∃ z, z = h0.size := ⟨_, rfl⟩
 rw [← g_1] at A_1 st_1
 have V_1 : Arv Z h_1 b_1 k_1 .byte (2 : Int32) [(.int (0 : Int32)), (.int (0 : Int32))] (.int (0 : Int32)) := (Arv.new A_1 (by decide)).pad (pad_rep [] (.int (0 : Int32)) 2)
 have gg_1 : n0 ≤ b_1 := Nat.le_trans Z0 (Nat.le_of_eq g_1.symm)
 have sz_1 : h0.size ≤ b_1 := Nat.le_trans (Keep.refl h0 []).1 (Nat.le_of_eq g_1.symm)
 refine own_st st_1 ?_
 show own_Go _ _ _ _ (T_1.setTop (mkF m 3 #[rv a1, iv 0, iv 2, .unset, .unset, .unset] [(.ref b_1)]))
 refine o_astoreN X_1 hq d5_3 rfl (l' := #[rv a1, iv 0, iv 2, rv b_1, .unset, .unset]) rfl (o_aloadN X_1 hq d5_4 rfl rfl (o_iloadN X_1 hq d5_5 rfl (o_aloadN X_1 hq d5_6 rfl rfl (o_iconst X_1 hq 0 d5_7 rfl (o_iloadN X_1 hq d5_8 rfl ?_)))))
 have Fa_3 := (V1.ext E_1)
 have Zs_4 : n0 ≤ h_1.size := (Nat.le_trans Z0 E_1.1)
 refine c_S5 X_1 hq e_1 hZ hown hml (k5_115 hw) (rmcA2 hw a1 b_1 k1 d1 c0 c1 k_1 h_1 n0 Zs_4 Fa_3 V_1 gg_1 (Nat.ne_of_lt (Nat.lt_of_lt_of_le V1.lt (Nat.le_of_eq g_1.symm))) hc0 hc1) d5_9 ?_ 0
 rintro T_2 L_2 _ X_2 ⟨⟨⟩, Nq_2, K_2, Fq_2_0⟩
 have N_2 := Fr.app (Fr.nil n0) Nq_2
 refine o_istore X_2 hq d5_12 (l' := #[rv a1, iv 0, iv 2, rv b_1, iv 2, .unset]) rfl (o_iload X_2 hq d5_14 rfl (o_iloadN X_2 hq d5_16 rfl (o_icmpYes X_2 hq (pc' := 57) d5_17 (by decide) (o_aloadN X_2 hq d5_57 rfl rfl ?_))))
 have Kp_5 : Keep h0 T_2.heap [] := (((Keep.refl h0 []).ext E_1).trans K_2 (allS (Or.inr sz_1) all0))
 exact e_R X_2 rfl hq hlk rfl rfl hrt d5_58 ⟨b_1, k_1, rfl, N_2, Kp_5, gg_1, sz_1, Fq_2_0⟩
def Q_rmcl2 (Z : State) (a0 : Array Value) (a1 : Addr) (k1 : ClassId) (vs : List Value) (d1 : Value) (h0 : Heap) (n0 : Nat) (v : Option Value) (h : Heap) (L : List Loc) : Prop := v = some (.int (0 : Int32)) ∧ Fr n0 L ∧ h = h0
theorem rmcl2 (hw : HW a0 Z) (a1 : Addr) (k1 : ClassId) (vs : List Value) (d1 : Value) (h0 : Heap) (n0 : Nat) (Z0 : n0 ≤ h0.size) (V1 : Arv Z h0 a1 k1 .byte (2 : Int32) vs d1) :
  own_Met l y10_ jdk_52_method_15_code 2 (some .byte) (R_ 0 0 0 0) #[(.ref a1), (.int (2 : Int32))] Z h0 (Q_rmcl2 Z a0 a1 k1 vs d1 h0 n0) := by
 refine own_bd (own := "java/lang/StringUTF16") rfl (plainFor_of_name pn_6) #[rv a1, iv 2] ?_
 intro p e s m below meth c s₁ hx hby hq hml hown hnm hlk hrt hZ X0 e0
 refine o_iloadN X0 hq d7_0 rfl (o_aloadN X0 hq d7_1 rfl rfl ?_)
 obtain ⟨cl_1, Ar_1, qk_1, Sz_1, Ng_1, Hs_1, Gs_1⟩ := id V1
 refine own_st (X0.arraylength hx (by rw [e0]; exact Ar_1.1) (State.isArrayOf_alike hZ.alike Ar_1.2.1) (g := (mkF m 2 #[rv a1, iv 2] [(.ref a1), (.int 2)])) rfl rfl (hb hby d7_2)) ?_
 rw [len_of Sz_1 Ng_1]
 show own_Go _ _ _ _ (s₁.setTop (mkF m 3 #[rv a1, iv 2] [(.int 2), (.int 2)]))
 refine o_isub X0 hq d7_3 ?_
 show own_Go _ _ _ _ (s₁.setTop (mkF m 4 #[rv a1, iv 2] [(.int 0)]))
 refine o_bipush X0 hq 31 d7_4 rfl (o_iushr X0 hq d7_6 ?_)
 show own_Go _ _ _ _ (s₁.setTop (mkF m 7 #[rv a1, iv 2] [(.int 0)]))
 refine o_i2b X0 hq d7_7 ?_
 show own_Go _ _ _ _ (s₁.setTop (mkF m 8 #[rv a1, iv 2] [(.int 0)]))
 exact e_B X0 e0 hq hlk hrt d7_8 ⟨rfl, (Fr.nil n0), rfl⟩
def Q_rmiB2 (Z : State) (a0 : Array Value) (a1 a2 : Addr) (k1 : ClassId) (d1 : Value) (w c0 c1 : Int32) (h0 : Heap) (n0 : Nat) (v : Option Value) (h : Heap) (L : List Loc) : Prop := ∃ b : Addr, ∃ kb : ClassId, v = none ∧ Fr n0 L ∧ Keep h0 h [a1] ∧ n0 ≤ b ∧ h0.size ≤ b ∧ Fld Z h a1 "java/lang/String" "value" "[B" (.ref b) ∧ Fld Z h a1 "java/lang/String" "coder" "B" (.int (0 : Int32)) ∧ Arv Z h b kb .byte (2 : Int32) [(.int ((c0.toInt8.toInt32).toInt8.toInt32)), (.int ((c1.toInt8.toInt32).toInt8.toInt32))] (.int (0 : Int32))
theorem rmiB2 (hw : HW a0 Z) (a1 a2 : Addr) (k1 : ClassId) (d1 : Value) (w c0 c1 : Int32) (h0 : Heap) (n0 : Nat) (Z0 : n0 ≤ h0.size) (E1 : Exa Z h0 a1 "java/lang/String") (g1 : n0 ≤ a1) (F1 : Fld Z h0 a1 "java/lang/String" "value" "[B" .null) (F2 : Fld Z h0 a1 "java/lang/String" "coder" "B" (.int (0 : Int32))) (V1 : Arv Z h0 a2 k1 .char (2 : Int32) [(.int c0), (.int c1)] d1) (hc0 : ¬ (255 : Int32) < c0) (hc1 : ¬ (255 : Int32) < c1) (S1 : Sta Z h0 "java/lang/String" "COMPACT_STRINGS" "Z" (.int w)) (hw0 : ¬ w = (0 : Int32)) :
  own_Met l y4_ jdk_42_method_149_code 6 none (R_ 2 1 2 35) #[(.ref a1), (.ref a2), (.int (0 : Int32)), (.int (2 : Int32)), .null] Z h0 (Q_rmiB2 Z a0 a1 a2 k1 d1 w c0 c1 h0 n0) := by
 refine own_bd (own := "java/lang/String") rfl (plainFor_of_name pn_3) #[rv a1, rv a2, iv 0, iv 2, .val .null, .unset] ?_
 intro p e s m below meth c s₁ hx hby hq hml hown hnm hlk hrt hZ X0 e0
 refine o_aloadN X0 hq d3_0 rfl rfl ?_
 obtain ⟨T_1, X_1, e_1, st_1⟩ := initO X0 hx hZ hown (w_ hw 16 rfl) (w_ hw 17 rfl) (w_ hw 18 rfl) e0 (g := (mkF m 1 #[rv a1, rv a2, iv 0, iv 2, .val .null, .unset] [(.ref a1)])) rfl (by rw [hml]; rfl) rfl (hb hby d3_1) (by decide) (W := 0) (z_ rfl) (by decide)
 refine own_st st_1 ?_
 show own_Go _ _ _ _ (T_1.setTop (mkF m 4 #[rv a1, rv a2, iv 0, iv 2, .val .null, .unset] []))
 refine o_iloadN X_1 hq d3_4 rfl (o_ifYes X_1 hq (pc' := 27) d3_5 (by decide) ?_)
 obtain ⟨T_2, X_2, e_2, st_2⟩ := getS2 X_1 hx hZ hown (host := "") (Or.inl (w_ hw 19 rfl)) Via.refl e_1 S1 (g := (mkF m 27 #[rv a1, rv a2, iv 0, iv 2, .val .null, .unset] [])) rfl (hb hby d3_27)
 refine own_st st_2 ?_
 show own_Go _ _ _ _ (T_2.setTop (mkF m 30 #[rv a1, rv a2, iv 0, iv 2, .val .null, .unset] [(.int w)]))
 refine o_ifNo X_2 hq d3_30 (feq hw0).1 (o_aloadN X_2 hq d3_33 rfl rfl (o_iloadN X_2 hq d3_34 rfl (o_iloadN X_2 hq d3_35 rfl ?_)))
 refine c_S3 X_2 hq e_2 hZ hown hml (k3_177 hw) (rmcB2 hw a2 k1 d1 c0 c1 h0 n0 Z0 V1 hc0 hc1) d3_36 ?_ 0
 rintro T_3 L_3 _ X_3 ⟨b__3, kb__3, ⟨⟩, Nq_3, K_3, gq_3_b, sq_3_b, Fq_3_0⟩
 have N_3 := Fr.app (Fr.nil n0) Nq_3
 have szq_3_b : h0.size ≤ b__3 := Nat.le_trans (Keep.refl h0 [a1]).1 sq_3_b
 refine o_astore X_3 hq d3_39 rfl (l' := #[rv a1, rv a2, iv 0, iv 2, .val .null, rv b__3]) rfl (o_aloadN X_3 hq d3_41 rfl rfl (o_aload X_3 hq d3_42 rfl rfl (o_iloadN X_3 hq d3_44 rfl ?_)))
 have Zs_5 : n0 ≤ T_3.heap.size := (Nat.le_trans Z0 K_3.1)
 refine c_S2 X_3 hq rfl hZ hown hml (k3_47 hw) (rmcl2 hw b__3 kb__3 [(.int ((c0.toInt8.toInt32).toInt8.toInt32)), (.int ((c1.toInt8.toInt32).toInt8.toInt32))] (.int (0 : Int32)) T_3.heap n0 Zs_5 Fq_3_0) d3_45 ?_ 1
 rintro T_4 L_4 _ X_4 ⟨⟨⟩, Nq_4, e_4⟩
 have N_4 := Fr.app N_3 Nq_4
 have Fa_6 := (F2.keep K_3 nin0)
 have Fa_7 := (E1.keep K_3)
 obtain ⟨T_8, h_8, X_8, e_8, W_8, st_8⟩ := putFN X_4 hx hZ hown (w_ hw 31 rfl) Via.refl e_4 Fa_6 Fa_7 (Or.inr ⟨(w_ hw 32 rfl), rfl, hnm⟩) (w_ hw 7 rfl) (ty := .byte) (v' := (.int (0 : Int32))) (by decide) rfl (by decide) (g := (mkF m 48 #[rv a1, rv a2, iv 0, iv 2, .val .null, rv b__3] [(.int 0), (.ref a1)])) rfl rfl (hb hby d3_48)
 refine own_st st_8 ?_
 have N_8 := Fr.snoc X_8 N_4 g1
 show own_Go _ _ _ _ (T_8.setTop (mkF m 51 #[rv a1, rv a2, iv 0, iv 2, .val .null, rv b__3] []))
 refine o_aloadN X_8 hq d3_51 rfl rfl (o_aload X_8 hq d3_52 rfl rfl ?_)
 have Fa_9 := ((F1.keep K_3 nin0).other W_8 (Or.inr (slot_ne (Or.inr (w_ hw 34 rfl)) (Or.inr (w_ hw 32 rfl)) (by decide) (t := (.array .byte)) (t' := .byte) (by decide) (by decide))))
 have Fa_10 := (Fa_7.wr W_8)
 obtain ⟨T_11, h_11, X_11, e_11, W_11, st_11⟩ := putF X_8 hx hZ hown (host := "") (Or.inl (w_ hw 33 rfl)) Via.refl e_8 Fa_9 Fa_10 (Or.inr ⟨(w_ hw 34 rfl), rfl, hnm⟩) (w_ hw 7 rfl) (ty := (.array .byte)) (by decide) rfl rfl (g := (mkF m 54 #[rv a1, rv a2, iv 0, iv 2, .val .null, rv b__3] [(.ref b__3), (.ref a1)])) rfl rfl (hb hby d3_54)
 refine own_st st_11 ?_
 have N_11 := Fr.snoc X_11 N_8 g1
 show own_Go _ _ _ _ (T_11.setTop (mkF m 57 #[rv a1, rv a2, iv 0, iv 2, .val .null, rv b__3] []))
 have Kp_12 : Keep h0 h_11 [a1] := ((((Keep.refl h0 [a1]).trans K_3 all0).wr W_8 (Or.inl (List.mem_of_getElem? (i := 0) rfl))).wr W_11 (Or.inl (List.mem_of_getElem? (i := 0) rfl)))
 have Fa_13 := (Fa_9.same W_11)
 have Fa_14 := ((Fa_6.same W_8).other W_11 (Or.inr (slot_ne (Or.inr (w_ hw 32 rfl)) (Or.inr (w_ hw 34 rfl)) (by decide) (t := .byte) (t' := (.array .byte)) (by decide) (by decide))))
 have Fa_15 := ((Fq_3_0.other W_8 (Ne.symm (Nat.ne_of_lt (Nat.lt_of_lt_of_le F2.lt sq_3_b)))).other W_11 (Ne.symm (Nat.ne_of_lt (Nat.lt_of_lt_of_le F2.lt sq_3_b))))
 exact e_V X_11 e_11 hq hlk hrt d3_57 ⟨b__3, kb__3, rfl, N_11, Kp_12, gq_3_b, szq_3_b, Fa_13, Fa_14, Fa_15⟩
def Q_rmiA2 (Z : State) (a0 : Array Value) (a1 a2 : Addr) (k1 : ClassId) (d1 : Value) (w c0 c1 : Int32) (h0 : Heap) (n0 : Nat) (v : Option Value) (h : Heap) (L : List Loc) : Prop := ∃ b : Addr, ∃ kb : ClassId, v = none ∧ Fr n0 L ∧ Keep h0 h [a1] ∧ n0 ≤ b ∧ h0.size ≤ b ∧ Fld Z h a1 "java/lang/String" "value" "[B" (.ref b) ∧ Fld Z h a1 "java/lang/String" "coder" "B" (.int (0 : Int32)) ∧ Arv Z h b kb .byte (2 : Int32) [(.int ((c0.toInt8.toInt32).toInt8.toInt32)), (.int ((c1.toInt8.toInt32).toInt8.toInt32))] (.int (0 : Int32))
theorem rmiA2 (hw : HW a0 Z) (a1 a2 : Addr) (k1 : ClassId) (d1 : Value) (w c0 c1 : Int32) (h0 : Heap) (n0 : Nat) (Z0 : n0 ≤ h0.size) (E1 : Exa Z h0 a1 "java/lang/String") (g1 : n0 ≤ a1) (F1 : Fld Z h0 a1 "java/lang/String" "value" "[B" .null) (F2 : Fld Z h0 a1 "java/lang/String" "coder" "B" (.int (0 : Int32))) (V1 : Arv Z h0 a2 k1 .char (2 : Int32) [(.int c0), (.int c1)] d1) (hc0 : ¬ (255 : Int32) < c0) (hc1 : ¬ (255 : Int32) < c1) (S1 : Sta Z h0 "java/lang/String" "COMPACT_STRINGS" "Z" (.int w)) (hw0 : ¬ w = (0 : Int32)) :
  own_Met l y5_ jdk_42_method_3_code 2 none (R_ 3 1 2 52) #[(.ref a1), (.ref a2)] Z h0 (Q_rmiA2 Z a0 a1 a2 k1 d1 w c0 c1 h0 n0) := by
 refine own_bd (own := "java/lang/String") rfl (plainFor_of_name pn_3) #[rv a1, rv a2] ?_
 intro p e s m below meth c s₁ hx hby hq hml hown hnm hlk hrt hZ X0 e0
 refine o_aloadN X0 hq d2_0 rfl rfl (o_aloadN X0 hq d2_1 rfl rfl (o_iconst X0 hq 0 d2_2 rfl (o_aloadN X0 hq d2_3 rfl rfl ?_)))
 obtain ⟨cl_1, Ar_1, qk_1, Sz_1, Ng_1, Hs_1, Gs_1⟩ := id V1
 refine own_st (X0.arraylength hx (by rw [e0]; exact Ar_1.1) (State.isArrayOf_alike hZ.alike Ar_1.2.1) (g := (mkF m 4 #[rv a1, rv a2] [(.ref a2), (.int 0), (.ref a2), (.ref a1)])) rfl rfl (hb hby d2_4)) ?_
 rw [len_of Sz_1 Ng_1]
 show own_Go _ _ _ _ (s₁.setTop (mkF m 5 #[rv a1, rv a2] [(.int 2), (.int 0), (.ref a2), (.ref a1)]))
 refine o_aconstNull X0 hq d2_5 ?_
 refine c_I4v X0 hq e0 hZ hown hml (k2_27 hw) (rmiB2 hw a1 a2 k1 d1 w c0 c1 h0 n0 Z0 E1 g1 F1 F2 V1 hc0 hc1 S1 hw0) d2_6 ?_ 0
 rintro T_2 L_2 X_2 ⟨b__2, kb__2, -, Nq_2, K_2, gq_2_b, sq_2_b, Fq_2_0, Fq_2_1, Fq_2_2⟩
 have N_2 := Fr.app (Fr.nil n0) Nq_2
 have szq_2_b : h0.size ≤ b__2 := Nat.le_trans (Keep.refl h0 [a1]).1 sq_2_b
 have Kp_3 : Keep h0 T_2.heap [a1] := ((Keep.refl h0 [a1]).trans K_2 (allS (Or.inl (List.mem_of_getElem? (i := 0) rfl)) all0))
 exact e_V X_2 rfl hq hlk hrt d2_9 ⟨b__2, kb__2, rfl, N_2, Kp_3, gq_2_b, szq_2_b, Fq_2_0, Fq_2_1, Fq_2_2⟩
def Q_rmcA3 (Z : State) (a0 : Array Value) (a1 a2 : Addr) (k1 : ClassId) (d1 : Value) (c0 c1 c2 : Int32) (k2 : ClassId) (h0 : Heap) (n0 : Nat) (v : Option Value) (h : Heap) (L : List Loc) : Prop := v = some (.int (3 : Int32)) ∧ Fr n0 L ∧ Keep h0 h [a2] ∧ Arv Z h a2 k2 .byte (3 : Int32) [(.int ((c0.toInt8.toInt32).toInt8.toInt32)), (.int ((c1.toInt8.toInt32).toInt8.toInt32)), (.int ((c2.toInt8.toInt32).toInt8.toInt32))] (.int (0 : Int32))
theorem rmcA3 (hw : HW a0 Z) (a1 a2 : Addr) (k1 : ClassId) (d1 : Value) (c0 c1 c2 : Int32) (k2 : ClassId) (h0 : Heap) (n0 : Nat) (Z0 : n0 ≤ h0.size) (V1 : Arv Z h0 a1 k1 .char (3 : Int32) [(.int c0), (.int c1), (.int c2)] d1) (V2 : Arv Z h0 a2 k2 .byte (3 : Int32) [(.int (0 : Int32)), (.int (0 : Int32)), (.int (0 : Int32))] (.int (0 : Int32))) (g2 : n0 ≤ a2) (n12 : a1 ≠ a2) (hc0 : ¬ (255 : Int32) < c0) (hc1 : ¬ (255 : Int32) < c1) (hc2 : ¬ (255 : Int32) < c2) :
  own_Met l y8_ jdk_52_method_21_code 7 (some .int) (R_ 0 0 0 0) #[(.ref a1), (.int (0 : Int32)), (.ref a2), (.int (0 : Int32)), (.int (3 : Int32))] Z h0 (Q_rmcA3 Z a0 a1 a2 k1 d1 c0 c1 c2 k2 h0 n0) := by
 refine own_bd (own := "java/lang/StringUTF16") rfl (plainFor_of_name pn_6) #[rv a1, iv 0, rv a2, iv 0, iv 3, .unset, .unset] ?_
 intro p e s m below meth c s₁ hx hby hq hml hown hnm hlk hrt hZ X0 e0
 refine o_iconst X0 hq 0 d6_0 rfl (o_istore X0 hq d6_1 (l' := #[rv a1, iv 0, rv a2, iv 0, iv 3, iv 0, .unset]) rfl (o_iload X0 hq d6_3 rfl (o_iload X0 hq d6_5 rfl (o_icmpNo X0 hq d6_7 (by decide) (o_aloadN X0 hq d6_10 rfl rfl (o_iloadN X0 hq d6_11 rfl ?_))))))
 obtain ⟨cl_1, Ar_1, qk_1, Sz_1, Ng_1, Hs_1, Gs_1⟩ := id V1
 refine own_st (X0.caload hx (j := (0 : Int32)) (v := (.int c0)) (by rw [e0]; exact Ar_1.1) (State.isArrayOf_alike hZ.alike Ar_1.2.1) Ar_1.2.2 (inb_of Sz_1 ⟨by decide, by decide⟩) (Hs_1.at (j := (0 : Int32)) (inb_of Sz_1 ⟨by decide, by decide⟩) rfl) (g := (mkF m 12 #[rv a1, iv 0, rv a2, iv 0, iv 3, iv 0, .unset] [(.int 0), (.ref a1)])) rfl rfl (hb hby d6_12)) ?_
 show own_Go _ _ _ _ (s₁.setTop (mkF m 13 #[rv a1, iv 0, rv a2, iv 0, iv 3, iv 0, .unset] [(.int c0)]))
 refine o_istore X0 hq d6_13 (l' := #[rv a1, iv 0, rv a2, iv 0, iv 3, iv 0, iv c0]) rfl (o_iload X0 hq d6_15 rfl (o_sipush X0 hq 255 d6_17 rfl (o_icmpYes X0 hq (pc' := 26) d6_20 (flt hc0).2.2.2 (o_aloadN X0 hq d6_26 rfl rfl (o_iloadN X0 hq d6_27 rfl (o_iload X0 hq d6_28 rfl (o_i2b X0 hq d6_30 ?_)))))))
 obtain ⟨cl_2, Ar_2, qk_2, Sz_2, Ng_2, Hs_2, Gs_2⟩ := id V2
 obtain ⟨T_3, h_3, X_3, e_3, W_3, st_3⟩ := stB X0 hx hZ e0 Ar_2 (j := (0 : Int32)) (inb_of Sz_2 ⟨by decide, by decide⟩) (g := (mkF m 31 #[rv a1, iv 0, rv a2, iv 0, iv 3, iv 0, iv c0] [(.int (c0.toInt8.toInt32)), (.int 0), (.ref a2)])) rfl rfl (hb hby d6_31)
 refine own_st st_3 ?_
 have V_3 : Arv Z h_3 a2 k2 .byte (3 : Int32) [(.int ((c0.toInt8.toInt32).toInt8.toInt32)), (.int (0 : Int32)), (.int (0 : Int32))] (.int (0 : Int32)) := Arv.set Ar_2 qk_2 Sz_2 Ng_2 Hs_2 Gs_2 (fits_nar_byte _) W_3 0 rfl (Nat.le_of_ble_eq_true rfl)
 have N_3 := Fr.snoc X_3 (Fr.nil n0) g2
 show own_Go _ _ _ _ (T_3.setTop (mkF m 32 #[rv a1, iv 0, rv a2, iv 0, iv 3, iv 0, iv c0] []))
 refine o_iinc X_3 hq d6_32 rfl (l' := #[rv a1, iv 1, rv a2, iv 0, iv 3, iv 0, iv c0]) rfl (o_iinc X_3 hq d6_35 rfl (l' := #[rv a1, iv 1, rv a2, iv 1, iv 3, iv 0, iv c0]) rfl (o_iinc X_3 hq d6_38 rfl (l' := #[rv a1, iv 1, rv a2, iv 1, iv 3, iv 1, iv c0]) rfl (o_goto X_3 hq (pc' := 3) d6_41 (o_iload X_3 hq d6_3 rfl (o_iload X_3 hq d6_5 rfl (o_icmpNo X_3 hq d6_7 (by decide) (o_aloadN X_3 hq d6_10 rfl rfl (o_iloadN X_3 hq d6_11 rfl ?_))))))))
 have Fa_4 := (V1.other W_3 n12)
 obtain ⟨cl_5, Ar_5, qk_5, Sz_5, Ng_5, Hs_5, Gs_5⟩ := id Fa_4
 refine own_st (X_3.caload hx (j := (1 : Int32)) (v := (.int c1)) (by rw [e_3]; exact Ar_5.1) (State.isArrayOf_alike hZ.alike Ar_5.2.1) Ar_5.2.2 (inb_of Sz_5 ⟨by decide, by decide⟩) (Hs_5.at (j := (1 : Int32)) (inb_of Sz_5 ⟨by decide, by decide⟩) rfl) (g := (mkF m 12 #[rv a1, iv 1, rv a2, iv 1, iv 3, iv 1, iv c0] [(.int 1), (.ref a1)])) rfl rfl (hb hby d6_12)) ?_
 show own_Go _ _ _ _ (T_3.setTop (mkF m 13 #[rv a1, iv 1, rv a2, iv 1, iv 3, iv 1, iv c0] [(.int c1)]))
 refine o_istore X_3 hq d6_13 (l' := #[rv a1, iv 1, rv a2, iv 1, iv 3, iv 1, iv c1]) rfl (o_iload X_3 hq d6_15 rfl (o_sipush X_3 hq 255 d6_17 rfl (o_icmpYes X_3 hq (pc' := 26) d6_20 (flt hc1).2.2.2 (o_aloadN X_3 hq d6_26 rfl rfl (o_iloadN X_3 hq d6_27 rfl (o_iload X_3 hq d6_28 rfl (o_i2b X_3 hq d6_30 ?_)))))))
 obtain ⟨cl_6, Ar_6, qk_6, Sz_6, Ng_6, Hs_6, Gs_6⟩ := id V_3
 obtain ⟨T_7, h_7, X_7, e_7, W_7, st_7⟩ := stB X_3 hx hZ e_3 Ar_6 (j := (1 : Int32)) (inb_of Sz_6 ⟨by decide, by decide⟩) (g := (mkF m 31 #[rv a1, iv 1, rv a2, iv 1, iv 3, iv 1, iv c1] [(.int (c1.toInt8.toInt32)), (.int 1), (.ref a2)])) rfl rfl (hb hby d6_31)
 refine own_st st_7 ?_
 have V_7 : Arv Z h_7 a2 k2 .byte (3 : Int32) [(.int ((c0.toInt8.toInt32).toInt8.toInt32)), (.int ((c1.toInt8.toInt32).toInt8.toInt32)), (.int (0 : Int32))] (.int (0 : Int32)) := Arv.set Ar_6 qk_6 Sz_6 Ng_6 Hs_6 Gs_6 (fits_nar_byte _) W_7 1 rfl (Nat.le_of_ble_eq_true rfl)
 have N_7 := Fr.snoc X_7 N_3 g2
 show own_Go _ _ _ _ (T_7.setTop (mkF m 32 #[rv a1, iv 1, rv a2, iv 1, iv 3, iv 1, iv c1] []))
 refine o_iinc X_7 hq d6_32 rfl (l' := #[rv a1, iv 2, rv a2, iv 1, iv 3, iv 1, iv c1]) rfl (o_iinc X_7 hq d6_35 rfl (l' := #[rv a1, iv 2, rv a2, iv 2, iv 3, iv 1, iv c1]) rfl (o_iinc X_7 hq d6_38 rfl (l' := #[rv a1, iv 2, rv a2, iv 2, iv 3, iv 2, iv c1]) rfl (o_goto X_7 hq (pc' := 3) d6_41 (o_iload X_7 hq d6_3 rfl (o_iload X_7 hq d6_5 rfl (o_icmpNo X_7 hq d6_7 (by decide) (o_aloadN X_7 hq d6_10 rfl rfl (o_iloadN X_7 hq d6_11 rfl ?_))))))))
 have Fa_8 := (Fa_4.other W_7 n12)
 obtain ⟨cl_9, Ar_9, qk_9, Sz_9, Ng_9, Hs_9, Gs_9⟩ := id Fa_8
 refine own_st (X_7.caload hx (j := (2 : Int32)) (v := (.int c2)) (by rw [e_7]; exact Ar_9.1) (State.isArrayOf_alike hZ.alike Ar_9.2.1) Ar_9.2.2 (inb_of Sz_9 ⟨by decide, by decide⟩) (Hs_9.at (j := (2 : Int32)) (inb_of Sz_9 ⟨by decide, by decide⟩) rfl) (g := (mkF m 12 #[rv a1, iv 2, rv a2, iv 2, iv 3, iv 2, iv c1] [(.int 2), (.ref a1)])) rfl rfl (hb hby d6_12)) ?_
 show own_Go _ _ _ _ (T_7.setTop (mkF m 13 #[rv a1, iv 2, rv a2, iv 2, iv 3, iv 2, iv c1] [(.int c2)]))
 refine o_istore X_7 hq d6_13 (l' := #[rv a1, iv 2, rv a2, iv 2, iv 3, iv 2, iv c2]) rfl (o_iload X_7 hq d6_15 rfl (o_sipush X_7 hq 255 d6_17 rfl (o_icmpYes X_7 hq (pc' := 26) d6_20 (flt hc2).2.2.2 (o_aloadN X_7 hq d6_26 rfl rfl (o_iloadN X_7 hq d6_27 rfl (o_iload X_7 hq d6_28 rfl (o_i2b X_7 hq d6_30 ?_)))))))
 obtain ⟨cl_10, Ar_10, qk_10, Sz_10, Ng_10, Hs_10, Gs_10⟩ := id V_7
 obtain ⟨T_11, h_11, X_11, e_11, W_11, st_11⟩ := stB X_7 hx hZ e_7 Ar_10 (j := (2 : Int32)) (inb_of Sz_10 ⟨by decide, by decide⟩) (g := (mkF m 31 #[rv a1, iv 2, rv a2, iv 2, iv 3, iv 2, iv c2] [(.int (c2.toInt8.toInt32)), (.int 2), (.ref a2)])) rfl rfl (hb hby d6_31)
 refine own_st st_11 ?_
 have V_11 : Arv Z h_11 a2 k2 .byte (3 : Int32) [(.int ((c0.toInt8.toInt32).toInt8.toInt32)), (.int ((c1.toInt8.toInt32).toInt8.toInt32)), (.int ((c2.toInt8.toInt32).toInt8.toInt32))] (.int (0 : Int32)) := Arv.set Ar_10 qk_10 Sz_10 Ng_10 Hs_10 Gs_10 (fits_nar_byte _) W_11 2 rfl (Nat.le_of_ble_eq_true rfl)
 have N_11 := Fr.snoc X_11 N_7 g2
 show own_Go _ _ _ _ (T_11.setTop (mkF m 32 #[rv a1, iv 2, rv a2, iv 2, iv 3, iv 2, iv c2] []))
 refine o_iinc X_11 hq d6_32 rfl (l' := #[rv a1, iv 3, rv a2, iv 2, iv 3, iv 2, iv c2]) rfl (o_iinc X_11 hq d6_35 rfl (l' := #[rv a1, iv 3, rv a2, iv 3, iv 3, iv 2, iv c2]) rfl (o_iinc X_11 hq d6_38 rfl (l' := #[rv a1, iv 3, rv a2, iv 3, iv 3, iv 3, iv c2]) rfl (o_goto X_11 hq (pc' := 3) d6_41 (o_iload X_11 hq d6_3 rfl (o_iload X_11 hq d6_5 rfl (o_icmpYes X_11 hq (pc' := 44) d6_7 (by decide) (o_iload X_11 hq d6_44 rfl ?_)))))))
 have Kp_12 : Keep h0 h_11 [a2] := ((((Keep.refl h0 [a2]).wr W_3 (Or.inl (List.mem_of_getElem? (i := 0) rfl))).wr W_7 (Or.inl (List.mem_of_getElem? (i := 0) rfl))).wr W_11 (Or.inl (List.mem_of_getElem? (i := 0) rfl)))
 exact e_I X_11 e_11 hq hlk hrt d6_46 ⟨rfl, N_11, Kp_12, V_11⟩
def Q_rmcB3 (Z : State) (a0 : Array Value) (a1 : Addr) (k1 : ClassId) (d1 : Value) (c0 c1 c2 : Int32) (h0 : Heap) (n0 : Nat) (v : Option Value) (h : Heap) (L : List Loc) : Prop := ∃ b : Addr, ∃ kb : ClassId, v = some (.ref b) ∧ Fr n0 L ∧ Keep h0 h [] ∧ n0 ≤ b ∧ h0.size ≤ b ∧ Arv Z h b kb .byte (3 : Int32) [(.int ((c0.toInt8.toInt32).toInt8.toInt32)), (.int ((c1.toInt8.toInt32).toInt8.toInt32)), (.int ((c2.toInt8.toInt32).toInt8.toInt32))] (.int (0 : Int32))
theorem rmcB3 (hw : HW a0 Z) (a1 : Addr) (k1 : ClassId) (d1 : Value) (c0 c1 c2 : Int32) (h0 : Heap) (n0 : Nat) (Z0 : n0 ≤ h0.size) (V1 : Arv Z h0 a1 k1 .char (3 : Int32) [(.int c0), (.int c1), (.int c2)] d1) (hc0 : ¬ (255 : Int32) < c0) (hc1 : ¬ (255 : Int32) < c1) (hc2 : ¬ (255 : Int32) < c2) :
  own_Met l y9_ jdk_52_method_16_code 6 (some (.array .byte)) (R_ 1 1 3 18) #[(.ref a1), (.int (0 : Int32)), (.int (3 : Int32))] Z h0 (Q_rmcB3 Z a0 a1 k1 d1 c0 c1 c2 h0 n0) := by
 refine own_bd (own := "java/lang/StringUTF16") rfl (plainFor_of_name pn_6) #[rv a1, iv 0, iv 3, .unset, .unset, .unset] ?_
 intro p e s m below meth c s₁ hx hby hq hml hown hnm hlk hrt hZ X0 e0
 refine o_iloadN X0 hq d5_0 rfl ?_
 obtain ⟨T_1, h_1, k_1, X_1, e_1, E_1, A_1, st_1⟩ := newP X0 hx hZ (w_ hw 24 rfl) e0 (g := (mkF m 1 #[rv a1, iv 0, iv 3, .unset, .unset, .unset] [(.int 3)])) rfl (hb hby d5_1) rfl (by decide) (cap := 3) (by decide) (by decide) (by decide) (by decide)
 obtain ⟨b_1, g_1⟩ : ∃ z, z = h0.size := ⟨_, rfl⟩
 rw [← g_1] at A_1 st_1
 have V_1 : Arv Z h_1 b_1 k_1 .byte (3 : Int32) [(.int (0 : Int32)), (.int (0 : Int32)), (.int (0 : Int32))] (.int (0 : Int32)) := (Arv.new A_1 (by decide)).pad (pad_rep [] (.int (0 : Int32)) 3)
 have gg_1 : n0 ≤ b_1 := Nat.le_trans Z0 (Nat.le_of_eq g_1.symm)
 have sz_1 : h0.size ≤ b_1 := Nat.le_trans (Keep.refl h0 []).1 (Nat.le_of_eq g_1.symm)
 refine own_st st_1 ?_
 show own_Go _ _ _ _ (T_1.setTop (mkF m 3 #[rv a1, iv 0, iv 3, .unset, .unset, .unset] [(.ref b_1)]))
 refine o_astoreN X_1 hq d5_3 rfl (l' := #[rv a1, iv 0, iv 3, rv b_1, .unset, .unset]) rfl (o_aloadN X_1 hq d5_4 rfl rfl (o_iloadN X_1 hq d5_5 rfl (o_aloadN X_1 hq d5_6 rfl rfl (o_iconst X_1 hq 0 d5_7 rfl (o_iloadN X_1 hq d5_8 rfl ?_)))))
 have Fa_3 := (V1.ext E_1)
 have Zs_4 : n0 ≤ h_1.size := (Nat.le_trans Z0 E_1.1)
 refine c_S5 X_1 hq e_1 hZ hown hml (k5_115 hw) (rmcA3 hw a1 b_1 k1 d1 c0 c1 c2 k_1 h_1 n0 Zs_4 Fa_3 V_1 gg_1 (Nat.ne_of_lt (Nat.lt_of_lt_of_le V1.lt (Nat.le_of_eq g_1.symm))) hc0 hc1 hc2) d5_9 ?_ 0
 rintro T_2 L_2 _ X_2 ⟨⟨⟩, Nq_2, K_2, Fq_2_0⟩
 have N_2 := Fr.app (Fr.nil n0) Nq_2
 refine o_istore X_2 hq d5_12 (l' := #[rv a1, iv 0, iv 3, rv b_1, iv 3, .unset]) rfl (o_iload X_2 hq d5_14 rfl (o_iloadN X_2 hq d5_16 rfl (o_icmpYes X_2 hq (pc' := 57) d5_17 (by decide) (o_aloadN X_2 hq d5_57 rfl rfl ?_))))
 have Kp_5 : Keep h0 T_2.heap [] := (((Keep.refl h0 []).ext E_1).trans K_2 (allS (Or.inr sz_1) all0))
 exact e_R X_2 rfl hq hlk rfl rfl hrt d5_58 ⟨b_1, k_1, rfl, N_2, Kp_5, gg_1, sz_1, Fq_2_0⟩
def Q_rmcl3 (Z : State) (a0 : Array Value) (a1 : Addr) (k1 : ClassId) (vs : List Value) (d1 : Value) (h0 : Heap) (n0 : Nat) (v : Option Value) (h : Heap) (L : List Loc) : Prop := v = some (.int (0 : Int32)) ∧ Fr n0 L ∧ h = h0
theorem rmcl3 (hw : HW a0 Z) (a1 : Addr) (k1 : ClassId) (vs : List Value) (d1 : Value) (h0 : Heap) (n0 : Nat) (Z0 : n0 ≤ h0.size) (V1 : Arv Z h0 a1 k1 .byte (3 : Int32) vs d1) :
  own_Met l y10_ jdk_52_method_15_code 2 (some .byte) (R_ 0 0 0 0) #[(.ref a1), (.int (3 : Int32))] Z h0 (Q_rmcl3 Z a0 a1 k1 vs d1 h0 n0) := by
 refine own_bd (own := "java/lang/StringUTF16") rfl (plainFor_of_name pn_6) #[rv a1, iv 3] ?_
 intro p e s m below meth c s₁ hx hby hq hml hown hnm hlk hrt hZ X0 e0
 refine o_iloadN X0 hq d7_0 rfl (o_aloadN X0 hq d7_1 rfl rfl ?_)
 obtain ⟨cl_1, Ar_1, qk_1, Sz_1, Ng_1, Hs_1, Gs_1⟩ := id V1
 refine own_st (X0.arraylength hx (by rw [e0]; exact Ar_1.1) (State.isArrayOf_alike hZ.alike Ar_1.2.1) (g := (mkF m 2 #[rv a1, iv 3] [(.ref a1), (.int 3)])) rfl rfl (hb hby d7_2)) ?_
 rw [len_of Sz_1 Ng_1]
 show own_Go _ _ _ _ (s₁.setTop (mkF m 3 #[rv a1, iv 3] [(.int 3), (.int 3)]))
 refine o_isub X0 hq d7_3 ?_
 show own_Go _ _ _ _ (s₁.setTop (mkF m 4 #[rv a1, iv 3] [(.int 0)]))
 refine o_bipush X0 hq 31 d7_4 rfl (o_iushr X0 hq d7_6 ?_)
 show own_Go _ _ _ _ (s₁.setTop (mkF m 7 #[rv a1, iv 3] [(.int 0)]))
 refine o_i2b X0 hq d7_7 ?_
 show own_Go _ _ _ _ (s₁.setTop (mkF m 8 #[rv a1, iv 3] [(.int 0)]))
 exact e_B X0 e0 hq hlk hrt d7_8 ⟨rfl, (Fr.nil n0), rfl⟩
def Q_rmiB3 (Z : State) (a0 : Array Value) (a1 a2 : Addr) (k1 : ClassId) (d1 : Value) (w c0 c1 c2 : Int32) (h0 : Heap) (n0 : Nat) (v : Option Value) (h : Heap) (L : List Loc) : Prop := ∃ b : Addr, ∃ kb : ClassId, v = none ∧ Fr n0 L ∧ Keep h0 h [a1] ∧ n0 ≤ b ∧ h0.size ≤ b ∧ Fld Z h a1 "java/lang/String" "value" "[B" (.ref b) ∧ Fld Z h a1 "java/lang/String" "coder" "B" (.int (0 : Int32)) ∧ Arv Z h b kb .byte (3 : Int32) [(.int ((c0.toInt8.toInt32).toInt8.toInt32)), (.int ((c1.toInt8.toInt32).toInt8.toInt32)), (.int ((c2.toInt8.toInt32).toInt8.toInt32))] (.int (0 : Int32))
theorem rmiB3 (hw : HW a0 Z) (a1 a2 : Addr) (k1 : ClassId) (d1 : Value) (w c0 c1 c2 : Int32) (h0 : Heap) (n0 : Nat) (Z0 : n0 ≤ h0.size) (E1 : Exa Z h0 a1 "java/lang/String") (g1 : n0 ≤ a1) (F1 : Fld Z h0 a1 "java/lang/String" "value" "[B" .null) (F2 : Fld Z h0 a1 "java/lang/String" "coder" "B" (.int (0 : Int32))) (V1 : Arv Z h0 a2 k1 .char (3 : Int32) [(.int c0), (.int c1), (.int c2)] d1) (hc0 : ¬ (255 : Int32) < c0) (hc1 : ¬ (255 : Int32) < c1) (hc2 : ¬ (255 : Int32) < c2) (S1 : Sta Z h0 "java/lang/String" "COMPACT_STRINGS" "Z" (.int w)) (hw0 : ¬ w = (0 : Int32)) :
  own_Met l y4_ jdk_42_method_149_code 6 none (R_ 2 1 3 35) #[(.ref a1), (.ref a2), (.int (0 : Int32)), (.int (3 : Int32)), .null] Z h0 (Q_rmiB3 Z a0 a1 a2 k1 d1 w c0 c1 c2 h0 n0) := by
 refine own_bd (own := "java/lang/String") rfl (plainFor_of_name pn_3) #[rv a1, rv a2, iv 0, iv 3, .val .null, .unset] ?_
 intro p e s m below meth c s₁ hx hby hq hml hown hnm hlk hrt hZ X0 e0
 refine o_aloadN X0 hq d3_0 rfl rfl ?_
 obtain ⟨T_1, X_1, e_1, st_1⟩ := initO X0 hx hZ hown (w_ hw 16 rfl) (w_ hw 17 rfl) (w_ hw 18 rfl) e0 (g := (mkF m 1 #[rv a1, rv a2, iv 0, iv 3, .val .null, .unset] [(.ref a1)])) rfl (by rw [hml]; rfl) rfl (hb hby d3_1) (by decide) (W := 0) (z_ rfl) (by decide)
 refine own_st st_1 ?_
 show own_Go _ _ _ _ (T_1.setTop (mkF m 4 #[rv a1, rv a2, iv 0, iv 3, .val .null, .unset] []))
 refine o_iloadN X_1 hq d3_4 rfl (o_ifYes X_1 hq (pc' := 27) d3_5 (by decide) ?_)
 obtain ⟨T_2, X_2, e_2, st_2⟩ := getS2 X_1 hx hZ hown (host := "") (Or.inl (w_ hw 19 rfl)) Via.refl e_1 S1 (g := (mkF m 27 #[rv a1, rv a2, iv 0, iv 3, .val .null, .unset] [])) rfl (hb hby d3_27)
 refine own_st st_2 ?_
 show own_Go _ _ _ _ (T_2.setTop (mkF m 30 #[rv a1, rv a2, iv 0, iv 3, .val .null, .unset] [(.int w)]))
 refine o_ifNo X_2 hq d3_30 (feq hw0).1 (o_aloadN X_2 hq d3_33 rfl rfl (o_iloadN X_2 hq d3_34 rfl (o_iloadN X_2 hq d3_35 rfl ?_)))
 refine c_S3 X_2 hq e_2 hZ hown hml (k3_177 hw) (rmcB3 hw a2 k1 d1 c0 c1 c2 h0 n0 Z0 V1 hc0 hc1 hc2) d3_36 ?_ 0
 rintro T_3 L_3 _ X_3 ⟨b__3, kb__3, ⟨⟩, Nq_3, K_3, gq_3_b, sq_3_b, Fq_3_0⟩
 have N_3 := Fr.app (Fr.nil n0) Nq_3
 have szq_3_b : h0.size ≤ b__3 := Nat.le_trans (Keep.refl h0 [a1]).1 sq_3_b
 refine o_astore X_3 hq d3_39 rfl (l' := #[rv a1, rv a2, iv 0, iv 3, .val .null, rv b__3]) rfl (o_aloadN X_3 hq d3_41 rfl rfl (o_aload X_3 hq d3_42 rfl rfl (o_iloadN X_3 hq d3_44 rfl ?_)))
 have Zs_5 : n0 ≤ T_3.heap.size := (Nat.le_trans Z0 K_3.1)
 refine c_S2 X_3 hq rfl hZ hown hml (k3_47 hw) (rmcl3 hw b__3 kb__3 [(.int ((c0.toInt8.toInt32).toInt8.toInt32)), (.int ((c1.toInt8.toInt32).toInt8.toInt32)), (.int ((c2.toInt8.toInt32).toInt8.toInt32))] (.int (0 : Int32)) T_3.heap n0 Zs_5 Fq_3_0) d3_45 ?_ 1
 rintro T_4 L_4 _ X_4 ⟨⟨⟩, Nq_4, e_4⟩
 have N_4 := Fr.app N_3 Nq_4
 have Fa_6 := (F2.keep K_3 nin0)
 have Fa_7 := (E1.keep K_3)
 obtain ⟨T_8, h_8, X_8, e_8, W_8, st_8⟩ := putFN X_4 hx hZ hown (w_ hw 31 rfl) Via.refl e_4 Fa_6 Fa_7 (Or.inr ⟨(w_ hw 32 rfl), rfl, hnm⟩) (w_ hw 7 rfl) (ty := .byte) (v' := (.int (0 : Int32))) (by decide) rfl (by decide) (g := (mkF m 48 #[rv a1, rv a2, iv 0, iv 3, .val .null, rv b__3] [(.int 0), (.ref a1)])) rfl rfl (hb hby d3_48)
 refine own_st st_8 ?_
 have N_8 := Fr.snoc X_8 N_4 g1
 show own_Go _ _ _ _ (T_8.setTop (mkF m 51 #[rv a1, rv a2, iv 0, iv 3, .val .null, rv b__3] []))
 refine o_aloadN X_8 hq d3_51 rfl rfl (o_aload X_8 hq d3_52 rfl rfl ?_)
 have Fa_9 := ((F1.keep K_3 nin0).other W_8 (Or.inr (slot_ne (Or.inr (w_ hw 34 rfl)) (Or.inr (w_ hw 32 rfl)) (by decide) (t := (.array .byte)) (t' := .byte) (by decide) (by decide))))
 have Fa_10 := (Fa_7.wr W_8)
 obtain ⟨T_11, h_11, X_11, e_11, W_11, st_11⟩ := putF X_8 hx hZ hown (host := "") (Or.inl (w_ hw 33 rfl)) Via.refl e_8 Fa_9 Fa_10 (Or.inr ⟨(w_ hw 34 rfl), rfl, hnm⟩) (w_ hw 7 rfl) (ty := (.array .byte)) (by decide) rfl rfl (g := (mkF m 54 #[rv a1, rv a2, iv 0, iv 3, .val .null, rv b__3] [(.ref b__3), (.ref a1)])) rfl rfl (hb hby d3_54)
 refine own_st st_11 ?_
 have N_11 := Fr.snoc X_11 N_8 g1
 show own_Go _ _ _ _ (T_11.setTop (mkF m 57 #[rv a1, rv a2, iv 0, iv 3, .val .null, rv b__3] []))
 have Kp_12 : Keep h0 h_11 [a1] := ((((Keep.refl h0 [a1]).trans K_3 all0).wr W_8 (Or.inl (List.mem_of_getElem? (i := 0) rfl))).wr W_11 (Or.inl (List.mem_of_getElem? (i := 0) rfl)))
 have Fa_13 := (Fa_9.same W_11)
 have Fa_14 := ((Fa_6.same W_8).other W_11 (Or.inr (slot_ne (Or.inr (w_ hw 32 rfl)) (Or.inr (w_ hw 34 rfl)) (by decide) (t := .byte) (t' := (.array .byte)) (by decide) (by decide))))
 have Fa_15 := ((Fq_3_0.other W_8 (Ne.symm (Nat.ne_of_lt (Nat.lt_of_lt_of_le F2.lt sq_3_b)))).other W_11 (Ne.symm (Nat.ne_of_lt (Nat.lt_of_lt_of_le F2.lt sq_3_b))))
 exact e_V X_11 e_11 hq hlk hrt d3_57 ⟨b__3, kb__3, rfl, N_11, Kp_12, gq_3_b, szq_3_b, Fa_13, Fa_14, Fa_15⟩
def Q_rmiA3 (Z : State) (a0 : Array Value) (a1 a2 : Addr) (k1 : ClassId) (d1 : Value) (w c0 c1 c2 : Int32) (h0 : Heap) (n0 : Nat) (v : Option Value) (h : Heap) (L : List Loc) : Prop := ∃ b : Addr, ∃ kb : ClassId, v = none ∧ Fr n0 L ∧ Keep h0 h [a1] ∧ n0 ≤ b ∧ h0.size ≤ b ∧ Fld Z h a1 "java/lang/String" "value" "[B" (.ref b) ∧ Fld Z h a1 "java/lang/String" "coder" "B" (.int (0 : Int32)) ∧ Arv Z h b kb .byte (3 : Int32) [(.int ((c0.toInt8.toInt32).toInt8.toInt32)), (.int ((c1.toInt8.toInt32).toInt8.toInt32)), (.int ((c2.toInt8.toInt32).toInt8.toInt32))] (.int (0 : Int32))
theorem rmiA3 (hw : HW a0 Z) (a1 a2 : Addr) (k1 : ClassId) (d1 : Value) (w c0 c1 c2 : Int32) (h0 : Heap) (n0 : Nat) (Z0 : n0 ≤ h0.size) (E1 : Exa Z h0 a1 "java/lang/String") (g1 : n0 ≤ a1) (F1 : Fld Z h0 a1 "java/lang/String" "value" "[B" .null) (F2 : Fld Z h0 a1 "java/lang/String" "coder" "B" (.int (0 : Int32))) (V1 : Arv Z h0 a2 k1 .char (3 : Int32) [(.int c0), (.int c1), (.int c2)] d1) (hc0 : ¬ (255 : Int32) < c0) (hc1 : ¬ (255 : Int32) < c1) (hc2 : ¬ (255 : Int32) < c2) (S1 : Sta Z h0 "java/lang/String" "COMPACT_STRINGS" "Z" (.int w)) (hw0 : ¬ w = (0 : Int32)) :
  own_Met l y5_ jdk_42_method_3_code 2 none (R_ 3 1 3 52) #[(.ref a1), (.ref a2)] Z h0 (Q_rmiA3 Z a0 a1 a2 k1 d1 w c0 c1 c2 h0 n0) := by
 refine own_bd (own := "java/lang/String") rfl (plainFor_of_name pn_3) #[rv a1, rv a2] ?_
 intro p e s m below meth c s₁ hx hby hq hml hown hnm hlk hrt hZ X0 e0
 refine o_aloadN X0 hq d2_0 rfl rfl (o_aloadN X0 hq d2_1 rfl rfl (o_iconst X0 hq 0 d2_2 rfl (o_aloadN X0 hq d2_3 rfl rfl ?_)))
 obtain ⟨cl_1, Ar_1, qk_1, Sz_1, Ng_1, Hs_1, Gs_1⟩ := id V1
 refine own_st (X0.arraylength hx (by rw [e0]; exact Ar_1.1) (State.isArrayOf_alike hZ.alike Ar_1.2.1) (g := (mkF m 4 #[rv a1, rv a2] [(.ref a2), (.int 0), (.ref a2), (.ref a1)])) rfl rfl (hb hby d2_4)) ?_
 rw [len_of Sz_1 Ng_1]
 show own_Go _ _ _ _ (s₁.setTop (mkF m 5 #[rv a1, rv a2] [(.int 3), (.int 0), (.ref a2), (.ref a1)]))
 refine o_aconstNull X0 hq d2_5 ?_
 refine c_I4v X0 hq e0 hZ hown hml (k2_27 hw) (rmiB3 hw a1 a2 k1 d1 w c0 c1 c2 h0 n0 Z0 E1 g1 F1 F2 V1 hc0 hc1 hc2 S1 hw0) d2_6 ?_ 0
 rintro T_2 L_2 X_2 ⟨b__2, kb__2, -, Nq_2, K_2, gq_2_b, sq_2_b, Fq_2_0, Fq_2_1, Fq_2_2⟩
 have N_2 := Fr.app (Fr.nil n0) Nq_2
 have szq_2_b : h0.size ≤ b__2 := Nat.le_trans (Keep.refl h0 [a1]).1 sq_2_b
 have Kp_3 : Keep h0 T_2.heap [a1] := ((Keep.refl h0 [a1]).trans K_2 (allS (Or.inl (List.mem_of_getElem? (i := 0) rfl)) all0))
 exact e_V X_2 rfl hq hlk hrt d2_9 ⟨b__2, kb__2, rfl, N_2, Kp_3, gq_2_b, szq_2_b, Fq_2_0, Fq_2_1, Fq_2_2⟩
def Q_rmcA4 (Z : State) (a0 : Array Value) (a1 a2 : Addr) (k1 : ClassId) (d1 : Value) (c0 c1 c2 c3 : Int32) (k2 : ClassId) (h0 : Heap) (n0 : Nat) (v : Option Value) (h : Heap) (L : List Loc) : Prop := v = some (.int (4 : Int32)) ∧ Fr n0 L ∧ Keep h0 h [a2] ∧ Arv Z h a2 k2 .byte (4 : Int32) [(.int ((c0.toInt8.toInt32).toInt8.toInt32)), (.int ((c1.toInt8.toInt32).toInt8.toInt32)), (.int ((c2.toInt8.toInt32).toInt8.toInt32)), (.int ((c3.toInt8.toInt32).toInt8.toInt32))] (.int (0 : Int32))
theorem rmcA4 (hw : HW a0 Z) (a1 a2 : Addr) (k1 : ClassId) (d1 : Value) (c0 c1 c2 c3 : Int32) (k2 : ClassId) (h0 : Heap) (n0 : Nat) (Z0 : n0 ≤ h0.size) (V1 : Arv Z h0 a1 k1 .char (4 : Int32) [(.int c0), (.int c1), (.int c2), (.int c3)] d1) (V2 : Arv Z h0 a2 k2 .byte (4 : Int32) [(.int (0 : Int32)), (.int (0 : Int32)), (.int (0 : Int32)), (.int (0 : Int32))] (.int (0 : Int32))) (g2 : n0 ≤ a2) (n12 : a1 ≠ a2) (hc0 : ¬ (255 : Int32) < c0) (hc1 : ¬ (255 : Int32) < c1) (hc2 : ¬ (255 : Int32) < c2) (hc3 : ¬ (255 : Int32) < c3) :
  own_Met l y8_ jdk_52_method_21_code 7 (some .int) (R_ 0 0 0 0) #[(.ref a1), (.int (0 : Int32)), (.ref a2), (.int (0 : Int32)), (.int (4 : Int32))] Z h0 (Q_rmcA4 Z a0 a1 a2 k1 d1 c0 c1 c2 c3 k2 h0 n0) := by
 refine own_bd (own := "java/lang/StringUTF16") rfl (plainFor_of_name pn_6) #[rv a1, iv 0, rv a2, iv 0, iv 4, .unset, .unset] ?_
 intro p e s m below meth c s₁ hx hby hq hml hown hnm hlk hrt hZ X0 e0
 refine o_iconst X0 hq 0 d6_0 rfl (o_istore X0 hq d6_1 (l' := #[rv a1, iv 0, rv a2, iv 0, iv 4, iv 0, .unset]) rfl (o_iload X0 hq d6_3 rfl (o_iload X0 hq d6_5 rfl (o_icmpNo X0 hq d6_7 (by decide) (o_aloadN X0 hq d6_10 rfl rfl (o_iloadN X0 hq d6_11 rfl ?_))))))
 obtain ⟨cl_1, Ar_1, qk_1, Sz_1, Ng_1, Hs_1, Gs_1⟩ := id V1
 refine own_st (X0.caload hx (j := (0 : Int32)) (v := (.int c0)) (by rw [e0]; exact Ar_1.1) (State.isArrayOf_alike hZ.alike Ar_1.2.1) Ar_1.2.2 (inb_of Sz_1 ⟨by decide, by decide⟩) (Hs_1.at (j := (0 : Int32)) (inb_of Sz_1 ⟨by decide, by decide⟩) rfl) (g := (mkF m 12 #[rv a1, iv 0, rv a2, iv 0, iv 4, iv 0, .unset] [(.int 0), (.ref a1)])) rfl rfl (hb hby d6_12)) ?_
 show own_Go _ _ _ _ (s₁.setTop (mkF m 13 #[rv a1, iv 0, rv a2, iv 0, iv 4, iv 0, .unset] [(.int c0)]))
 refine o_istore X0 hq d6_13 (l' := #[rv a1, iv 0, rv a2, iv 0, iv 4, iv 0, iv c0]) rfl (o_iload X0 hq d6_15 rfl (o_sipush X0 hq 255 d6_17 rfl (o_icmpYes X0 hq (pc' := 26) d6_20 (flt hc0).2.2.2 (o_aloadN X0 hq d6_26 rfl rfl (o_iloadN X0 hq d6_27 rfl (o_iload X0 hq d6_28 rfl (o_i2b X0 hq d6_30 ?_)))))))
 obtain ⟨cl_2, Ar_2, qk_2, Sz_2, Ng_2, Hs_2, Gs_2⟩ := id V2
 obtain ⟨T_3, h_3, X_3, e_3, W_3, st_3⟩ := stB X0 hx hZ e0 Ar_2 (j := (0 : Int32)) (inb_of Sz_2 ⟨by decide, by decide⟩) (g := (mkF m 31 #[rv a1, iv 0, rv a2, iv 0, iv 4, iv 0, iv c0] [(.int (c0.toInt8.toInt32)), (.int 0), (.ref a2)])) rfl rfl (hb hby d6_31)
 refine own_st st_3 ?_
 have V_3 : Arv Z h_3 a2 k2 .byte (4 : Int32) [(.int ((c0.toInt8.toInt32).toInt8.toInt32)), (.int (0 : Int32)), (.int (0 : Int32)), (.int (0 : Int32))] (.int (0 : Int32)) := Arv.set Ar_2 qk_2 Sz_2 Ng_2 Hs_2 Gs_2 (fits_nar_byte _) W_3 0 rfl (Nat.le_of_ble_eq_true rfl)
 have N_3 := Fr.snoc X_3 (Fr.nil n0) g2
 show own_Go _ _ _ _ (T_3.setTop (mkF m 32 #[rv a1, iv 0, rv a2, iv 0, iv 4, iv 0, iv c0] []))
 refine o_iinc X_3 hq d6_32 rfl (l' := #[rv a1, iv 1, rv a2, iv 0, iv 4, iv 0, iv c0]) rfl (o_iinc X_3 hq d6_35 rfl (l' := #[rv a1, iv 1, rv a2, iv 1, iv 4, iv 0, iv c0]) rfl (o_iinc X_3 hq d6_38 rfl (l' := #[rv a1, iv 1, rv a2, iv 1, iv 4, iv 1, iv c0]) rfl (o_goto X_3 hq (pc' := 3) d6_41 (o_iload X_3 hq d6_3 rfl (o_iload X_3 hq d6_5 rfl (o_icmpNo X_3 hq d6_7 (by decide) (o_aloadN X_3 hq d6_10 rfl rfl (o_iloadN X_3 hq d6_11 rfl ?_))))))))
 have Fa_4 := (V1.other W_3 n12)
 obtain ⟨cl_5, Ar_5, qk_5, Sz_5, Ng_5, Hs_5, Gs_5⟩ := id Fa_4
 refine own_st (X_3.caload hx (j := (1 : Int32)) (v := (.int c1)) (by rw [e_3]; exact Ar_5.1) (State.isArrayOf_alike hZ.alike Ar_5.2.1) Ar_5.2.2 (inb_of Sz_5 ⟨by decide, by decide⟩) (Hs_5.at (j := (1 : Int32)) (inb_of Sz_5 ⟨by decide, by decide⟩) rfl) (g := (mkF m 12 #[rv a1, iv 1, rv a2, iv 1, iv 4, iv 1, iv c0] [(.int 1), (.ref a1)])) rfl rfl (hb hby d6_12)) ?_
 show own_Go _ _ _ _ (T_3.setTop (mkF m 13 #[rv a1, iv 1, rv a2, iv 1, iv 4, iv 1, iv c0] [(.int c1)]))
 refine o_istore X_3 hq d6_13 (l' := #[rv a1, iv 1, rv a2, iv 1, iv 4, iv 1, iv c1]) rfl (o_iload X_3 hq d6_15 rfl (o_sipush X_3 hq 255 d6_17 rfl (o_icmpYes X_3 hq (pc' := 26) d6_20 (flt hc1).2.2.2 (o_aloadN X_3 hq d6_26 rfl rfl (o_iloadN X_3 hq d6_27 rfl (o_iload X_3 hq d6_28 rfl (o_i2b X_3 hq d6_30 ?_)))))))
 obtain ⟨cl_6, Ar_6, qk_6, Sz_6, Ng_6, Hs_6, Gs_6⟩ := id V_3
 obtain ⟨T_7, h_7, X_7, e_7, W_7, st_7⟩ := stB X_3 hx hZ e_3 Ar_6 (j := (1 : Int32)) (inb_of Sz_6 ⟨by decide, by decide⟩) (g := (mkF m 31 #[rv a1, iv 1, rv a2, iv 1, iv 4, iv 1, iv c1] [(.int (c1.toInt8.toInt32)), (.int 1), (.ref a2)])) rfl rfl (hb hby d6_31)
 refine own_st st_7 ?_
 have V_7 : Arv Z h_7 a2 k2 .byte (4 : Int32) [(.int ((c0.toInt8.toInt32).toInt8.toInt32)), (.int ((c1.toInt8.toInt32).toInt8.toInt32)), (.int (0 : Int32)), (.int (0 : Int32))] (.int (0 : Int32)) := Arv.set Ar_6 qk_6 Sz_6 Ng_6 Hs_6 Gs_6 (fits_nar_byte _) W_7 1 rfl (Nat.le_of_ble_eq_true rfl)
 have N_7 := Fr.snoc X_7 N_3 g2
 show own_Go _ _ _ _ (T_7.setTop (mkF m 32 #[rv a1, iv 1, rv a2, iv 1, iv 4, iv 1, iv c1] []))
 refine o_iinc X_7 hq d6_32 rfl (l' := #[rv a1, iv 2, rv a2, iv 1, iv 4, iv 1, iv c1]) rfl (o_iinc X_7 hq d6_35 rfl (l' := #[rv a1, iv 2, rv a2, iv 2, iv 4, iv 1, iv c1]) rfl (o_iinc X_7 hq d6_38 rfl (l' := #[rv a1, iv 2, rv a2, iv 2, iv 4, iv 2, iv c1]) rfl (o_goto X_7 hq (pc' := 3) d6_41 (o_iload X_7 hq d6_3 rfl (o_iload X_7 hq d6_5 rfl (o_icmpNo X_7 hq d6_7 (by decide) (o_aloadN X_7 hq d6_10 rfl rfl (o_iloadN X_7 hq d6_11 rfl ?_))))))))
 have Fa_8 := (Fa_4.other W_7 n12)
 obtain ⟨cl_9, Ar_9, qk_9, Sz_9, Ng_9, Hs_9, Gs_9⟩ := id Fa_8
 refine own_st (X_7.caload hx (j := (2 : Int32)) (v := (.int c2)) (by rw [e_7]; exact Ar_9.1) (State.isArrayOf_alike hZ.alike Ar_9.2.1) Ar_9.2.2 (inb_of Sz_9 ⟨by decide, by decide⟩) (Hs_9.at (j := (2 : Int32)) (inb_of Sz_9 ⟨by decide, by decide⟩) rfl) (g := (mkF m 12 #[rv a1, iv 2, rv a2, iv 2, iv 4, iv 2, iv c1] [(.int 2), (.ref a1)])) rfl rfl (hb hby d6_12)) ?_
 show own_Go _ _ _ _ (T_7.setTop (mkF m 13 #[rv a1, iv 2, rv a2, iv 2, iv 4, iv 2, iv c1] [(.int c2)]))
 refine o_istore X_7 hq d6_13 (l' := #[rv a1, iv 2, rv a2, iv 2, iv 4, iv 2, iv c2]) rfl (o_iload X_7 hq d6_15 rfl (o_sipush X_7 hq 255 d6_17 rfl (o_icmpYes X_7 hq (pc' := 26) d6_20 (flt hc2).2.2.2 (o_aloadN X_7 hq d6_26 rfl rfl (o_iloadN X_7 hq d6_27 rfl (o_iload X_7 hq d6_28 rfl (o_i2b X_7 hq d6_30 ?_)))))))
 obtain ⟨cl_10, Ar_10, qk_10, Sz_10, Ng_10, Hs_10, Gs_10⟩ := id V_7
 obtain ⟨T_11, h_11, X_11, e_11, W_11, st_11⟩ := stB X_7 hx hZ e_7 Ar_10 (j := (2 : Int32)) (inb_of Sz_10 ⟨by decide, by decide⟩) (g := (mkF m 31 #[rv a1, iv 2, rv a2, iv 2, iv 4, iv 2, iv c2] [(.int (c2.toInt8.toInt32)), (.int 2), (.ref a2)])) rfl rfl (hb hby d6_31)
 refine own_st st_11 ?_
 have V_11 : Arv Z h_11 a2 k2 .byte (4 : Int32) [(.int ((c0.toInt8.toInt32).toInt8.toInt32)), (.int ((c1.toInt8.toInt32).toInt8.toInt32)), (.int ((c2.toInt8.toInt32).toInt8.toInt32)), (.int (0 : Int32))] (.int (0 : Int32)) := Arv.set Ar_10 qk_10 Sz_10 Ng_10 Hs_10 Gs_10 (fits_nar_byte _) W_11 2 rfl (Nat.le_of_ble_eq_true rfl)
 have N_11 := Fr.snoc X_11 N_7 g2
 show own_Go _ _ _ _ (T_11.setTop (mkF m 32 #[rv a1, iv 2, rv a2, iv 2, iv 4, iv 2, iv c2] []))
 refine o_iinc X_11 hq d6_32 rfl (l' := #[rv a1, iv 3, rv a2, iv 2, iv 4, iv 2, iv c2]) rfl (o_iinc X_11 hq d6_35 rfl (l' := #[rv a1, iv 3, rv a2, iv 3, iv 4, iv 2, iv c2]) rfl (o_iinc X_11 hq d6_38 rfl (l' := #[rv a1, iv 3, rv a2, iv 3, iv 4, iv 3, iv c2]) rfl (o_goto X_11 hq (pc' := 3) d6_41 (o_iload X_11 hq d6_3 rfl (o_iload X_11 hq d6_5 rfl (o_icmpNo X_11 hq d6_7 (by decide) (o_aloadN X_11 hq d6_10 rfl rfl (o_iloadN X_11 hq d6_11 rfl ?_))))))))
 have Fa_12 := (Fa_8.other W_11 n12)
 obtain ⟨cl_13, Ar_13, qk_13, Sz_13, Ng_13, Hs_13, Gs_13⟩ := id Fa_12
 refine own_st (X_11.caload hx (j := (3 : Int32)) (v := (.int c3)) (by rw [e_11]; exact Ar_13.1) (State.isArrayOf_alike hZ.alike Ar_13.2.1) Ar_13.2.2 (inb_of Sz_13 ⟨by decide, by decide⟩) (Hs_13.at (j := (3 : Int32)) (inb_of Sz_13 ⟨by decide, by decide⟩) rfl) (g := (mkF m 12 #[rv a1, iv 3, rv a2, iv 3, iv 4, iv 3, iv c2] [(.int 3), (.ref a1)])) rfl rfl (hb hby d6_12)) ?_
 show own_Go _ _ _ _ (T_11.setTop (mkF m 13 #[rv a1, iv 3, rv a2, iv 3, iv 4, iv 3, iv c2] [(.int c3)]))
 refine o_istore X_11 hq d6_13 (l' := #[rv a1, iv 3, rv a2, iv 3, iv 4, iv 3, iv c3]) rfl (o_iload X_11 hq d6_15 rfl (o_sipush X_11 hq 255 d6_17 rfl (o_icmpYes X_11 hq (pc' := 26) d6_20 (flt hc3).2.2.2 (o_aloadN X_11 hq d6_26 rfl rfl (o_iloadN X_11 hq d6_27 rfl (o_iload X_11 hq d6_28 rfl (o_i2b X_11 hq d6_30 ?_)))))))
 obtain ⟨cl_14, Ar_14, qk_14, Sz_14, Ng_14, Hs_14, Gs_14⟩ := id V_11
 obtain ⟨T_15, h_15, X_15, e_15, W_15, st_15⟩ := stB X_11 hx hZ e_11 Ar_14 (j := (3 : Int32)) (inb_of Sz_14 ⟨by decide, by decide⟩) (g := (mkF m 31 #[rv a1, iv 3, rv a2, iv 3, iv 4, iv 3, iv c3] [(.int (c3.toInt8.toInt32)), (.int 3), (.ref a2)])) rfl rfl (hb hby d6_31)
 refine own_st st_15 ?_
 have V_15 : Arv Z h_15 a2 k2 .byte (4 : Int32) [(.int ((c0.toInt8.toInt32).toInt8.toInt32)), (.int ((c1.toInt8.toInt32).toInt8.toInt32)), (.int ((c2.toInt8.toInt32).toInt8.toInt32)), (.int ((c3.toInt8.toInt32).toInt8.toInt32))] (.int (0 : Int32)) := Arv.set Ar_14 qk_14 Sz_14 Ng_14 Hs_14 Gs_14 (fits_nar_byte _) W_15 3 rfl (Nat.le_of_ble_eq_true rfl)
 have N_15 := Fr.snoc X_15 N_11 g2
 show own_Go _ _ _ _ (T_15.setTop (mkF m 32 #[rv a1, iv 3, rv a2, iv 3, iv 4, iv 3, iv c3] []))
 refine o_iinc X_15 hq d6_32 rfl (l' := #[rv a1, iv 4, rv a2, iv 3, iv 4, iv 3, iv c3]) rfl (o_iinc X_15 hq d6_35 rfl (l' := #[rv a1, iv 4, rv a2, iv 4, iv 4, iv 3, iv c3]) rfl (o_iinc X_15 hq d6_38 rfl (l' := #[rv a1, iv 4, rv a2, iv 4, iv 4, iv 4, iv c3]) rfl (o_goto X_15 hq (pc' := 3) d6_41 (o_iload X_15 hq d6_3 rfl (o_iload X_15 hq d6_5 rfl (o_icmpYes X_15 hq (pc' := 44) d6_7 (by decide) (o_iload X_15 hq d6_44 rfl ?_)))))))
 have Kp_16 : Keep h0 h_15 [a2] := (((((Keep.refl h0 [a2]).wr W_3 (Or.inl (List.mem_of_getElem? (i := 0) rfl))).wr W_7 (Or.inl (List.mem_of_getElem? (i := 0) rfl))).wr W_11 (Or.inl (List.mem_of_getElem? (i := 0) rfl))).wr W_15 (Or.inl (List.mem_of_getElem? (i := 0) rfl)))
 exact e_I X_15 e_15 hq hlk hrt d6_46 ⟨rfl, N_15, Kp_16, V_15⟩
def Q_rmcB4 (Z : State) (a0 : Array Value) (a1 : Addr) (k1 : ClassId) (d1 : Value) (c0 c1 c2 c3 : Int32) (h0 : Heap) (n0 : Nat) (v : Option Value) (h : Heap) (L : List Loc) : Prop := ∃ b : Addr, ∃ kb : ClassId, v = some (.ref b) ∧ Fr n0 L ∧ Keep h0 h [] ∧ n0 ≤ b ∧ h0.size ≤ b ∧ Arv Z h b kb .byte (4 : Int32) [(.int ((c0.toInt8.toInt32).toInt8.toInt32)), (.int ((c1.toInt8.toInt32).toInt8.toInt32)), (.int ((c2.toInt8.toInt32).toInt8.toInt32)), (.int ((c3.toInt8.toInt32).toInt8.toInt32))] (.int (0 : Int32))
theorem rmcB4 (hw : HW a0 Z) (a1 : Addr) (k1 : ClassId) (d1 : Value) (c0 c1 c2 c3 : Int32) (h0 : Heap) (n0 : Nat) (Z0 : n0 ≤ h0.size) (V1 : Arv Z h0 a1 k1 .char (4 : Int32) [(.int c0), (.int c1), (.int c2), (.int c3)] d1) (hc0 : ¬ (255 : Int32) < c0) (hc1 : ¬ (255 : Int32) < c1) (hc2 : ¬ (255 : Int32) < c2) (hc3 : ¬ (255 : Int32) < c3) :
  own_Met l y9_ jdk_52_method_16_code 6 (some (.array .byte)) (R_ 1 1 4 18) #[(.ref a1), (.int (0 : Int32)), (.int (4 : Int32))] Z h0 (Q_rmcB4 Z a0 a1 k1 d1 c0 c1 c2 c3 h0 n0) := by
 refine own_bd (own := "java/lang/StringUTF16") rfl (plainFor_of_name pn_6) #[rv a1, iv 0, iv 4, .unset, .unset, .unset] ?_
 intro p e s m below meth c s₁ hx hby hq hml hown hnm hlk hrt hZ X0 e0
 refine o_iloadN X0 hq d5_0 rfl ?_
 obtain ⟨T_1, h_1, k_1, X_1, e_1, E_1, A_1, st_1⟩ := newP X0 hx hZ (w_ hw 24 rfl) e0 (g := (mkF m 1 #[rv a1, iv 0, iv 4, .unset, .unset, .unset] [(.int 4)])) rfl (hb hby d5_1) rfl (by decide) (cap := 4) (by decide) (by decide) (by decide) (by decide)
 obtain ⟨b_1, g_1⟩ : ∃ z, z = h0.size := ⟨_, rfl⟩
 rw [← g_1] at A_1 st_1
 have V_1 : Arv Z h_1 b_1 k_1 .byte (4 : Int32) [(.int (0 : Int32)), (.int (0 : Int32)), (.int (0 : Int32)), (.int (0 : Int32))] (.int (0 : Int32)) := (Arv.new A_1 (by decide)).pad (pad_rep [] (.int (0 : Int32)) 4)
 have gg_1 : n0 ≤ b_1 := Nat.le_trans Z0 (Nat.le_of_eq g_1.symm)
 have sz_1 : h0.size ≤ b_1 := Nat.le_trans (Keep.refl h0 []).1 (Nat.le_of_eq g_1.symm)
 refine own_st st_1 ?_
 show own_Go _ _ _ _ (T_1.setTop (mkF m 3 #[rv a1, iv 0, iv 4, .unset, .unset, .unset] [(.ref b_1)]))
 refine o_astoreN X_1 hq d5_3 rfl (l' := #[rv a1, iv 0, iv 4, rv b_1, .unset, .unset]) rfl (o_aloadN X_1 hq d5_4 rfl rfl (o_iloadN X_1 hq d5_5 rfl (o_aloadN X_1 hq d5_6 rfl rfl (o_iconst X_1 hq 0 d5_7 rfl (o_iloadN X_1 hq d5_8 rfl ?_)))))
 have Fa_3 := (V1.ext E_1)
 have Zs_4 : n0 ≤ h_1.size := (Nat.le_trans Z0 E_1.1)
 refine c_S5 X_1 hq e_1 hZ hown hml (k5_115 hw) (rmcA4 hw a1 b_1 k1 d1 c0 c1 c2 c3 k_1 h_1 n0 Zs_4 Fa_3 V_1 gg_1 (Nat.ne_of_lt (Nat.lt_of_lt_of_le V1.lt (Nat.le_of_eq g_1.symm))) hc0 hc1 hc2 hc3) d5_9 ?_ 0
 rintro T_2 L_2 _ X_2 ⟨⟨⟩, Nq_2, K_2, Fq_2_0⟩
 have N_2 := Fr.app (Fr.nil n0) Nq_2
 refine o_istore X_2 hq d5_12 (l' := #[rv a1, iv 0, iv 4, rv b_1, iv 4, .unset]) rfl (o_iload X_2 hq d5_14 rfl (o_iloadN X_2 hq d5_16 rfl (o_icmpYes X_2 hq (pc' := 57) d5_17 (by decide) (o_aloadN X_2 hq d5_57 rfl rfl ?_))))
 have Kp_5 : Keep h0 T_2.heap [] := (((Keep.refl h0 []).ext E_1).trans K_2 (allS (Or.inr sz_1) all0))
 exact e_R X_2 rfl hq hlk rfl rfl hrt d5_58 ⟨b_1, k_1, rfl, N_2, Kp_5, gg_1, sz_1, Fq_2_0⟩
def Q_rmcl4 (Z : State) (a0 : Array Value) (a1 : Addr) (k1 : ClassId) (vs : List Value) (d1 : Value) (h0 : Heap) (n0 : Nat) (v : Option Value) (h : Heap) (L : List Loc) : Prop := v = some (.int (0 : Int32)) ∧ Fr n0 L ∧ h = h0
theorem rmcl4 (hw : HW a0 Z) (a1 : Addr) (k1 : ClassId) (vs : List Value) (d1 : Value) (h0 : Heap) (n0 : Nat) (Z0 : n0 ≤ h0.size) (V1 : Arv Z h0 a1 k1 .byte (4 : Int32) vs d1) :
  own_Met l y10_ jdk_52_method_15_code 2 (some .byte) (R_ 0 0 0 0) #[(.ref a1), (.int (4 : Int32))] Z h0 (Q_rmcl4 Z a0 a1 k1 vs d1 h0 n0) := by
 refine own_bd (own := "java/lang/StringUTF16") rfl (plainFor_of_name pn_6) #[rv a1, iv 4] ?_
 intro p e s m below meth c s₁ hx hby hq hml hown hnm hlk hrt hZ X0 e0
 refine o_iloadN X0 hq d7_0 rfl (o_aloadN X0 hq d7_1 rfl rfl ?_)
 obtain ⟨cl_1, Ar_1, qk_1, Sz_1, Ng_1, Hs_1, Gs_1⟩ := id V1
 refine own_st (X0.arraylength hx (by rw [e0]; exact Ar_1.1) (State.isArrayOf_alike hZ.alike Ar_1.2.1) (g := (mkF m 2 #[rv a1, iv 4] [(.ref a1), (.int 4)])) rfl rfl (hb hby d7_2)) ?_
 rw [len_of Sz_1 Ng_1]
 show own_Go _ _ _ _ (s₁.setTop (mkF m 3 #[rv a1, iv 4] [(.int 4), (.int 4)]))
 refine o_isub X0 hq d7_3 ?_
 show own_Go _ _ _ _ (s₁.setTop (mkF m 4 #[rv a1, iv 4] [(.int 0)]))
 refine o_bipush X0 hq 31 d7_4 rfl (o_iushr X0 hq d7_6 ?_)
 show own_Go _ _ _ _ (s₁.setTop (mkF m 7 #[rv a1, iv 4] [(.int 0)]))
 refine o_i2b X0 hq d7_7 ?_
 show own_Go _ _ _ _ (s₁.setTop (mkF m 8 #[rv a1, iv 4] [(.int 0)]))
 exact e_B X0 e0 hq hlk hrt d7_8 ⟨rfl, (Fr.nil n0), rfl⟩
def Q_rmiB4 (Z : State) (a0 : Array Value) (a1 a2 : Addr) (k1 : ClassId) (d1 : Value) (w c0 c1 c2 c3 : Int32) (h0 : Heap) (n0 : Nat) (v : Option Value) (h : Heap) (L : List Loc) : Prop := ∃ b : Addr, ∃ kb : ClassId, v = none ∧ Fr n0 L ∧ Keep h0 h [a1] ∧ n0 ≤ b ∧ h0.size ≤ b ∧ Fld Z h a1 "java/lang/String" "value" "[B" (.ref b) ∧ Fld Z h a1 "java/lang/String" "coder" "B" (.int (0 : Int32)) ∧ Arv Z h b kb .byte (4 : Int32) [(.int ((c0.toInt8.toInt32).toInt8.toInt32)), (.int ((c1.toInt8.toInt32).toInt8.toInt32)), (.int ((c2.toInt8.toInt32).toInt8.toInt32)), (.int ((c3.toInt8.toInt32).toInt8.toInt32))] (.int (0 : Int32))
theorem rmiB4 (hw : HW a0 Z) (a1 a2 : Addr) (k1 : ClassId) (d1 : Value) (w c0 c1 c2 c3 : Int32) (h0 : Heap) (n0 : Nat) (Z0 : n0 ≤ h0.size) (E1 : Exa Z h0 a1 "java/lang/String") (g1 : n0 ≤ a1) (F1 : Fld Z h0 a1 "java/lang/String" "value" "[B" .null) (F2 : Fld Z h0 a1 "java/lang/String" "coder" "B" (.int (0 : Int32))) (V1 : Arv Z h0 a2 k1 .char (4 : Int32) [(.int c0), (.int c1), (.int c2), (.int c3)] d1) (hc0 : ¬ (255 : Int32) < c0) (hc1 : ¬ (255 : Int32) < c1) (hc2 : ¬ (255 : Int32) < c2) (hc3 : ¬ (255 : Int32) < c3) (S1 : Sta Z h0 "java/lang/String" "COMPACT_STRINGS" "Z" (.int w)) (hw0 : ¬ w = (0 : Int32)) :
  own_Met l y4_ jdk_42_method_149_code 6 none (R_ 2 1 4 35) #[(.ref a1), (.ref a2), (.int (0 : Int32)), (.int (4 : Int32)), .null] Z h0 (Q_rmiB4 Z a0 a1 a2 k1 d1 w c0 c1 c2 c3 h0 n0) := by
 refine own_bd (own := "java/lang/String") rfl (plainFor_of_name pn_3) #[rv a1, rv a2, iv 0, iv 4, .val .null, .unset] ?_
 intro p e s m below meth c s₁ hx hby hq hml hown hnm hlk hrt hZ X0 e0
 refine o_aloadN X0 hq d3_0 rfl rfl ?_
 obtain ⟨T_1, X_1, e_1, st_1⟩ := initO X0 hx hZ hown (w_ hw 16 rfl) (w_ hw 17 rfl) (w_ hw 18 rfl) e0 (g := (mkF m 1 #[rv a1, rv a2, iv 0, iv 4, .val .null, .unset] [(.ref a1)])) rfl (by rw [hml]; rfl) rfl (hb hby d3_1) (by decide) (W := 0) (z_ rfl) (by decide)
 refine own_st st_1 ?_
 show own_Go _ _ _ _ (T_1.setTop (mkF m 4 #[rv a1, rv a2, iv 0, iv 4, .val .null, .unset] []))
 refine o_iloadN X_1 hq d3_4 rfl (o_ifYes X_1 hq (pc' := 27) d3_5 (by decide) ?_)
 obtain ⟨T_2, X_2, e_2, st_2⟩ := getS2 X_1 hx hZ hown (host := "") (Or.inl (w_ hw 19 rfl)) Via.refl e_1 S1 (g := (mkF m 27 #[rv a1, rv a2, iv 0, iv 4, .val .null, .unset] [])) rfl (hb hby d3_27)
 refine own_st st_2 ?_
 show own_Go _ _ _ _ (T_2.setTop (mkF m 30 #[rv a1, rv a2, iv 0, iv 4, .val .null, .unset] [(.int w)]))
 refine o_ifNo X_2 hq d3_30 (feq hw0).1 (o_aloadN X_2 hq d3_33 rfl rfl (o_iloadN X_2 hq d3_34 rfl (o_iloadN X_2 hq d3_35 rfl ?_)))
 refine c_S3 X_2 hq e_2 hZ hown hml (k3_177 hw) (rmcB4 hw a2 k1 d1 c0 c1 c2 c3 h0 n0 Z0 V1 hc0 hc1 hc2 hc3) d3_36 ?_ 0
 rintro T_3 L_3 _ X_3 ⟨b__3, kb__3, ⟨⟩, Nq_3, K_3, gq_3_b, sq_3_b, Fq_3_0⟩
 have N_3 := Fr.app (Fr.nil n0) Nq_3
 have szq_3_b : h0.size ≤ b__3 := Nat.le_trans (Keep.refl h0 [a1]).1 sq_3_b
 refine o_astore X_3 hq d3_39 rfl (l' := #[rv a1, rv a2, iv 0, iv 4, .val .null, rv b__3]) rfl (o_aloadN X_3 hq d3_41 rfl rfl (o_aload X_3 hq d3_42 rfl rfl (o_iloadN X_3 hq d3_44 rfl ?_)))
 have Zs_5 : n0 ≤ T_3.heap.size := (Nat.le_trans Z0 K_3.1)
 refine c_S2 X_3 hq rfl hZ hown hml (k3_47 hw) (rmcl4 hw b__3 kb__3 [(.int ((c0.toInt8.toInt32).toInt8.toInt32)), (.int ((c1.toInt8.toInt32).toInt8.toInt32)), (.int ((c2.toInt8.toInt32).toInt8.toInt32)), (.int ((c3.toInt8.toInt32).toInt8.toInt32))] (.int (0 : Int32)) T_3.heap n0 Zs_5 Fq_3_0) d3_45 ?_ 1
 rintro T_4 L_4 _ X_4 ⟨⟨⟩, Nq_4, e_4⟩
 have N_4 := Fr.app N_3 Nq_4
 have Fa_6 := (F2.keep K_3 nin0)
 have Fa_7 := (E1.keep K_3)
 obtain ⟨T_8, h_8, X_8, e_8, W_8, st_8⟩ := putFN X_4 hx hZ hown (w_ hw 31 rfl) Via.refl e_4 Fa_6 Fa_7 (Or.inr ⟨(w_ hw 32 rfl), rfl, hnm⟩) (w_ hw 7 rfl) (ty := .byte) (v' := (.int (0 : Int32))) (by decide) rfl (by decide) (g := (mkF m 48 #[rv a1, rv a2, iv 0, iv 4, .val .null, rv b__3] [(.int 0), (.ref a1)])) rfl rfl (hb hby d3_48)
 refine own_st st_8 ?_
 have N_8 := Fr.snoc X_8 N_4 g1
 show own_Go _ _ _ _ (T_8.setTop (mkF m 51 #[rv a1, rv a2, iv 0, iv 4, .val .null, rv b__3] []))
 refine o_aloadN X_8 hq d3_51 rfl rfl (o_aload X_8 hq d3_52 rfl rfl ?_)
 have Fa_9 := ((F1.keep K_3 nin0).other W_8 (Or.inr (slot_ne (Or.inr (w_ hw 34 rfl)) (Or.inr (w_ hw 32 rfl)) (by decide) (t := (.array .byte)) (t' := .byte) (by decide) (by decide))))
 have Fa_10 := (Fa_7.wr W_8)
 obtain ⟨T_11, h_11, X_11, e_11, W_11, st_11⟩ := putF X_8 hx hZ hown (host := "") (Or.inl (w_ hw 33 rfl)) Via.refl e_8 Fa_9 Fa_10 (Or.inr ⟨(w_ hw 34 rfl), rfl, hnm⟩) (w_ hw 7 rfl) (ty := (.array .byte)) (by decide) rfl rfl (g := (mkF m 54 #[rv a1, rv a2, iv 0, iv 4, .val .null, rv b__3] [(.ref b__3), (.ref a1)])) rfl rfl (hb hby d3_54)
 refine own_st st_11 ?_
 have N_11 := Fr.snoc X_11 N_8 g1
 show own_Go _ _ _ _ (T_11.setTop (mkF m 57 #[rv a1, rv a2, iv 0, iv 4, .val .null, rv b__3] []))
 have Kp_12 : Keep h0 h_11 [a1] := ((((Keep.refl h0 [a1]).trans K_3 all0).wr W_8 (Or.inl (List.mem_of_getElem? (i := 0) rfl))).wr W_11 (Or.inl (List.mem_of_getElem? (i := 0) rfl)))
 have Fa_13 := (Fa_9.same W_11)
 have Fa_14 := ((Fa_6.same W_8).other W_11 (Or.inr (slot_ne (Or.inr (w_ hw 32 rfl)) (Or.inr (w_ hw 34 rfl)) (by decide) (t := .byte) (t' := (.array .byte)) (by decide) (by decide))))
 have Fa_15 := ((Fq_3_0.other W_8 (Ne.symm (Nat.ne_of_lt (Nat.lt_of_lt_of_le F2.lt sq_3_b)))).other W_11 (Ne.symm (Nat.ne_of_lt (Nat.lt_of_lt_of_le F2.lt sq_3_b))))
 exact e_V X_11 e_11 hq hlk hrt d3_57 ⟨b__3, kb__3, rfl, N_11, Kp_12, gq_3_b, szq_3_b, Fa_13, Fa_14, Fa_15⟩
def Q_rmiA4 (Z : State) (a0 : Array Value) (a1 a2 : Addr) (k1 : ClassId) (d1 : Value) (w c0 c1 c2 c3 : Int32) (h0 : Heap) (n0 : Nat) (v : Option Value) (h : Heap) (L : List Loc) : Prop := ∃ b : Addr, ∃ kb : ClassId, v = none ∧ Fr n0 L ∧ Keep h0 h [a1] ∧ n0 ≤ b ∧ h0.size ≤ b ∧ Fld Z h a1 "java/lang/String" "value" "[B" (.ref b) ∧ Fld Z h a1 "java/lang/String" "coder" "B" (.int (0 : Int32)) ∧ Arv Z h b kb .byte (4 : Int32) [(.int ((c0.toInt8.toInt32).toInt8.toInt32)), (.int ((c1.toInt8.toInt32).toInt8.toInt32)), (.int ((c2.toInt8.toInt32).toInt8.toInt32)), (.int ((c3.toInt8.toInt32).toInt8.toInt32))] (.int (0 : Int32))
theorem rmiA4 (hw : HW a0 Z) (a1 a2 : Addr) (k1 : ClassId) (d1 : Value) (w c0 c1 c2 c3 : Int32) (h0 : Heap) (n0 : Nat) (Z0 : n0 ≤ h0.size) (E1 : Exa Z h0 a1 "java/lang/String") (g1 : n0 ≤ a1) (F1 : Fld Z h0 a1 "java/lang/String" "value" "[B" .null) (F2 : Fld Z h0 a1 "java/lang/String" "coder" "B" (.int (0 : Int32))) (V1 : Arv Z h0 a2 k1 .char (4 : Int32) [(.int c0), (.int c1), (.int c2), (.int c3)] d1) (hc0 : ¬ (255 : Int32) < c0) (hc1 : ¬ (255 : Int32) < c1) (hc2 : ¬ (255 : Int32) < c2) (hc3 : ¬ (255 : Int32) < c3) (S1 : Sta Z h0 "java/lang/String" "COMPACT_STRINGS" "Z" (.int w)) (hw0 : ¬ w = (0 : Int32)) :
  own_Met l y5_ jdk_42_method_3_code 2 none (R_ 3 1 4 52) #[(.ref a1), (.ref a2)] Z h0 (Q_rmiA4 Z a0 a1 a2 k1 d1 w c0 c1 c2 c3 h0 n0) := by
 refine own_bd (own := "java/lang/String") rfl (plainFor_of_name pn_3) #[rv a1, rv a2] ?_
 intro p e s m below meth c s₁ hx hby hq hml hown hnm hlk hrt hZ X0 e0
 refine o_aloadN X0 hq d2_0 rfl rfl (o_aloadN X0 hq d2_1 rfl rfl (o_iconst X0 hq 0 d2_2 rfl (o_aloadN X0 hq d2_3 rfl rfl ?_)))
 obtain ⟨cl_1, Ar_1, qk_1, Sz_1, Ng_1, Hs_1, Gs_1⟩ := id V1
 refine own_st (X0.arraylength hx (by rw [e0]; exact Ar_1.1) (State.isArrayOf_alike hZ.alike Ar_1.2.1) (g := (mkF m 4 #[rv a1, rv a2] [(.ref a2), (.int 0), (.ref a2), (.ref a1)])) rfl rfl (hb hby d2_4)) ?_
 rw [len_of Sz_1 Ng_1]
 show own_Go _ _ _ _ (s₁.setTop (mkF m 5 #[rv a1, rv a2] [(.int 4), (.int 0), (.ref a2), (.ref a1)]))
 refine o_aconstNull X0 hq d2_5 ?_
 refine c_I4v X0 hq e0 hZ hown hml (k2_27 hw) (rmiB4 hw a1 a2 k1 d1 w c0 c1 c2 c3 h0 n0 Z0 E1 g1 F1 F2 V1 hc0 hc1 hc2 hc3 S1 hw0) d2_6 ?_ 0
 rintro T_2 L_2 X_2 ⟨b__2, kb__2, -, Nq_2, K_2, gq_2_b, sq_2_b, Fq_2_0, Fq_2_1, Fq_2_2⟩
 have N_2 := Fr.app (Fr.nil n0) Nq_2
 have szq_2_b : h0.size ≤ b__2 := Nat.le_trans (Keep.refl h0 [a1]).1 sq_2_b
 have Kp_3 : Keep h0 T_2.heap [a1] := ((Keep.refl h0 [a1]).trans K_2 (allS (Or.inl (List.mem_of_getElem? (i := 0) rfl)) all0))
 exact e_V X_2 rfl hq hlk hrt d2_9 ⟨b__2, kb__2, rfl, N_2, Kp_3, gq_2_b, szq_2_b, Fq_2_0, Fq_2_1, Fq_2_2⟩
def Q_rmcA5 (Z : State) (a0 : Array Value) (a1 a2 : Addr) (k1 : ClassId) (d1 : Value) (c0 c1 c2 c3 c4 : Int32) (k2 : ClassId) (h0 : Heap) (n0 : Nat) (v : Option Value) (h : Heap) (L : List Loc) : Prop := v = some (.int (5 : Int32)) ∧ Fr n0 L ∧ Keep h0 h [a2] ∧ Arv Z h a2 k2 .byte (5 : Int32) [(.int ((c0.toInt8.toInt32).toInt8.toInt32)), (.int ((c1.toInt8.toInt32).toInt8.toInt32)), (.int ((c2.toInt8.toInt32).toInt8.toInt32)), (.int ((c3.toInt8.toInt32).toInt8.toInt32)), (.int ((c4.toInt8.toInt32).toInt8.toInt32))] (.int (0 : Int32))
theorem rmcA5 (hw : HW a0 Z) (a1 a2 : Addr) (k1 : ClassId) (d1 : Value) (c0 c1 c2 c3 c4 : Int32) (k2 : ClassId) (h0 : Heap) (n0 : Nat) (Z0 : n0 ≤ h0.size) (V1 : Arv Z h0 a1 k1 .char (5 : Int32) [(.int c0), (.int c1), (.int c2), (.int c3), (.int c4)] d1) (V2 : Arv Z h0 a2 k2 .byte (5 : Int32) [(.int (0 : Int32)), (.int (0 : Int32)), (.int (0 : Int32)), (.int (0 : Int32)), (.int (0 : Int32))] (.int (0 : Int32))) (g2 : n0 ≤ a2) (n12 : a1 ≠ a2) (hc0 : ¬ (255 : Int32) < c0) (hc1 : ¬ (255 : Int32) < c1) (hc2 : ¬ (255 : Int32) < c2) (hc3 : ¬ (255 : Int32) < c3) (hc4 : ¬ (255 : Int32) < c4) :
  own_Met l y8_ jdk_52_method_21_code 7 (some .int) (R_ 0 0 0 0) #[(.ref a1), (.int (0 : Int32)), (.ref a2), (.int (0 : Int32)), (.int (5 : Int32))] Z h0 (Q_rmcA5 Z a0 a1 a2 k1 d1 c0 c1 c2 c3 c4 k2 h0 n0) := by
 refine own_bd (own := "java/lang/StringUTF16") rfl (plainFor_of_name pn_6) #[rv a1, iv 0, rv a2, iv 0, iv 5, .unset, .unset] ?_
 intro p e s m below meth c s₁ hx hby hq hml hown hnm hlk hrt hZ X0 e0
 refine o_iconst X0 hq 0 d6_0 rfl (o_istore X0 hq d6_1 (l' := #[rv a1, iv 0, rv a2, iv 0, iv 5, iv 0, .unset]) rfl (o_iload X0 hq d6_3 rfl (o_iload X0 hq d6_5 rfl (o_icmpNo X0 hq d6_7 (by decide) (o_aloadN X0 hq d6_10 rfl rfl (o_iloadN X0 hq d6_11 rfl ?_))))))
 obtain ⟨cl_1, Ar_1, qk_1, Sz_1, Ng_1, Hs_1, Gs_1⟩ := id V1
 refine own_st (X0.caload hx (j := (0 : Int32)) (v := (.int c0)) (by rw [e0]; exact Ar_1.1) (State.isArrayOf_alike hZ.alike Ar_1.2.1) Ar_1.2.2 (inb_of Sz_1 ⟨by decide, by decide⟩) (Hs_1.at (j := (0 : Int32)) (inb_of Sz_1 ⟨by decide, by decide⟩) rfl) (g := (mkF m 12 #[rv a1, iv 0, rv a2, iv 0, iv 5, iv 0, .unset] [(.int 0), (.ref a1)])) rfl rfl (hb hby d6_12)) ?_
 show own_Go _ _ _ _ (s₁.setTop (mkF m 13 #[rv a1, iv 0, rv a2, iv 0, iv 5, iv 0, .unset] [(.int c0)]))
 refine o_istore X0 hq d6_13 (l' := #[rv a1, iv 0, rv a2, iv 0, iv 5, iv 0, iv c0]) rfl (o_iload X0 hq d6_15 rfl (o_sipush X0 hq 255 d6_17 rfl (o_icmpYes X0 hq (pc' := 26) d6_20 (flt hc0).2.2.2 (o_aloadN X0 hq d6_26 rfl rfl (o_iloadN X0 hq d6_27 rfl (o_iload X0 hq d6_28 rfl (o_i2b X0 hq d6_30 ?_)))))))
 obtain ⟨cl_2, Ar_2, qk_2, Sz_2, Ng_2, Hs_2, Gs_2⟩ := id V2
 obtain ⟨T_3, h_3, X_3, e_3, W_3, st_3⟩ := stB X0 hx hZ e0 Ar_2 (j := (0 : Int32)) (inb_of Sz_2 ⟨by decide, by decide⟩) (g := (mkF m 31 #[rv a1, iv 0, rv a2, iv 0, iv 5, iv 0, iv c0] [(.int (c0.toInt8.toInt32)), (.int 0), (.ref a2)])) rfl rfl (hb hby d6_31)
 refine own_st st_3 ?_
 have V_3 : Arv Z h_3 a2 k2 .byte (5 : Int32) [(.int ((c0.toInt8.toInt32).toInt8.toInt32)), (.int (0 : Int32)), (.int (0 : Int32)), (.int (0 : Int32)), (.int (0 : Int32))] (.int (0 : Int32)) := Arv.set Ar_2 qk_2 Sz_2 Ng_2 Hs_2 Gs_2 (fits_nar_byte _) W_3 0 rfl (Nat.le_of_ble_eq_true rfl)
 have N_3 := Fr.snoc X_3 (Fr.nil n0) g2
 show own_Go _ _ _ _ (T_3.setTop (mkF m 32 #[rv a1, iv 0, rv a2, iv 0, iv 5, iv 0, iv c0] []))
 refine o_iinc X_3 hq d6_32 rfl (l' := #[rv a1, iv 1, rv a2, iv 0, iv 5, iv 0, iv c0]) rfl (o_iinc X_3 hq d6_35 rfl (l' := #[rv a1, iv 1, rv a2, iv 1, iv 5, iv 0, iv c0]) rfl (o_iinc X_3 hq d6_38 rfl (l' := #[rv a1, iv 1, rv a2, iv 1, iv 5, iv 1, iv c0]) rfl (o_goto X_3 hq (pc' := 3) d6_41 (o_iload X_3 hq d6_3 rfl (o_iload X_3 hq d6_5 rfl (o_icmpNo X_3 hq d6_7 (by decide) (o_aloadN X_3 hq d6_10 rfl rfl (o_iloadN X_3 hq d6_11 rfl ?_))))))))
 have Fa_4 := (V1.other W_3 n12)
 obtain ⟨cl_5, Ar_5, qk_5, Sz_5, Ng_5, Hs_5, Gs_5⟩ := id Fa_4
 refine own_st (X_3.caload hx (j := (1 : Int32)) (v := (.int c1)) (by rw [e_3]; exact Ar_5.1) (State.isArrayOf_alike hZ.alike Ar_5.2.1) Ar_5.2.2 (inb_of Sz_5 ⟨by decide, by decide⟩) (Hs_5.at (j := (1 : Int32)) (inb_of Sz_5 ⟨by decide, by decide⟩) rfl) (g := (mkF m 12 #[rv a1, iv 1, rv a2, iv 1, iv 5, iv 1, iv c0] [(.int 1), (.ref a1)])) rfl rfl (hb hby d6_12)) ?_
 show own_Go _ _ _ _ (T_3.setTop (mkF m 13 #[rv a1, iv 1, rv a2, iv 1, iv 5, iv 1, iv c0] [(.int c1)]))
 refine o_istore X_3 hq d6_13 (l' := #[rv a1, iv 1, rv a2, iv 1, iv 5, iv 1, iv c1]) rfl (o_iload X_3 hq d6_15 rfl (o_sipush X_3 hq 255 d6_17 rfl (o_icmpYes X_3 hq (pc' := 26) d6_20 (flt hc1).2.2.2 (o_aloadN X_3 hq d6_26 rfl rfl (o_iloadN X_3 hq d6_27 rfl (o_iload X_3 hq d6_28 rfl (o_i2b X_3 hq d6_30 ?_)))))))
 obtain ⟨cl_6, Ar_6, qk_6, Sz_6, Ng_6, Hs_6, Gs_6⟩ := id V_3
 obtain ⟨T_7, h_7, X_7, e_7, W_7, st_7⟩ := stB X_3 hx hZ e_3 Ar_6 (j := (1 : Int32)) (inb_of Sz_6 ⟨by decide, by decide⟩) (g := (mkF m 31 #[rv a1, iv 1, rv a2, iv 1, iv 5, iv 1, iv c1] [(.int (c1.toInt8.toInt32)), (.int 1), (.ref a2)])) rfl rfl (hb hby d6_31)
 refine own_st st_7 ?_
 have V_7 : Arv Z h_7 a2 k2 .byte (5 : Int32) [(.int ((c0.toInt8.toInt32).toInt8.toInt32)), (.int ((c1.toInt8.toInt32).toInt8.toInt32)), (.int (0 : Int32)), (.int (0 : Int32)), (.int (0 : Int32))] (.int (0 : Int32)) := Arv.set Ar_6 qk_6 Sz_6 Ng_6 Hs_6 Gs_6 (fits_nar_byte _) W_7 1 rfl (Nat.le_of_ble_eq_true rfl)
 have N_7 := Fr.snoc X_7 N_3 g2
 show own_Go _ _ _ _ (T_7.setTop (mkF m 32 #[rv a1, iv 1, rv a2, iv 1, iv 5, iv 1, iv c1] []))
 refine o_iinc X_7 hq d6_32 rfl (l' := #[rv a1, iv 2, rv a2, iv 1, iv 5, iv 1, iv c1]) rfl (o_iinc X_7 hq d6_35 rfl (l' := #[rv a1, iv 2, rv a2, iv 2, iv 5, iv 1, iv c1]) rfl (o_iinc X_7 hq d6_38 rfl (l' := #[rv a1, iv 2, rv a2, iv 2, iv 5, iv 2, iv c1]) rfl (o_goto X_7 hq (pc' := 3) d6_41 (o_iload X_7 hq d6_3 rfl (o_iload X_7 hq d6_5 rfl (o_icmpNo X_7 hq d6_7 (by decide) (o_aloadN X_7 hq d6_10 rfl rfl (o_iloadN X_7 hq d6_11 rfl ?_))))))))
 have Fa_8 := (Fa_4.other W_7 n12)
 obtain ⟨cl_9, Ar_9, qk_9, Sz_9, Ng_9, Hs_9, Gs_9⟩ := id Fa_8
 refine own_st (X_7.caload hx (j := (2 : Int32)) (v := (.int c2)) (by rw [e_7]; exact Ar_9.1) (State.isArrayOf_alike hZ.alike Ar_9.2.1) Ar_9.2.2 (inb_of Sz_9 ⟨by decide, by decide⟩) (Hs_9.at (j := (2 : Int32)) (inb_of Sz_9 ⟨by decide, by decide⟩) rfl) (g := (mkF m 12 #[rv a1, iv 2, rv a2, iv 2, iv 5, iv 2, iv c1] [(.int 2), (.ref a1)])) rfl rfl (hb hby d6_12)) ?_
 show own_Go _ _ _ _ (T_7.setTop (mkF m 13 #[rv a1, iv 2, rv a2, iv 2, iv 5, iv 2, iv c1] [(.int c2)]))
 refine o_istore X_7 hq d6_13 (l' := #[rv a1, iv 2, rv a2, iv 2, iv 5, iv 2, iv c2]) rfl (o_iload X_7 hq d6_15 rfl (o_sipush X_7 hq 255 d6_17 rfl (o_icmpYes X_7 hq (pc' := 26) d6_20 (flt hc2).2.2.2 (o_aloadN X_7 hq d6_26 rfl rfl (o_iloadN X_7 hq d6_27 rfl (o_iload X_7 hq d6_28 rfl (o_i2b X_7 hq d6_30 ?_)))))))
 obtain ⟨cl_10, Ar_10, qk_10, Sz_10, Ng_10, Hs_10, Gs_10⟩ := id V_7
 obtain ⟨T_11, h_11, X_11, e_11, W_11, st_11⟩ := stB X_7 hx hZ e_7 Ar_10 (j := (2 : Int32)) (inb_of Sz_10 ⟨by decide, by decide⟩) (g := (mkF m 31 #[rv a1, iv 2, rv a2, iv 2, iv 5, iv 2, iv c2] [(.int (c2.toInt8.toInt32)), (.int 2), (.ref a2)])) rfl rfl (hb hby d6_31)
 refine own_st st_11 ?_
 have V_11 : Arv Z h_11 a2 k2 .byte (5 : Int32) [(.int ((c0.toInt8.toInt32).toInt8.toInt32)), (.int ((c1.toInt8.toInt32).toInt8.toInt32)), (.int ((c2.toInt8.toInt32).toInt8.toInt32)), (.int (0 : Int32)), (.int (0 : Int32))] (.int (0 : Int32)) := Arv.set Ar_10 qk_10 Sz_10 Ng_10 Hs_10 Gs_10 (fits_nar_byte _) W_11 2 rfl (Nat.le_of_ble_eq_true rfl)
 have N_11 := Fr.snoc X_11 N_7 g2
 show own_Go _ _ _ _ (T_11.setTop (mkF m 32 #[rv a1, iv 2, rv a2, iv 2, iv 5, iv 2, iv c2] []))
 refine o_iinc X_11 hq d6_32 rfl (l' := #[rv a1, iv 3, rv a2, iv 2, iv 5, iv 2, iv c2]) rfl (o_iinc X_11 hq d6_35 rfl (l' := #[rv a1, iv 3, rv a2, iv 3, iv 5, iv 2, iv c2]) rfl (o_iinc X_11 hq d6_38 rfl (l' := #[rv a1, iv 3, rv a2, iv 3, iv 5, iv 3, iv c2]) rfl (o_goto X_11 hq (pc' := 3) d6_41 (o_iload X_11 hq d6_3 rfl (o_iload X_11 hq d6_5 rfl (o_icmpNo X_11 hq d6_7 (by decide) (o_aloadN X_11 hq d6_10 rfl rfl (o_iloadN X_11 hq d6_11 rfl ?_))))))))
 have Fa_12 := (Fa_8.other W_11 n12)
 obtain ⟨cl_13, Ar_13, qk_13, Sz_13, Ng_13, Hs_13, Gs_13⟩ := id Fa_12
 refine own_st (X_11.caload hx (j := (3 : Int32)) (v := (.int c3)) (by rw [e_11]; exact Ar_13.1) (State.isArrayOf_alike hZ.alike Ar_13.2.1) Ar_13.2.2 (inb_of Sz_13 ⟨by decide, by decide⟩) (Hs_13.at (j := (3 : Int32)) (inb_of Sz_13 ⟨by decide, by decide⟩) rfl) (g := (mkF m 12 #[rv a1, iv 3, rv a2, iv 3, iv 5, iv 3, iv c2] [(.int 3), (.ref a1)])) rfl rfl (hb hby d6_12)) ?_
 show own_Go _ _ _ _ (T_11.setTop (mkF m 13 #[rv a1, iv 3, rv a2, iv 3, iv 5, iv 3, iv c2] [(.int c3)]))
 refine o_istore X_11 hq d6_13 (l' := #[rv a1, iv 3, rv a2, iv 3, iv 5, iv 3, iv c3]) rfl (o_iload X_11 hq d6_15 rfl (o_sipush X_11 hq 255 d6_17 rfl (o_icmpYes X_11 hq (pc' := 26) d6_20 (flt hc3).2.2.2 (o_aloadN X_11 hq d6_26 rfl rfl (o_iloadN X_11 hq d6_27 rfl (o_iload X_11 hq d6_28 rfl (o_i2b X_11 hq d6_30 ?_)))))))
 obtain ⟨cl_14, Ar_14, qk_14, Sz_14, Ng_14, Hs_14, Gs_14⟩ := id V_11
 obtain ⟨T_15, h_15, X_15, e_15, W_15, st_15⟩ := stB X_11 hx hZ e_11 Ar_14 (j := (3 : Int32)) (inb_of Sz_14 ⟨by decide, by decide⟩) (g := (mkF m 31 #[rv a1, iv 3, rv a2, iv 3, iv 5, iv 3, iv c3] [(.int (c3.toInt8.toInt32)), (.int 3), (.ref a2)])) rfl rfl (hb hby d6_31)
 refine own_st st_15 ?_
 have V_15 : Arv Z h_15 a2 k2 .byte (5 : Int32) [(.int ((c0.toInt8.toInt32).toInt8.toInt32)), (.int ((c1.toInt8.toInt32).toInt8.toInt32)), (.int ((c2.toInt8.toInt32).toInt8.toInt32)), (.int ((c3.toInt8.toInt32).toInt8.toInt32)), (.int (0 : Int32))] (.int (0 : Int32)) := Arv.set Ar_14 qk_14 Sz_14 Ng_14 Hs_14 Gs_14 (fits_nar_byte _) W_15 3 rfl (Nat.le_of_ble_eq_true rfl)
 have N_15 := Fr.snoc X_15 N_11 g2
 show own_Go _ _ _ _ (T_15.setTop (mkF m 32 #[rv a1, iv 3, rv a2, iv 3, iv 5, iv 3, iv c3] []))
 refine o_iinc X_15 hq d6_32 rfl (l' := #[rv a1, iv 4, rv a2, iv 3, iv 5, iv 3, iv c3]) rfl (o_iinc X_15 hq d6_35 rfl (l' := #[rv a1, iv 4, rv a2, iv 4, iv 5, iv 3, iv c3]) rfl (o_iinc X_15 hq d6_38 rfl (l' := #[rv a1, iv 4, rv a2, iv 4, iv 5, iv 4, iv c3]) rfl (o_goto X_15 hq (pc' := 3) d6_41 (o_iload X_15 hq d6_3 rfl (o_iload X_15 hq d6_5 rfl (o_icmpNo X_15 hq d6_7 (by decide) (o_aloadN X_15 hq d6_10 rfl rfl (o_iloadN X_15 hq d6_11 rfl ?_))))))))
 have Fa_16 := (Fa_12.other W_15 n12)
 obtain ⟨cl_17, Ar_17, qk_17, Sz_17, Ng_17, Hs_17, Gs_17⟩ := id Fa_16
 refine own_st (X_15.caload hx (j := (4 : Int32)) (v := (.int c4)) (by rw [e_15]; exact Ar_17.1) (State.isArrayOf_alike hZ.alike Ar_17.2.1) Ar_17.2.2 (inb_of Sz_17 ⟨by decide, by decide⟩) (Hs_17.at (j := (4 : Int32)) (inb_of Sz_17 ⟨by decide, by decide⟩) rfl) (g := (mkF m 12 #[rv a1, iv 4, rv a2, iv 4, iv 5, iv 4, iv c3] [(.int 4), (.ref a1)])) rfl rfl (hb hby d6_12)) ?_
 show own_Go _ _ _ _ (T_15.setTop (mkF m 13 #[rv a1, iv 4, rv a2, iv 4, iv 5, iv 4, iv c3] [(.int c4)]))
 refine o_istore X_15 hq d6_13 (l' := #[rv a1, iv 4, rv a2, iv 4, iv 5, iv 4, iv c4]) rfl (o_iload X_15 hq d6_15 rfl (o_sipush X_15 hq 255 d6_17 rfl (o_icmpYes X_15 hq (pc' := 26) d6_20 (flt hc4).2.2.2 (o_aloadN X_15 hq d6_26 rfl rfl (o_iloadN X_15 hq d6_27 rfl (o_iload X_15 hq d6_28 rfl (o_i2b X_15 hq d6_30 ?_)))))))
 obtain ⟨cl_18, Ar_18, qk_18, Sz_18, Ng_18, Hs_18, Gs_18⟩ := id V_15
 obtain ⟨T_19, h_19, X_19, e_19, W_19, st_19⟩ := stB X_15 hx hZ e_15 Ar_18 (j := (4 : Int32)) (inb_of Sz_18 ⟨by decide, by decide⟩) (g := (mkF m 31 #[rv a1, iv 4, rv a2, iv 4, iv 5, iv 4, iv c4] [(.int (c4.toInt8.toInt32)), (.int 4), (.ref a2)])) rfl rfl (hb hby d6_31)
 refine own_st st_19 ?_
 have V_19 : Arv Z h_19 a2 k2 .byte (5 : Int32) [(.int ((c0.toInt8.toInt32).toInt8.toInt32)), (.int ((c1.toInt8.toInt32).toInt8.toInt32)), (.int ((c2.toInt8.toInt32).toInt8.toInt32)), (.int ((c3.toInt8.toInt32).toInt8.toInt32)), (.int ((c4.toInt8.toInt32).toInt8.toInt32))] (.int (0 : Int32)) := Arv.set Ar_18 qk_18 Sz_18 Ng_18 Hs_18 Gs_18 (fits_nar_byte _) W_19 4 rfl (Nat.le_of_ble_eq_true rfl)
 have N_19 := Fr.snoc X_19 N_15 g2
 show own_Go _ _ _ _ (T_19.setTop (mkF m 32 #[rv a1, iv 4, rv a2, iv 4, iv 5, iv 4, iv c4] []))
 refine o_iinc X_19 hq d6_32 rfl (l' := #[rv a1, iv 5, rv a2, iv 4, iv 5, iv 4, iv c4]) rfl (o_iinc X_19 hq d6_35 rfl (l' := #[rv a1, iv 5, rv a2, iv 5, iv 5, iv 4, iv c4]) rfl (o_iinc X_19 hq d6_38 rfl (l' := #[rv a1, iv 5, rv a2, iv 5, iv 5, iv 5, iv c4]) rfl (o_goto X_19 hq (pc' := 3) d6_41 (o_iload X_19 hq d6_3 rfl (o_iload X_19 hq d6_5 rfl (o_icmpYes X_19 hq (pc' := 44) d6_7 (by decide) (o_iload X_19 hq d6_44 rfl ?_)))))))
 have Kp_20 : Keep h0 h_19 [a2] := ((((((Keep.refl h0 [a2]).wr W_3 (Or.inl (List.mem_of_getElem? (i := 0) rfl))).wr W_7 (Or.inl (List.mem_of_getElem? (i := 0) rfl))).wr W_11 (Or.inl (List.mem_of_getElem? (i := 0) rfl))).wr W_15 (Or.inl (List.mem_of_getElem? (i := 0) rfl))).wr W_19 (Or.inl (List.mem_of_getElem? (i := 0) rfl)))
 exact e_I X_19 e_19 hq hlk hrt d6_46 ⟨rfl, N_19, Kp_20, V_19⟩
def Q_rmcB5 (Z : State) (a0 : Array Value) (a1 : Addr) (k1 : ClassId) (d1 : Value) (c0 c1 c2 c3 c4 : Int32) (h0 : Heap) (n0 : Nat) (v : Option Value) (h : Heap) (L : List Loc) : Prop := ∃ b : Addr, ∃ kb : ClassId, v = some (.ref b) ∧ Fr n0 L ∧ Keep h0 h [] ∧ n0 ≤ b ∧ h0.size ≤ b ∧ Arv Z h b kb .byte (5 : Int32) [(.int ((c0.toInt8.toInt32).toInt8.toInt32)), (.int ((c1.toInt8.toInt32).toInt8.toInt32)), (.int ((c2.toInt8.toInt32).toInt8.toInt32)), (.int ((c3.toInt8.toInt32).toInt8.toInt32)), (.int ((c4.toInt8.toInt32).toInt8.toInt32))] (.int (0 : Int32))
theorem rmcB5 (hw : HW a0 Z) (a1 : Addr) (k1 : ClassId) (d1 : Value) (c0 c1 c2 c3 c4 : Int32) (h0 : Heap) (n0 : Nat) (Z0 : n0 ≤ h0.size) (V1 : Arv Z h0 a1 k1 .char (5 : Int32) [(.int c0), (.int c1), (.int c2), (.int c3), (.int c4)] d1) (hc0 : ¬ (255 : Int32) < c0) (hc1 : ¬ (255 : Int32) < c1) (hc2 : ¬ (255 : Int32) < c2) (hc3 : ¬ (255 : Int32) < c3) (hc4 : ¬ (255 : Int32) < c4) :
  own_Met l y9_ jdk_52_method_16_code 6 (some (.array .byte)) (R_ 1 1 5 18) #[(.ref a1), (.int (0 : Int32)), (.int (5 : Int32))] Z h0 (Q_rmcB5 Z a0 a1 k1 d1 c0 c1 c2 c3 c4 h0 n0) := by
 refine own_bd (own := "java/lang/StringUTF16") rfl (plainFor_of_name pn_6) #[rv a1, iv 0, iv 5, .unset, .unset, .unset] ?_
 intro p e s m below meth c s₁ hx hby hq hml hown hnm hlk hrt hZ X0 e0
 refine o_iloadN X0 hq d5_0 rfl ?_
 obtain ⟨T_1, h_1, k_1, X_1, e_1, E_1, A_1, st_1⟩ := newP X0 hx hZ (w_ hw 24 rfl) e0 (g := (mkF m 1 #[rv a1, iv 0, iv 5, .unset, .unset, .unset] [(.int 5)])) rfl (hb hby d5_1) rfl (by decide) (cap := 5) (by decide) (by decide) (by decide) (by decide)
 obtain ⟨b_1, g_1⟩ : ∃ z, z = h0.size := ⟨_, rfl⟩
 rw [← g_1] at A_1 st_1
 have V_1 : Arv Z h_1 b_1 k_1 .byte (5 : Int32) [(.int (0 : Int32)), (.int (0 : Int32)), (.int (0 : Int32)), (.int (0 : Int32)), (.int (0 : Int32))] (.int (0 : Int32)) := (Arv.new A_1 (by decide)).pad (pad_rep [] (.int (0 : Int32)) 5)
 have gg_1 : n0 ≤ b_1 := Nat.le_trans Z0 (Nat.le_of_eq g_1.symm)
 have sz_1 : h0.size ≤ b_1 := Nat.le_trans (Keep.refl h0 []).1 (Nat.le_of_eq g_1.symm)
 refine own_st st_1 ?_
 show own_Go _ _ _ _ (T_1.setTop (mkF m 3 #[rv a1, iv 0, iv 5, .unset, .unset, .unset] [(.ref b_1)]))
 refine o_astoreN X_1 hq d5_3 rfl (l' := #[rv a1, iv 0, iv 5, rv b_1, .unset, .unset]) rfl (o_aloadN X_1 hq d5_4 rfl rfl (o_iloadN X_1 hq d5_5 rfl (o_aloadN X_1 hq d5_6 rfl rfl (o_iconst X_1 hq 0 d5_7 rfl (o_iloadN X_1 hq d5_8 rfl ?_)))))
 have Fa_3 := (V1.ext E_1)
 have Zs_4 : n0 ≤ h_1.size := (Nat.le_trans Z0 E_1.1)
 refine c_S5 X_1 hq e_1 hZ hown hml (k5_115 hw) (rmcA5 hw a1 b_1 k1 d1 c0 c1 c2 c3 c4 k_1 h_1 n0 Zs_4 Fa_3 V_1 gg_1 (Nat.ne_of_lt (Nat.lt_of_lt_of_le V1.lt (Nat.le_of_eq g_1.symm))) hc0 hc1 hc2 hc3 hc4) d5_9 ?_ 0
 rintro T_2 L_2 _ X_2 ⟨⟨⟩, Nq_2, K_2, Fq_2_0⟩
 have N_2 := Fr.app (Fr.nil n0) Nq_2
 refine o_istore X_2 hq d5_12 (l' := #[rv a1, iv 0, iv 5, rv b_1, iv 5, .unset]) rfl (o_iload X_2 hq d5_14 rfl (o_iloadN X_2 hq d5_16 rfl (o_icmpYes X_2 hq (pc' := 57) d5_17 (by decide) (o_aloadN X_2 hq d5_57 rfl rfl ?_))))
 have Kp_5 : Keep h0 T_2.heap [] := (((Keep.refl h0 []).ext E_1).trans K_2 (allS (Or.inr sz_1) all0))
 exact e_R X_2 rfl hq hlk rfl rfl hrt d5_58 ⟨b_1, k_1, rfl, N_2, Kp_5, gg_1, sz_1, Fq_2_0⟩
def Q_rmcl5 (Z : State) (a0 : Array Value) (a1 : Addr) (k1 : ClassId) (vs : List Value) (d1 : Value) (h0 : Heap) (n0 : Nat) (v : Option Value) (h : Heap) (L : List Loc) : Prop := v = some (.int (0 : Int32)) ∧ Fr n0 L ∧ h = h0
theorem rmcl5 (hw : HW a0 Z) (a1 : Addr) (k1 : ClassId) (vs : List Value) (d1 : Value) (h0 : Heap) (n0 : Nat) (Z0 : n0 ≤ h0.size) (V1 : Arv Z h0 a1 k1 .byte (5 : Int32) vs d1) :
  own_Met l y10_ jdk_52_method_15_code 2 (some .byte) (R_ 0 0 0 0) #[(.ref a1), (.int (5 : Int32))] Z h0 (Q_rmcl5 Z a0 a1 k1 vs d1 h0 n0) := by
 refine own_bd (own := "java/lang/StringUTF16") rfl (plainFor_of_name pn_6) #[rv a1, iv 5] ?_
 intro p e s m below meth c s₁ hx hby hq hml hown hnm hlk hrt hZ X0 e0
 refine o_iloadN X0 hq d7_0 rfl (o_aloadN X0 hq d7_1 rfl rfl ?_)
 obtain ⟨cl_1, Ar_1, qk_1, Sz_1, Ng_1, Hs_1, Gs_1⟩ := id V1
 refine own_st (X0.arraylength hx (by rw [e0]; exact Ar_1.1) (State.isArrayOf_alike hZ.alike Ar_1.2.1) (g := (mkF m 2 #[rv a1, iv 5] [(.ref a1), (.int 5)])) rfl rfl (hb hby d7_2)) ?_
 rw [len_of Sz_1 Ng_1]
 show own_Go _ _ _ _ (s₁.setTop (mkF m 3 #[rv a1, iv 5] [(.int 5), (.int 5)]))
 refine o_isub X0 hq d7_3 ?_
 show own_Go _ _ _ _ (s₁.setTop (mkF m 4 #[rv a1, iv 5] [(.int 0)]))
 refine o_bipush X0 hq 31 d7_4 rfl (o_iushr X0 hq d7_6 ?_)
 show own_Go _ _ _ _ (s₁.setTop (mkF m 7 #[rv a1, iv 5] [(.int 0)]))
 refine o_i2b X0 hq d7_7 ?_
 show own_Go _ _ _ _ (s₁.setTop (mkF m 8 #[rv a1, iv 5] [(.int 0)]))
 exact e_B X0 e0 hq hlk hrt d7_8 ⟨rfl, (Fr.nil n0), rfl⟩
def Q_rmiB5 (Z : State) (a0 : Array Value) (a1 a2 : Addr) (k1 : ClassId) (d1 : Value) (w c0 c1 c2 c3 c4 : Int32) (h0 : Heap) (n0 : Nat) (v : Option Value) (h : Heap) (L : List Loc) : Prop := ∃ b : Addr, ∃ kb : ClassId, v = none ∧ Fr n0 L ∧ Keep h0 h [a1] ∧ n0 ≤ b ∧ h0.size ≤ b ∧ Fld Z h a1 "java/lang/String" "value" "[B" (.ref b) ∧ Fld Z h a1 "java/lang/String" "coder" "B" (.int (0 : Int32)) ∧ Arv Z h b kb .byte (5 : Int32) [(.int ((c0.toInt8.toInt32).toInt8.toInt32)), (.int ((c1.toInt8.toInt32).toInt8.toInt32)), (.int ((c2.toInt8.toInt32).toInt8.toInt32)), (.int ((c3.toInt8.toInt32).toInt8.toInt32)), (.int ((c4.toInt8.toInt32).toInt8.toInt32))] (.int (0 : Int32))
theorem rmiB5 (hw : HW a0 Z) (a1 a2 : Addr) (k1 : ClassId) (d1 : Value) (w c0 c1 c2 c3 c4 : Int32) (h0 : Heap) (n0 : Nat) (Z0 : n0 ≤ h0.size) (E1 : Exa Z h0 a1 "java/lang/String") (g1 : n0 ≤ a1) (F1 : Fld Z h0 a1 "java/lang/String" "value" "[B" .null) (F2 : Fld Z h0 a1 "java/lang/String" "coder" "B" (.int (0 : Int32))) (V1 : Arv Z h0 a2 k1 .char (5 : Int32) [(.int c0), (.int c1), (.int c2), (.int c3), (.int c4)] d1) (hc0 : ¬ (255 : Int32) < c0) (hc1 : ¬ (255 : Int32) < c1) (hc2 : ¬ (255 : Int32) < c2) (hc3 : ¬ (255 : Int32) < c3) (hc4 : ¬ (255 : Int32) < c4) (S1 : Sta Z h0 "java/lang/String" "COMPACT_STRINGS" "Z" (.int w)) (hw0 : ¬ w = (0 : Int32)) :
  own_Met l y4_ jdk_42_method_149_code 6 none (R_ 2 1 5 35) #[(.ref a1), (.ref a2), (.int (0 : Int32)), (.int (5 : Int32)), .null] Z h0 (Q_rmiB5 Z a0 a1 a2 k1 d1 w c0 c1 c2 c3 c4 h0 n0) := by
 refine own_bd (own := "java/lang/String") rfl (plainFor_of_name pn_3) #[rv a1, rv a2, iv 0, iv 5, .val .null, .unset] ?_
 intro p e s m below meth c s₁ hx hby hq hml hown hnm hlk hrt hZ X0 e0
 refine o_aloadN X0 hq d3_0 rfl rfl ?_
 obtain ⟨T_1, X_1, e_1, st_1⟩ := initO X0 hx hZ hown (w_ hw 16 rfl) (w_ hw 17 rfl) (w_ hw 18 rfl) e0 (g := (mkF m 1 #[rv a1, rv a2, iv 0, iv 5, .val .null, .unset] [(.ref a1)])) rfl (by rw [hml]; rfl) rfl (hb hby d3_1) (by decide) (W := 0) (z_ rfl) (by decide)
 refine own_st st_1 ?_
 show own_Go _ _ _ _ (T_1.setTop (mkF m 4 #[rv a1, rv a2, iv 0, iv 5, .val .null, .unset] []))
 refine o_iloadN X_1 hq d3_4 rfl (o_ifYes X_1 hq (pc' := 27) d3_5 (by decide) ?_)
 obtain ⟨T_2, X_2, e_2, st_2⟩ := getS2 X_1 hx hZ hown (host := "") (Or.inl (w_ hw 19 rfl)) Via.refl e_1 S1 (g := (mkF m 27 #[rv a1, rv a2, iv 0, iv 5, .val .null, .unset] [])) rfl (hb hby d3_27)
 refine own_st st_2 ?_
 show own_Go _ _ _ _ (T_2.setTop (mkF m 30 #[rv a1, rv a2, iv 0, iv 5, .val .null, .unset] [(.int w)]))
 refine o_ifNo X_2 hq d3_30 (feq hw0).1 (o_aloadN X_2 hq d3_33 rfl rfl (o_iloadN X_2 hq d3_34 rfl (o_iloadN X_2 hq d3_35 rfl ?_)))
 refine c_S3 X_2 hq e_2 hZ hown hml (k3_177 hw) (rmcB5 hw a2 k1 d1 c0 c1 c2 c3 c4 h0 n0 Z0 V1 hc0 hc1 hc2 hc3 hc4) d3_36 ?_ 0
 rintro T_3 L_3 _ X_3 ⟨b__3, kb__3, ⟨⟩, Nq_3, K_3, gq_3_b, sq_3_b, Fq_3_0⟩
 have N_3 := Fr.app (Fr.nil n0) Nq_3
 have szq_3_b : h0.size ≤ b__3 := Nat.le_trans (Keep.refl h0 [a1]).1 sq_3_b
 refine o_astore X_3 hq d3_39 rfl (l' := #[rv a1, rv a2, iv 0, iv 5, .val .null, rv b__3]) rfl (o_aloadN X_3 hq d3_41 rfl rfl (o_aload X_3 hq d3_42 rfl rfl (o_iloadN X_3 hq d3_44 rfl ?_)))
 have Zs_5 : n0 ≤ T_3.heap.size := (Nat.le_trans Z0 K_3.1)
 refine c_S2 X_3 hq rfl hZ hown hml (k3_47 hw) (rmcl5 hw b__3 kb__3 [(.int ((c0.toInt8.toInt32).toInt8.toInt32)), (.int ((c1.toInt8.toInt32).toInt8.toInt32)), (.int ((c2.toInt8.toInt32).toInt8.toInt32)), (.int ((c3.toInt8.toInt32).toInt8.toInt32)), (.int ((c4.toInt8.toInt32).toInt8.toInt32))] (.int (0 : Int32)) T_3.heap n0 Zs_5 Fq_3_0) d3_45 ?_ 1
 rintro T_4 L_4 _ X_4 ⟨⟨⟩, Nq_4, e_4⟩
 have N_4 := Fr.app N_3 Nq_4
 have Fa_6 := (F2.keep K_3 nin0)
 have Fa_7 := (E1.keep K_3)
 obtain ⟨T_8, h_8, X_8, e_8, W_8, st_8⟩ := putFN X_4 hx hZ hown (w_ hw 31 rfl) Via.refl e_4 Fa_6 Fa_7 (Or.inr ⟨(w_ hw 32 rfl), rfl, hnm⟩) (w_ hw 7 rfl) (ty := .byte) (v' := (.int (0 : Int32))) (by decide) rfl (by decide) (g := (mkF m 48 #[rv a1, rv a2, iv 0, iv 5, .val .null, rv b__3] [(.int 0), (.ref a1)])) rfl rfl (hb hby d3_48)
 refine own_st st_8 ?_
 have N_8 := Fr.snoc X_8 N_4 g1
 show own_Go _ _ _ _ (T_8.setTop (mkF m 51 #[rv a1, rv a2, iv 0, iv 5, .val .null, rv b__3] []))
 refine o_aloadN X_8 hq d3_51 rfl rfl (o_aload X_8 hq d3_52 rfl rfl ?_)
 have Fa_9 := ((F1.keep K_3 nin0).other W_8 (Or.inr (slot_ne (Or.inr (w_ hw 34 rfl)) (Or.inr (w_ hw 32 rfl)) (by decide) (t := (.array .byte)) (t' := .byte) (by decide) (by decide))))
 have Fa_10 := (Fa_7.wr W_8)
 obtain ⟨T_11, h_11, X_11, e_11, W_11, st_11⟩ := putF X_8 hx hZ hown (host := "") (Or.inl (w_ hw 33 rfl)) Via.refl e_8 Fa_9 Fa_10 (Or.inr ⟨(w_ hw 34 rfl), rfl, hnm⟩) (w_ hw 7 rfl) (ty := (.array .byte)) (by decide) rfl rfl (g := (mkF m 54 #[rv a1, rv a2, iv 0, iv 5, .val .null, rv b__3] [(.ref b__3), (.ref a1)])) rfl rfl (hb hby d3_54)
 refine own_st st_11 ?_
 have N_11 := Fr.snoc X_11 N_8 g1
 show own_Go _ _ _ _ (T_11.setTop (mkF m 57 #[rv a1, rv a2, iv 0, iv 5, .val .null, rv b__3] []))
 have Kp_12 : Keep h0 h_11 [a1] := ((((Keep.refl h0 [a1]).trans K_3 all0).wr W_8 (Or.inl (List.mem_of_getElem? (i := 0) rfl))).wr W_11 (Or.inl (List.mem_of_getElem? (i := 0) rfl)))
 have Fa_13 := (Fa_9.same W_11)
 have Fa_14 := ((Fa_6.same W_8).other W_11 (Or.inr (slot_ne (Or.inr (w_ hw 32 rfl)) (Or.inr (w_ hw 34 rfl)) (by decide) (t := .byte) (t' := (.array .byte)) (by decide) (by decide))))
 have Fa_15 := ((Fq_3_0.other W_8 (Ne.symm (Nat.ne_of_lt (Nat.lt_of_lt_of_le F2.lt sq_3_b)))).other W_11 (Ne.symm (Nat.ne_of_lt (Nat.lt_of_lt_of_le F2.lt sq_3_b))))
 exact e_V X_11 e_11 hq hlk hrt d3_57 ⟨b__3, kb__3, rfl, N_11, Kp_12, gq_3_b, szq_3_b, Fa_13, Fa_14, Fa_15⟩
def Q_rmiA5 (Z : State) (a0 : Array Value) (a1 a2 : Addr) (k1 : ClassId) (d1 : Value) (w c0 c1 c2 c3 c4 : Int32) (h0 : Heap) (n0 : Nat) (v : Option Value) (h : Heap) (L : List Loc) : Prop := ∃ b : Addr, ∃ kb : ClassId, v = none ∧ Fr n0 L ∧ Keep h0 h [a1] ∧ n0 ≤ b ∧ h0.size ≤ b ∧ Fld Z h a1 "java/lang/String" "value" "[B" (.ref b) ∧ Fld Z h a1 "java/lang/String" "coder" "B" (.int (0 : Int32)) ∧ Arv Z h b kb .byte (5 : Int32) [(.int ((c0.toInt8.toInt32).toInt8.toInt32)), (.int ((c1.toInt8.toInt32).toInt8.toInt32)), (.int ((c2.toInt8.toInt32).toInt8.toInt32)), (.int ((c3.toInt8.toInt32).toInt8.toInt32)), (.int ((c4.toInt8.toInt32).toInt8.toInt32))] (.int (0 : Int32))
theorem rmiA5 (hw : HW a0 Z) (a1 a2 : Addr) (k1 : ClassId) (d1 : Value) (w c0 c1 c2 c3 c4 : Int32) (h0 : Heap) (n0 : Nat) (Z0 : n0 ≤ h0.size) (E1 : Exa Z h0 a1 "java/lang/String") (g1 : n0 ≤ a1) (F1 : Fld Z h0 a1 "java/lang/String" "value" "[B" .null) (F2 : Fld Z h0 a1 "java/lang/String" "coder" "B" (.int (0 : Int32))) (V1 : Arv Z h0 a2 k1 .char (5 : Int32) [(.int c0), (.int c1), (.int c2), (.int c3), (.int c4)] d1) (hc0 : ¬ (255 : Int32) < c0) (hc1 : ¬ (255 : Int32) < c1) (hc2 : ¬ (255 : Int32) < c2) (hc3 : ¬ (255 : Int32) < c3) (hc4 : ¬ (255 : Int32) < c4) (S1 : Sta Z h0 "java/lang/String" "COMPACT_STRINGS" "Z" (.int w)) (hw0 : ¬ w = (0 : Int32)) :
  own_Met l y5_ jdk_42_method_3_code 2 none (R_ 3 1 5 52) #[(.ref a1), (.ref a2)] Z h0 (Q_rmiA5 Z a0 a1 a2 k1 d1 w c0 c1 c2 c3 c4 h0 n0) := by
 refine own_bd (own := "java/lang/String") rfl (plainFor_of_name pn_3) #[rv a1, rv a2] ?_
 intro p e s m below meth c s₁ hx hby hq hml hown hnm hlk hrt hZ X0 e0
 refine o_aloadN X0 hq d2_0 rfl rfl (o_aloadN X0 hq d2_1 rfl rfl (o_iconst X0 hq 0 d2_2 rfl (o_aloadN X0 hq d2_3 rfl rfl ?_)))
 obtain ⟨cl_1, Ar_1, qk_1, Sz_1, Ng_1, Hs_1, Gs_1⟩ := id V1
 refine own_st (X0.arraylength hx (by rw [e0]; exact Ar_1.1) (State.isArrayOf_alike hZ.alike Ar_1.2.1) (g := (mkF m 4 #[rv a1, rv a2] [(.ref a2), (.int 0), (.ref a2), (.ref a1)])) rfl rfl (hb hby d2_4)) ?_
 rw [len_of Sz_1 Ng_1]
 show own_Go _ _ _ _ (s₁.setTop (mkF m 5 #[rv a1, rv a2] [(.int 5), (.int 0), (.ref a2), (.ref a1)]))
 refine o_aconstNull X0 hq d2_5 ?_
 refine c_I4v X0 hq e0 hZ hown hml (k2_27 hw) (rmiB5 hw a1 a2 k1 d1 w c0 c1 c2 c3 c4 h0 n0 Z0 E1 g1 F1 F2 V1 hc0 hc1 hc2 hc3 hc4 S1 hw0) d2_6 ?_ 0
 rintro T_2 L_2 X_2 ⟨b__2, kb__2, -, Nq_2, K_2, gq_2_b, sq_2_b, Fq_2_0, Fq_2_1, Fq_2_2⟩
 have N_2 := Fr.app (Fr.nil n0) Nq_2
 have szq_2_b : h0.size ≤ b__2 := Nat.le_trans (Keep.refl h0 [a1]).1 sq_2_b
 have Kp_3 : Keep h0 T_2.heap [a1] := ((Keep.refl h0 [a1]).trans K_2 (allS (Or.inl (List.mem_of_getElem? (i := 0) rfl)) all0))
 exact e_V X_2 rfl hq hlk hrt d2_9 ⟨b__2, kb__2, rfl, N_2, Kp_3, gq_2_b, szq_2_b, Fq_2_0, Fq_2_1, Fq_2_2⟩
theorem own_safe_null {Z : State} {EL : List (String × Nat)} {vm : Vm} {h : Heap} {x : Addr} (hal : Z.vm.Alike vm) (E : Exa Z h x "java/lang/String") (F : Fld Z h x "java/lang/String" "value" "[B" .null) (wi : ∃ a0 n, (Cond.instantiable "java/lang/String" n).before a0 Z = true) : Safe Z EL vm h x := fun B => by
 obtain ⟨cell, cf, k, i, f, h1, h2, h3, h4, h5, h6, h7⟩ := F
 obtain ⟨cell', kE, e1, e2, e3, e4, -⟩ := E
 cases h1.symm.trans e1
 obtain ⟨p, -, u, a, -, q, -, G, rfl | rfl⟩ := B
 ·obtain ⟨cS, ⟨⟨g1, -, -, ⟨c1, k1, i1, f1, -⟩, -, -, -, v1, -⟩, -⟩, -⟩ := G
  cases (show h[q.sa]? = some q.sC from g1).symm.trans h1
  obtain ⟨k3, e5, -⟩ := State.fieldFound?_setVm (s := Z) hal h2
  have e6 := (show (Wst Z vm h).fieldFound? "java/lang/String" "value" "[B" = _ from e5).symm.trans f1
  simp only [Option.some.injEq, Prod.mk.injEq] at e6
  rw [← e6.2.2.2, h7] at v1
  simp at v1
 ·obtain ⟨cS, ⟨⟨-, -, -, -, -, -, -, -, -, g10, ⟨-, kA, hkA, compA, hkindA⟩, -⟩, -⟩, -⟩ := G
  cases (show h[q.sd]? = some q.SA from g10).symm.trans h1
  obtain ⟨a0, n, wi⟩ := wi
  obtain ⟨cI, kI, i1, i2, i3, -⟩ := Cond.instantiable_spec wi
  cases e2.symm.trans i1
  obtain ⟨k', q1, q2⟩ := hal.2.2 _ _ i2
  cases (show vm.classes[q.SA.cls]? = some kA from hkA).symm.trans q1
  rw [q2] at hkindA
  exact absurd (hkindA.symm.trans i3) (by simp)
theorem own_endC {p : Program} {l : Launch} {e : Env} {R : Room} {s : State} {m : MethodId} {args : Array Value} {below : List Frame} {meth : Method} {c : Code} {T : State} {locs : List Loc} {cells slots : Nat} {vm₁ : Vm} (X : Stand p l e R (s.setVm vm₁) m args below meth c T locs cells slots) {n : Nat} (hS : s.Since vm₁ n) {h : Heap} (eT : T.heap = h) (hn : n ≤ h.size) {v : Option Value} (hv : meth.sig.returnType = none → v = none) (hlk : meth.locks = false) {g : JFrame}
  (hst : ∀ fs, (∀ (f : JFrame) (acts : List Action), f.method = m → f.locked = none → f.entered = [] → (doReturn e (T.setTop f) acts v).1 = T.setFrames fs) → Steps p.tables e below (T.setTop g) (T.setFrames fs))
  {Z : State} {a0 : Array Value} {EL : List (String × Nat)} (hZ : Z.Warmed39 vm₁) (hEL : EW Z a0 EL) (Cr : CHr Z EL s.vm s.heap vm₁ h)
  {Q : Option Value → Heap → List Loc → Prop} (hQ : Q v h locs) {cc ss : Nat} (hc : cells ≤ cc) (hs : slots ≤ ss) :
  own_Go p.tables e below (fun o U' => ∃ v L, o = .returned v ∧ Q v U'.heap L ∧ CHr Z EL s.vm s.heap U'.vm U'.heap ∧ ReturnedEndW s o U' L cc ss) (T.setTop g) := by
 subst eT
 obtain ⟨fs, hr, hrun, hended, hq⟩ := X.leaveW hS hn (v := v) hv hlk
 have Ct : CHr Z EL s.vm s.heap T.vm T.heap := Cr.trans (CHv.at X hZ hEL Cr.1)
 exact ⟨_, _, hst fs hr, hrun, hended, _, _, rfl, hQ, (show CHr Z EL s.vm s.heap (T.setFrames fs).vm (T.setFrames fs).heap from Ct), hq.1, hq.2.1, hq.2.2.1, hq.2.2.2.mono hc hs⟩
theorem own_endW {p : Program} {l : Launch} {e : Env} {R : Room} {s : State} {m : MethodId} {args : Array Value} {below : List Frame} {meth : Method} {c : Code} {T : State} {locs : List Loc} {cells slots : Nat} {vm₁ : Vm} (X : Stand p l e R (s.setVm vm₁) m args below meth c T locs cells slots) {n : Nat} (hS : s.Since vm₁ n) {h : Heap} (eT : T.heap = h) (hn : n ≤ h.size) {v : Option Value} (hv : meth.sig.returnType = none → v = none) (hlk : meth.locks = false) {g : JFrame}
  (hst : ∀ fs, (∀ (f : JFrame) (acts : List Action), f.method = m → f.locked = none → f.entered = [] → (doReturn e (T.setTop f) acts v).1 = T.setFrames fs) → Steps p.tables e below (T.setTop g) (T.setFrames fs))
  {Q : Option Value → Heap → List Loc → Prop} (hQ : Q v h locs) {cc ss : Nat} (hc : cells ≤ cc) (hs : slots ≤ ss) :
  own_Go p.tables e below (fun o U' => ∃ v L, o = .returned v ∧ Q v U'.heap L ∧ ReturnedEndW s o U' L cc ss) (T.setTop g) := by
 subst eT
 obtain ⟨fs, hr, hrun, hended, hq⟩ := X.leaveW hS hn (v := v) hv hlk
 exact ⟨_, _, hst fs hr, hrun, hended, _, _, rfl, hQ, hq.1, hq.2.1, hq.2.2.1, hq.2.2.2.mono hc hs⟩

theorem own_EW {Z : State} {a0 : Array Value} (hw : HW a0 Z) : EW Z a0 consts_1 := EW.cons (text := "") (w_ hw 110 rfl) (by decide) EW.nil
theorem own_atoms {Z : State} {a0 : Array Value} (hw : HW a0 Z) : ∀ a ∈ Bundle.stringAtoms, a.before a0 Z = true := fun a => (fun ha => (List.mem_cons.mp ha).elim (fun e => e ▸ (w_ hw 8 rfl)) (fun ha => (List.mem_cons.mp ha).elim (fun e => e ▸ (w_ hw 7 rfl)) (fun ha => (List.mem_cons.mp ha).elim (fun e => e ▸ (w_ hw 24 rfl)) (fun ha => (List.mem_cons.mp ha).elim (fun e => e ▸ (w_ hw 34 rfl)) (fun ha => (List.mem_cons.mp ha).elim (fun e => e ▸ (w_ hw 32 rfl)) (fun ha => (List.mem_cons.mp ha).elim (fun e => e ▸ (w_ hw 111 rfl)) (fun ha => (List.mem_cons.mp ha).elim (fun e => e ▸ (w_ hw 112 rfl)) (fun ha => nomatch ha))))))))
theorem d3_8 : D3 8 = .ok (.aload_n 0, 1) := by decide +kernel
theorem d3_9 : D3 9 = .ok (.ldc 7, 2) := by decide +kernel
theorem d3_11 : D3 11 = .ok (.getfield 9, 3) := by decide +kernel
theorem d3_14 : D3 14 = .ok (.putfield 9, 3) := by decide +kernel
theorem d3_17 : D3 17 = .ok (.aload_n 0, 1) := by decide +kernel
theorem d3_18 : D3 18 = .ok (.ldc 7, 2) := by decide +kernel
theorem d3_20 : D3 20 = .ok (.getfield 15, 3) := by decide +kernel
theorem d3_23 : D3 23 = .ok (.putfield 15, 3) := by decide +kernel
theorem d3_26 : D3 26 = .ok (.return_, 1) := by decide +kernel
theorem ef_rmiB0 (m : MethodId) (a1 a2 : Addr) : entryFrame m #[(.ref a1), (.ref a2), (.int (0 : Int32)), (.int (0 : Int32)), .null] 6 = mkF m 0 #[rv a1, rv a2, iv 0, iv 0, .val .null, .unset] [] := by first | (simp [entryFrame, mkF, argsToLocals, Value.category]; done) | rfl
def Q_rmiB0 (Z : State) (a0 : Array Value) (a1 a2 : Addr) (h0 : Heap) (n0 : Nat) (v : Option Value) (h : Heap) (L : List Loc) : Prop := ∃ b : Addr, ∃ kb : ClassId, v = none ∧ Fr n0 L ∧ Keep h0 h [a1] ∧ Fld Z h a1 "java/lang/String" "value" "[B" (.ref b) ∧ Fld Z h a1 "java/lang/String" "coder" "B" (.int (0 : Int32)) ∧ Arv Z h b kb .byte (0 : Int32) [] (.int (0 : Int32)) ∧ b ≠ a1
theorem rmiB0 (l : Launch) (Z : State) (a0 : Array Value) (hw : HW a0 Z) (ws : List Jvm.Cond) (a1 a2 : Addr) (h0 : Heap) (n0 : Nat) (Z0 : n0 ≤ h0.size) (E1 : Exa Z h0 a1 "java/lang/String") (g1 : n0 ≤ a1) (F1 : Fld Z h0 a1 "java/lang/String" "value" "[B" .null) (F2 : Fld Z h0 a1 "java/lang/String" "coder" "B" (.int (0 : Int32))) :
  MetFree l y4_ (head1 (Jvm.Cond.code y4_ jdk_42_method_149_code 6 none :: ws) (R_ 1 4 8 12)) (fun a U => a = #[(.ref a1), (.ref a2), (.int (0 : Int32)), (.int (0 : Int32)), .null] ∧ Z.Warmed39 U.vm ∧ U.heap = h0 ∧ CHv Z consts_1 U.vm h0) (fun _ _ _ _ _ => True) (fun _ U o U' => ∃ v L, o = .returned v ∧ Q_rmiB0 Z a0 a1 a2 h0 n0 v U'.heap L ∧ CHr Z consts_1 U.vm U.heap U'.vm U'.heap ∧ ReturnedEndW U o U' L (R_ 1 4 8 12).cells (R_ 1 4 8 12).slots) := by
 refine MetFree.of_bodySF (plainFor_of_name pn_3) hisR ?_
 intro p e s m args below meth c s₁ Bd hml0 hP hK
 obtain ⟨rfl, hZ, hh, hC0⟩ := hP
 have hx := Bd.exec
 have hby := Bd.bytes
 have hml : c.maxLocals = 6 := hml0
 have hown : s.vm.findClass "java/lang/String" = some m.cls := findClass_of_methodNamed Bd.named
 have hnm := (name_of_methodNamed Bd.named Bd.method).1
 have hlk : meth.locks = false := BodyLoose.notSynchronized (by assumption)
 have X0 : Stand p l e (R_ 1 4 8 12) (s.setVm s.vm) m #[(.ref a1), (.ref a2), (.int (0 : Int32)), (.int (0 : Int32)), .null] below meth c s₁ [] 0 0 := Stand.of_body Bd
 have e0 : s₁.heap = h0 := by rw [← hh, Bd.state]; rfl
 have N0 := Fr.nil n0
 have hq := And.intro hx hby
 have hrt := Bd.returns
 show own_Go p.tables e below (fun o U' => ∃ v L, o = .returned v ∧ Q_rmiB0 Z a0 a1 a2 h0 n0 v U'.heap L ∧ CHr Z consts_1 s.vm s.heap U'.vm U'.heap ∧ ReturnedEndW s o U' L (R_ 1 4 8 12).cells (R_ 1 4 8 12).slots) (s₁.setTop (entryFrame m #[(.ref a1), (.ref a2), (.int (0 : Int32)), (.int (0 : Int32)), .null] 6))
 refine own_st (fun t k => castTop (ef_rmiB0 m a1 a2) k) ?_
 have hEL : EW Z a0 consts_1 := own_EW hw
 have hS0 : s.Since s.vm h0.size := (State.WarmedH.refl s).since _
 have Cr0 : CHr Z consts_1 s.vm s.heap s.vm h0 := by rw [hh]; exact CHr.refl hC0
 show own_Go _ _ _ _ (s₁.setTop (mkF m 0 #[rv a1, rv a2, iv 0, iv 0, .val .null, .unset] []))
 refine o_aloadN X0 hq d3_0 rfl rfl ?_
 obtain ⟨T_1, X_1, e_1, st_1⟩ := initO X0 hx hZ hown (w_ hw 16 rfl) (w_ hw 17 rfl) (w_ hw 18 rfl) e0 (g := (mkF m 1 #[rv a1, rv a2, iv 0, iv 0, .val .null, .unset] [(.ref a1)])) rfl (by rw [hml]; rfl) rfl (hb hby d3_1) (by decide) (W := 0) (z_ rfl) (by decide)
 refine own_st st_1 ?_
 show own_Go _ _ _ _ (T_1.setTop (mkF m 4 #[rv a1, rv a2, iv 0, iv 0, .val .null, .unset] []))
 refine o_iloadN X_1 hq d3_4 rfl (o_ifNo X_1 hq d3_5 (by decide) (o_aloadN X_1 hq d3_8 rfl rfl ?_))
 have Ks_3 := (Nat.le_refl h0.size)
 obtain ⟨la_2, T_2, h_2, k_2, lb_2, lk_2, X_2, e_2, E_2, hS_2, hk_2, hZ_2, hown_2, LE_2, LC_2, LV_2, LA_2, -, -, Cl_2, -, Sn_2, st_2⟩ := ldcCH X_1 hx hZ hown (w_ hw 110 rfl) (own_atoms hw) e_1 hS0 Ks_3 hEL (List.mem_of_getElem? (i := 0) rfl) Cr0.1 (vs := []) (z := (0 : Int32)) ⟨by decide, rfl⟩ (by decide) rfl (g := (mkF m 9 #[rv a1, rv a2, iv 0, iv 0, .val .null, .unset] [(.ref a1)])) rfl (hb hby d3_9) (n := 0) (by decide) (by decide) (by decide) (by decide)
 have Sl_2_a1 := Cl_2.safe E1.lt (own_safe_null (vm := s.vm) hZ.alike E1 F1 ⟨a0, 4, (w_ hw 7 rfl)⟩)
 have Cr_2 := Cr0.trans Cl_2
 refine own_st st_2 ?_
 show own_Go _ _ _ _ (T_2.setTop (mkF m 11 #[rv a1, rv a2, iv 0, iv 0, .val .null, .unset] [(.ref la_2), (.ref a1)]))
 obtain ⟨T_4, X_4, e_4, st_4⟩ := getF X_2 hx hZ_2 hown_2 (host := "") (Or.inl (w_ hw 33 rfl)) Via.refl e_2 LV_2 (g := (mkF m 11 #[rv a1, rv a2, iv 0, iv 0, .val .null, .unset] [(.ref la_2), (.ref a1)])) rfl rfl (hb hby d3_11)
 refine own_st st_4 ?_
 show own_Go _ _ _ _ (T_4.setTop (mkF m 14 #[rv a1, rv a2, iv 0, iv 0, .val .null, .unset] [(.ref lb_2), (.ref a1)]))
 have Fa_5 := (F1.ext E_2)
 have Fa_6 := (E1.ext E_2)
 obtain ⟨T_7, h_7, X_7, e_7, W_7, st_7⟩ := putF X_4 hx hZ_2 hown_2 (host := "") (Or.inl (w_ hw 33 rfl)) Via.refl e_4 Fa_5 Fa_6 (Or.inr ⟨(w_ hw 34 rfl), rfl, hnm⟩) (w_ hw 7 rfl) (ty := (.array .byte)) (by decide) rfl rfl (g := (mkF m 14 #[rv a1, rv a2, iv 0, iv 0, .val .null, .unset] [(.ref lb_2), (.ref a1)])) rfl rfl (hb hby d3_14)
 refine own_st st_7 ?_
 have N_7 := Fr.snoc X_7 N0 g1
 show own_Go _ _ _ _ (T_7.setTop (mkF m 17 #[rv a1, rv a2, iv 0, iv 0, .val .null, .unset] []))
 refine o_aloadN X_7 hq d3_17 rfl rfl ?_
 have Cx_9 := CHr.wr W_7 Sl_2_a1 Cr_2.1
 have Sf_9_a1 := Safe.wr W_7 Sl_2_a1 Cr_2.1 Sl_2_a1
 have Cr_9 := Cr_2.trans Cx_9
 have Ks_10 := (Nat.le_trans hk_2 (Keep.of_wr W_7).1)
 obtain ⟨la_8, T_8, h_8, k_8, lb_8, lk_8, X_8, e_8, E_8, hS_8, hk_8, hZ_8, hown_8, LE_8, LC_8, LV_8, LA_8, -, -, Cl_8, -, Sn_8, st_8⟩ := ldcCH X_7 hx hZ_2 hown_2 (w_ hw 110 rfl) (own_atoms hw) e_7 hS_2 Ks_10 hEL (List.mem_of_getElem? (i := 0) rfl) Cr_9.1 (vs := []) (z := (0 : Int32)) ⟨by decide, rfl⟩ (by decide) rfl (g := (mkF m 18 #[rv a1, rv a2, iv 0, iv 0, .val .null, .unset] [(.ref a1)])) rfl (hb hby d3_18) (n := 0) (by decide) (by decide) (by decide) (by decide)
 have Fa_11 := (Fa_6.wr W_7)
 have Sl_8_a1 := Cl_8.safe Fa_11.lt Sf_9_a1
 have Cr_8 := Cr_9.trans Cl_8
 refine own_st st_8 ?_
 show own_Go _ _ _ _ (T_8.setTop (mkF m 20 #[rv a1, rv a2, iv 0, iv 0, .val .null, .unset] [(.ref la_8), (.ref a1)]))
 obtain ⟨T_12, X_12, e_12, st_12⟩ := getF X_8 hx hZ_8 hown_8 (host := "") (Or.inl (w_ hw 31 rfl)) Via.refl e_8 LC_8 (g := (mkF m 20 #[rv a1, rv a2, iv 0, iv 0, .val .null, .unset] [(.ref la_8), (.ref a1)])) rfl rfl (hb hby d3_20)
 refine own_st st_12 ?_
 show own_Go _ _ _ _ (T_12.setTop (mkF m 23 #[rv a1, rv a2, iv 0, iv 0, .val .null, .unset] [(.int 0), (.ref a1)]))
 have Fa_13 := (((F2.ext E_2).other W_7 (Or.inr (slot_ne (Or.inr (w_ hw 32 rfl)) (Or.inr (w_ hw 34 rfl)) (by decide) (t := .byte) (t' := (.array .byte)) (by decide) (by decide)))).ext E_8)
 have Fa_14 := (Fa_11.ext E_8)
 obtain ⟨T_15, h_15, X_15, e_15, W_15, st_15⟩ := putFN X_12 hx hZ_8 hown_8 (w_ hw 31 rfl) Via.refl e_12 Fa_13 Fa_14 (Or.inr ⟨(w_ hw 32 rfl), rfl, hnm⟩) (w_ hw 7 rfl) (ty := .byte) (v' := (.int (0 : Int32))) (by decide) rfl (by decide) (g := (mkF m 23 #[rv a1, rv a2, iv 0, iv 0, .val .null, .unset] [(.int 0), (.ref a1)])) rfl rfl (hb hby d3_23)
 refine own_st st_15 ?_
 have N_15 := Fr.snoc X_15 N_7 g1
 show own_Go _ _ _ _ (T_15.setTop (mkF m 26 #[rv a1, rv a2, iv 0, iv 0, .val .null, .unset] []))
 have Kp_16 : Keep h0 h_15 [a1] := (((((Keep.refl h0 [a1]).ext E_2).wr W_7 (Or.inl (List.mem_of_getElem? (i := 0) rfl))).ext E_8).wr W_15 (Or.inl (List.mem_of_getElem? (i := 0) rfl)))
 have Fa_17 := (((Fa_5.same W_7).ext E_8).other W_15 (Or.inr (slot_ne (Or.inr (w_ hw 34 rfl)) (Or.inr (w_ hw 32 rfl)) (by decide) (t := (.array .byte)) (t' := .byte) (by decide) (by decide))))
 have Fa_18 := (Fa_13.same W_15)
 have Fa_19 := (((LA_2.other W_7 (Ne.symm (Sn_2 _ Sl_2_a1).2)).ext E_8).other W_15 (Ne.symm (Sn_2 _ Sl_2_a1).2))
 have Cx_20 := CHr.wr W_15 Sl_8_a1 Cr_8.1
 have Sf_20_a1 := Safe.wr W_15 Sl_8_a1 Cr_8.1 Sl_8_a1
 have Cr_20 := Cr_8.trans Cx_20
 have Ks_21 := (Nat.le_trans hk_8 (Keep.of_wr W_15).1)
 exact own_endC X_15 hS_8 e_15 Ks_21 (v := none) (fun _ => rfl) hlk (fun fs hr => X_15.returnOut hx hrt (hb hby d3_26) hr) hZ_8 hEL Cr_20 (Q := Q_rmiB0 Z a0 a1 a2 h0 n0) ⟨lb_2, lk_2, rfl, N_15, Kp_16, Fa_17, Fa_18, Fa_19, (Ne.symm (Sn_2 _ Sl_2_a1).2)⟩ (by decide) (by decide)
theorem ef_rmiA0 (m : MethodId) (a1 a2 : Addr) : entryFrame m #[(.ref a1), (.ref a2)] 2 = mkF m 0 #[rv a1, rv a2] [] := by first | (simp [entryFrame, mkF, argsToLocals, Value.category]; done) | rfl
def Q_rmiA0 (Z : State) (a0 : Array Value) (a1 a2 : Addr) (k1 : ClassId) (d1 : Value) (h0 : Heap) (n0 : Nat) (v : Option Value) (h : Heap) (L : List Loc) : Prop := ∃ b : Addr, ∃ kb : ClassId, v = none ∧ Fr n0 L ∧ Keep h0 h [a1] ∧ Fld Z h a1 "java/lang/String" "value" "[B" (.ref b) ∧ Fld Z h a1 "java/lang/String" "coder" "B" (.int (0 : Int32)) ∧ Arv Z h b kb .byte (0 : Int32) [] (.int (0 : Int32)) ∧ b ≠ a1
theorem rmiA0 (l : Launch) (Z : State) (a0 : Array Value) (hw : HW a0 Z) (ws : List Jvm.Cond) (a1 a2 : Addr) (k1 : ClassId) (d1 : Value) (h0 : Heap) (n0 : Nat) (Z0 : n0 ≤ h0.size) (E1 : Exa Z h0 a1 "java/lang/String") (g1 : n0 ≤ a1) (F1 : Fld Z h0 a1 "java/lang/String" "value" "[B" .null) (F2 : Fld Z h0 a1 "java/lang/String" "coder" "B" (.int (0 : Int32))) (V1 : Arv Z h0 a2 k1 .char (0 : Int32) [] d1) :
  MetFree l y5_ (head1 (Jvm.Cond.code y5_ jdk_42_method_3_code 2 none :: ws) (R_ 2 4 8 29)) (fun a U => a = #[(.ref a1), (.ref a2)] ∧ Z.Warmed39 U.vm ∧ U.heap = h0 ∧ CHv Z consts_1 U.vm h0) (fun _ _ _ _ _ => True) (fun _ U o U' => ∃ v L, o = .returned v ∧ Q_rmiA0 Z a0 a1 a2 k1 d1 h0 n0 v U'.heap L ∧ CHr Z consts_1 U.vm U.heap U'.vm U'.heap ∧ ReturnedEndW U o U' L (R_ 2 4 8 29).cells (R_ 2 4 8 29).slots) := by
 refine MetFree.of_bodySF (plainFor_of_name pn_3) hisR ?_
 intro p e s m args below meth c s₁ Bd hml0 hP hK
 obtain ⟨rfl, hZ, hh, hC0⟩ := hP
 have hx := Bd.exec
 have hby := Bd.bytes
 have hml : c.maxLocals = 2 := hml0
 have hown : s.vm.findClass "java/lang/String" = some m.cls := findClass_of_methodNamed Bd.named
 have hnm := (name_of_methodNamed Bd.named Bd.method).1
 have hlk : meth.locks = false := BodyLoose.notSynchronized (by assumption)
 have X0 : Stand p l e (R_ 2 4 8 29) (s.setVm s.vm) m #[(.ref a1), (.ref a2)] below meth c s₁ [] 0 0 := Stand.of_body Bd
 have e0 : s₁.heap = h0 := by rw [← hh, Bd.state]; rfl
 have N0 := Fr.nil n0
 have hq := And.intro hx hby
 have hrt := Bd.returns
 show own_Go p.tables e below (fun o U' => ∃ v L, o = .returned v ∧ Q_rmiA0 Z a0 a1 a2 k1 d1 h0 n0 v U'.heap L ∧ CHr Z consts_1 s.vm s.heap U'.vm U'.heap ∧ ReturnedEndW s o U' L (R_ 2 4 8 29).cells (R_ 2 4 8 29).slots) (s₁.setTop (entryFrame m #[(.ref a1), (.ref a2)] 2))
 refine own_st (fun t k => castTop (ef_rmiA0 m a1 a2) k) ?_
 have hEL : EW Z a0 consts_1 := own_EW hw
 have hS0 : s.Since s.vm h0.size := (State.WarmedH.refl s).since _
 have Cr0 : CHr Z consts_1 s.vm s.heap s.vm h0 := by rw [hh]; exact CHr.refl hC0
 show own_Go _ _ _ _ (s₁.setTop (mkF m 0 #[rv a1, rv a2] []))
 refine o_aloadN X0 hq d2_0 rfl rfl (o_aloadN X0 hq d2_1 rfl rfl (o_iconst X0 hq 0 d2_2 rfl (o_aloadN X0 hq d2_3 rfl rfl ?_)))
 obtain ⟨cl_1, Ar_1, qk_1, Sz_1, Ng_1, Hs_1, Gs_1⟩ := id V1
 refine own_st (X0.arraylength hx (by rw [e0]; exact Ar_1.1) (State.isArrayOf_alike hZ.alike Ar_1.2.1) (g := (mkF m 4 #[rv a1, rv a2] [(.ref a2), (.int 0), (.ref a2), (.ref a1)])) rfl rfl (hb hby d2_4)) ?_
 rw [len_of Sz_1 Ng_1]
 show own_Go _ _ _ _ (s₁.setTop (mkF m 5 #[rv a1, rv a2] [(.int 0), (.int 0), (.ref a2), (.ref a1)]))
 refine o_aconstNull X0 hq d2_5 ?_
 have Ks_3 := (Nat.le_refl h0.size)
 obtain ⟨_, _, ⟨T_2, L_2, k_2, n_2⟩, -, X_2, hSq_2, hgq_2, ⟨Lc_2, hQ_2, l_2, y_2, z_2, hCq_2⟩, st_2⟩ := X0.specialBackS hx (y := y4_) rfl hown (v_ hZ hw 12 rfl) (v_ hZ hw 13 rfl) (v_ hZ hw 15 rfl) (by decide) (backOfSH (W := 0) (rmiB0 l Z a0 hw [] a1 a2  h0 n0 Z0 E1 g1 F1 F2) hZ (w_ hw 15 rfl) (w_ hw 8 rfl) (by decide) (by decide) hEL Cr0.1) (g := (mkF m 6 #[rv a1, rv a2] [.null, (.int 0), (.int 0), (.ref a2), (.ref a1)])) rfl (by rw [hml]; rfl) (Steps.refl _) (a := a1) (argsL := [(.ref a2), (.int 0), (.int 0), .null]) (rest := []) (lenOf pd_4 rfl) rfl (z_ rfl) (hb hby d2_6) (fun _ _ => ⟨rfl, e0, (by decide : 0 + 4 ≤ _), (by decide : 0 + 8 ≤ _)⟩)
 dsimp only [Pt.U, Pt.locs, Pt.cells, Pt.slots] at X_2 l_2 y_2 z_2 st_2 hQ_2 hSq_2 hgq_2 hCq_2
 subst l_2 y_2 z_2
 obtain ⟨Xr_2, hSr_2, hZr_2, hownr_2⟩ := rebS hS0 (Nat.le_trans Ks_3 (Nat.le_of_eq (congrArg Array.size (e0).symm))) X_2 hSq_2 hgq_2 hZ hown
 obtain ⟨b__2, kb__2, rfl, Nq_2, K_2, Fq_2_0, Fq_2_1, Fq_2_2, Fq_2_3⟩ := hQ_2
 have N_2 := Fr.app N0 Nq_2
 have Cr_2 := Cr0.trans hCq_2
 refine own_tr st_2 ?_
 show own_Go _ _ _ _ (T_2.setTop (mkF m 9 #[rv a1, rv a2] []))
 have Kp_4 : Keep h0 T_2.heap [a1] := ((Keep.refl h0 [a1]).trans K_2 (allS (Or.inl (List.mem_of_getElem? (i := 0) rfl)) all0))
 have Ks_5 := (Nat.le_refl T_2.heap.size)
 exact own_endC Xr_2 hSr_2 rfl Ks_5 (v := none) (fun _ => rfl) hlk (fun fs hr => Xr_2.returnOut hx hrt (hb hby d2_9) hr) hZr_2 hEL Cr_2 (Q := Q_rmiA0 Z a0 a1 a2 k1 d1 h0 n0) ⟨b__2, kb__2, rfl, N_2, Kp_4, Fq_2_0, Fq_2_1, Fq_2_2, Fq_2_3⟩ (by decide) (by decide)
theorem own_nc {c : Int32} (h1 : ¬ (255 : Int32) < c) (h0 : ¬ c < 0) : nar .char c = c := by
 show c.toUInt32.toUInt16.toUInt32.toInt32 = c
 have h := c_i2c c
 rw [Int32.lt_iff_toInt_lt] at h0 h1
 have e1 : (255 : Int32).toInt = 255 := rfl
 have e2 : (0 : Int32).toInt = 0 := rfl
 apply Int32.toInt_inj.mp
 omega
theorem own_back {c : Int32} (h1 : ¬ (255 : Int32) < c) (h0 : ¬ c < 0) : nar .char ((((c.toInt8.toInt32).toInt8.toInt32) &&& (255 : Int32)).toUInt32.toUInt16.toUInt32.toInt32) = c := by
 have a1 := c_i2b c
 have a2 := c_i2b c.toInt8.toInt32
 have a3 : (((c.toInt8.toInt32).toInt8.toInt32) &&& (255 : Int32)).toInt = ((c.toInt8.toInt32).toInt8.toInt32).toInt % 256 := c_mask _ 255 8 (by decide) rfl
 have e : (((c.toInt8.toInt32).toInt8.toInt32) &&& (255 : Int32)) = c := by
  rw [Int32.lt_iff_toInt_lt] at h0 h1
  have e1 : (255 : Int32).toInt = 255 := rfl
  have e2 : (0 : Int32).toInt = 0 := rfl
  apply Int32.toInt_inj.mp
  omega
 rw [e]
 have n := own_nc h1 h0
 have n' : c.toUInt32.toUInt16.toUInt32.toInt32 = c := n
 rw [n']; exact n
theorem own_shr0 (N : Int32) : N >>> ((0 : Int32) &&& 31) = N := by
 apply Int32.toInt_inj.mp
 have h := c_ishr N (0 : Int32) 0 rfl
 rw [h]; simp
theorem pn_15 : plainName "jdk/internal/util/Preconditions" = true := by first | (simp [plainName, overriddenIn]; done) | decide +kernel
abbrev D15 := decode jdk_41_method_11_code
theorem d15_0 : D15 0 = .ok (.iload_n 0, 1) := by decide +kernel
theorem d15_1 : D15 1 = .ok (.ifCond .lt 8, 3) := by decide +kernel
theorem d15_4 : D15 4 = .ok (.iload_n 0, 1) := by decide +kernel
theorem d15_5 : D15 5 = .ok (.iload_n 1, 1) := by decide +kernel
theorem d15_6 : D15 6 = .ok (.if_icmp .lt 10, 3) := by decide +kernel
theorem d15_16 : D15 16 = .ok (.iload_n 0, 1) := by decide +kernel
theorem d15_17 : D15 17 = .ok (.ireturn, 1) := by decide +kernel
def Q_rmpre0 (Z : State) (a0 : Array Value) (p1 p2 : Int32) (a3 : Addr) (h0 : Heap) (n0 : Nat) (v : Option Value) (h : Heap) (L : List Loc) : Prop := v = some (.int p1) ∧ Fr n0 L ∧ h = h0
theorem rmpre0 (hw : HW a0 Z) (p1 p2 : Int32) (a3 : Addr) (h0 : Heap) (n0 : Nat) (Z0 : n0 ≤ h0.size) (hi0 : ¬ p1 < 0) (hi1 : p1 < p2) :
  own_Met l y16_ jdk_41_method_11_code 3 (some .int) (R_ 0 0 0 0) #[(.int p1), (.int p2), (.ref a3)] Z h0 (Q_rmpre0 Z a0 p1 p2 a3 h0 n0) := by
 refine own_bd (own := "jdk/internal/util/Preconditions") rfl (plainFor_of_name pn_15) #[iv p1, iv p2, rv a3] ?_
 intro p e s m below meth c s₁ hx hby hq hml hown hnm hlk hrt hZ X0 e0
 refine o_iloadN X0 hq d15_0 rfl (o_ifNo X0 hq d15_1 (flt hi0).1 (o_iloadN X0 hq d15_4 rfl (o_iloadN X0 hq d15_5 rfl (o_icmpYes X0 hq (pc' := 16) d15_6 (tlt hi1).1 (o_iloadN X0 hq d15_16 rfl ?_)))))
 exact e_I X0 e0 hq hlk hrt d15_17 ⟨rfl, (Fr.nil n0), rfl⟩
def Q_rmpre1 (Z : State) (a0 : Array Value) (p1 p2 : Int32) (h0 : Heap) (n0 : Nat) (v : Option Value) (h : Heap) (L : List Loc) : Prop := v = some (.int p1) ∧ Fr n0 L ∧ h = h0
theorem rmpre1 (hw : HW a0 Z) (p1 p2 : Int32) (h0 : Heap) (n0 : Nat) (Z0 : n0 ≤ h0.size) (hi0 : ¬ p1 < 0) (hi1 : p1 < p2) :
  own_Met l y16_ jdk_41_method_11_code 3 (some .int) (R_ 0 0 0 0) #[(.int p1), (.int p2), .null] Z h0 (Q_rmpre1 Z a0 p1 p2 h0 n0) := by
 refine own_bd (own := "jdk/internal/util/Preconditions") rfl (plainFor_of_name pn_15) #[iv p1, iv p2, .val .null] ?_
 intro p e s m below meth c s₁ hx hby hq hml hown hnm hlk hrt hZ X0 e0
 refine o_iloadN X0 hq d15_0 rfl (o_ifNo X0 hq d15_1 (flt hi0).1 (o_iloadN X0 hq d15_4 rfl (o_iloadN X0 hq d15_5 rfl (o_icmpYes X0 hq (pc' := 16) d15_6 (tlt hi1).1 (o_iloadN X0 hq d15_16 rfl ?_)))))
 exact e_I X0 e0 hq hlk hrt d15_17 ⟨rfl, (Fr.nil n0), rfl⟩
abbrev D14 := decode jdk_42_method_155_code
theorem d14_0 : D14 0 = .ok (.iload_n 0, 1) := by decide +kernel
theorem d14_1 : D14 1 = .ok (.iload_n 1, 1) := by decide +kernel
theorem d14_2 : D14 2 = .ok (.getstatic 1053, 3) := by decide +kernel
theorem d14_5 : D14 5 = .ok (.invokestatic 1059, 3) := by decide +kernel
theorem pd_5 : parseMethodDescriptor "(IILjava/util/function/BiFunction;)I" = some ⟨[.int, .int, (.object "java/util/function/BiFunction")], some .int⟩ := by decide +kernel
theorem k14_1059 {a0 : Array Value} {Z : State} (hw : HW a0 Z) : own_KS a0 Z "java/lang/String" "" 1059 y16_ y16_ jdk_41_method_11_code 3 (some .int) 3 := ⟨⟨(w_ hw 66 rfl), ⟨_, _, pd_5, rfl⟩, by decide⟩, (w_ hw 67 rfl), (w_ hw 65 rfl), (w_ hw 68 rfl)⟩
theorem d14_8 : D14 8 = .ok (.pop, 1) := by decide +kernel
theorem d14_9 : D14 9 = .ok (.return_, 1) := by decide +kernel
def Q_rm14 (Z : State) (a0 : Array Value) (p1 p2 : Int32) (sfv : Value) (h0 : Heap) (n0 : Nat) (v : Option Value) (h : Heap) (L : List Loc) : Prop := v = none ∧ Fr n0 L ∧ h = h0
theorem rm14 (hw : HW a0 Z) (p1 p2 : Int32) (sfv : Value) (h0 : Heap) (n0 : Nat) (Z0 : n0 ≤ h0.size) (S2 : Sta Z h0 "jdk/internal/util/Preconditions" "SIOOBE_FORMATTER" "Ljava/util/function/BiFunction;" sfv) (hsf : sfv.isRef = true) (hi0 : ¬ p1 < 0) (hi1 : p1 < p2) :
  own_Met l y20_ jdk_42_method_155_code 2 none (R_ 1 0 0 14) #[(.int p1), (.int p2)] Z h0 (Q_rm14 Z a0 p1 p2 sfv h0 n0) := by
 refine own_bd (own := "java/lang/String") rfl (plainFor_of_name pn_3) #[iv p1, iv p2] ?_
 intro p e s m below meth c s₁ hx hby hq hml hown hnm hlk hrt hZ X0 e0
 rcases ref_cases hsf with hE | ⟨sf, hE⟩
 ·have S2x : Sta Z h0 "jdk/internal/util/Preconditions" "SIOOBE_FORMATTER" "Ljava/util/function/BiFunction;" .null := hE ▸ S2
  refine o_iloadN X0 hq d14_0 rfl (o_iloadN X0 hq d14_1 rfl ?_)
  obtain ⟨T_1, X_1, e_1, st_1⟩ := getS2 X0 hx hZ hown (host := "") (Or.inl (w_ hw 64 rfl)) Via.refl e0 S2x (g := (mkF m 2 #[iv p1, iv p2] [(.int p2), (.int p1)])) rfl (hb hby d14_2)
  refine own_st st_1 ?_
  show own_Go _ _ _ _ (T_1.setTop (mkF m 5 #[iv p1, iv p2] [.null, (.int p2), (.int p1)]))
  refine c_S3 X_1 hq e_1 hZ hown hml (k14_1059 hw) (rmpre1 hw p1 p2  h0 n0 Z0 hi0 hi1) d14_5 ?_ 0
  rintro T_2 L_2 _ X_2 ⟨⟨⟩, Nq_2, e_2⟩
  have N_2 := Fr.app (Fr.nil n0) Nq_2
  refine o_pop X_2 hq d14_8 rfl ?_
  exact e_V X_2 e_2 hq hlk hrt d14_9 ⟨rfl, N_2, rfl⟩
 ·have S2x : Sta Z h0 "jdk/internal/util/Preconditions" "SIOOBE_FORMATTER" "Ljava/util/function/BiFunction;" (.ref sf) := hE ▸ S2
  refine o_iloadN X0 hq d14_0 rfl (o_iloadN X0 hq d14_1 rfl ?_)
  obtain ⟨T_3, X_3, e_3, st_3⟩ := getS2 X0 hx hZ hown (host := "") (Or.inl (w_ hw 64 rfl)) Via.refl e0 S2x (g := (mkF m 2 #[iv p1, iv p2] [(.int p2), (.int p1)])) rfl (hb hby d14_2)
  refine own_st st_3 ?_
  show own_Go _ _ _ _ (T_3.setTop (mkF m 5 #[iv p1, iv p2] [(.ref sf), (.int p2), (.int p1)]))
  refine c_S3 X_3 hq e_3 hZ hown hml (k14_1059 hw) (rmpre0 hw p1 p2 sf  h0 n0 Z0 hi0 hi1) d14_5 ?_ 0
  rintro T_4 L_4 _ X_4 ⟨⟨⟩, Nq_4, e_4⟩
  have N_4 := Fr.app (Fr.nil n0) Nq_4
  refine o_pop X_4 hq d14_8 rfl ?_
  exact e_V X_4 e_4 hq hlk hrt d14_9 ⟨rfl, N_4, rfl⟩
theorem pn_13 : plainName "java/lang/StringLatin1" = true := by first | (simp [plainName, overriddenIn]; done) | decide +kernel
abbrev D13 := decode jdk_43_method_2_code
theorem d13_0 : D13 0 = .ok (.iload_n 1, 1) := by decide +kernel
theorem d13_1 : D13 1 = .ok (.aload_n 0, 1) := by decide +kernel
theorem d13_2 : D13 2 = .ok (.arraylength, 1) := by decide +kernel
theorem d13_3 : D13 3 = .ok (.invokestatic 9, 3) := by decide +kernel
theorem pd_6 : parseMethodDescriptor "(II)V" = some ⟨[.int, .int], none⟩ := by decide +kernel
section Sm
variable {p : Program} {l : Launch} {e : Env} {R : Room} {s : State} {m : MethodId} {args : Array Value} {below : List Frame} {meth : Method} {c : Code} {T : State} {locs : List Loc} {cells slots : Nat} {P : Outcome → State → Prop} {pc : Nat} {Ls : Array Slot} {st : List Value}
theorem c_S2v (X : Stand p l e R s m args below meth c T locs cells slots) {cb : ByteArray} (hq : p.tables.exec = Jvm.exec ∧ c.code = cb) {Z : State} {a0 : Array Value} {h : Heap} {own C : String} {index : Nat} {y z : MethodName} {bytes : ByteArray} {maxL ML : Nat} {ret : Option FieldType} {rm : Room} {Q : Option Value → Heap → List Loc → Prop} {v1 v2 : Value}
  (eT : T.heap = h) (hZ : Z.Warmed39 s.vm) (hown : s.vm.findClass own = some m.cls) (hml : c.maxLocals = ML) (hK : own_KS a0 Z own C index y z bytes maxL ret 2) (hM : own_Met l y bytes maxL ret rm #[v1, v2] Z h Q)
  (hd : decode cb pc = .ok (.invokestatic index, 3)) 
  (k : ∀ (T' : State) (L : List Loc), Stand p l e R s m args below meth c T' (locs ++ L) (cells + rm.cells) (slots + rm.slots) → Q none T'.heap L → own_Go p.tables e below P (T'.setTop (mkF m (pc + 3) Ls st))) (W : Nat) (hsz : Ls.size = ML := by rfl) (hW : (st.map fun v => v.category).sum = W := by rfl) (sd : rm.frames + 1 ≤ R.frames ∧ W + (maxL + 11) + rm.locals ≤ R.locals ∧ cells + rm.cells ≤ R.cells ∧ slots + rm.slots ≤ R.slots := by decide) (hv : ∀ v h L, Q v h L → v = none := by intro v h L q; first | exact id q.1 | (obtain ⟨_, q⟩ := q; exact id q.1) | (obtain ⟨_, _, q⟩ := q; exact id q.1) | (obtain ⟨_, _, _, q⟩ := q; exact id q.1)) : own_Go p.tables e below P (T.setTop (mkF m pc Ls (v2 :: v1 :: st))) := by
 obtain ⟨⟨w1, ⟨ps, r, hp, hlen⟩, hy⟩, w2, w3, w4⟩ := hK
 obtain ⟨v, vm1, ⟨T', L0, k0, n0⟩, -, X', ⟨L, hQ, e1, e2, e3⟩, hst⟩ := Jvm.LawKit.callS X hq.1 (y := y) hown (mvT hZ w1) (mvT hZ w2) (mvT hZ w3) (mvT hZ w4) hy (backOf (W := W) (Q := Q) hM hZ w4 w3 sd.1 sd.2.1) (g := mkF m pc Ls (v2 :: v1 :: st)) rfl (by rw [hml]; exact hsz) (argsL := [v1, v2]) (rest := st) (lenOf hp hlen) rfl (by show 2 * 0 + _ ≤ _; rw [Nat.mul_zero, Nat.zero_add]; exact Nat.le_of_eq hW) (hb hq.2 hd) (fun _ _ => ⟨rfl, eT, sd.2.2.1, sd.2.2.2⟩)
 dsimp only [Pt.U, Pt.locs, Pt.cells, Pt.slots] at X' e1 e2 e3 hst hQ
 subst e1 e2 e3
 obtain rfl := hv _ _ _ hQ
 exact own_st hst (k _ _ X' hQ)
end Sm
theorem k13_9 {a0 : Array Value} {Z : State} (hw : HW a0 Z) : own_KS a0 Z "java/lang/StringLatin1" "" 9 y20_ y20_ jdk_42_method_155_code 2 none 2 := ⟨⟨(w_ hw 61 rfl), ⟨_, _, pd_6, rfl⟩, by decide⟩, (w_ hw 62 rfl), (w_ hw 8 rfl), (w_ hw 63 rfl)⟩
theorem d13_6 : D13 6 = .ok (.aload_n 0, 1) := by decide +kernel
theorem d13_7 : D13 7 = .ok (.iload_n 1, 1) := by decide +kernel
theorem d13_8 : D13 8 = .ok (.baload, 1) := by decide +kernel
theorem d13_9 : D13 9 = .ok (.sipush 255, 3) := by decide +kernel
theorem d13_12 : D13 12 = .ok (.iand, 1) := by decide +kernel
theorem d13_13 : D13 13 = .ok (.i2c, 1) := by decide +kernel
theorem d13_14 : D13 14 = .ok (.ireturn, 1) := by decide +kernel
section Sm
variable {p : Program} {l : Launch} {e : Env} {R : Room} {s : State} {m : MethodId} {args : Array Value} {below : List Frame} {meth : Method} {c : Code} {T : State} {locs : List Loc} {cells slots : Nat} {P : Outcome → State → Prop} {pc : Nat} {Ls : Array Slot} {st : List Value}
theorem e_C (X : Stand p l e R s m args below meth c T locs cells slots) {h : Heap} (eT : T.heap = h) {cb : ByteArray} (hq : p.tables.exec = Jvm.exec ∧ c.code = cb) (hlk : meth.locks = false) {z : Int32} {rest : List Value} (hrt : meth.sig.returnType = some .char) (hd : decode cb pc = .ok (.ireturn, 1)) {Q : Option Value → Heap → List Loc → Prop} (hQ : Q (some (.int (nar .char z))) h locs) (hcs : cells ≤ R.cells ∧ slots ≤ R.slots := by decide) :
  own_Go p.tables e below (own_P s Q R) (T.setTop (mkF m pc Ls (.int z :: rest))) := own_end X eT (v := (some (.int (nar .char z)))) (fun h => by rw [hrt] at h; cases h) hlk (fun fs hr => retN X hq.1 (z := z) (t := .char) hrt (by simp) (hb hq.2 hd) hr) (Q := Q) hQ hcs.1 hcs.2
end Sm
def Q_rm13 (Z : State) (a0 : Array Value) (a1 : Addr) (p2 : Int32) (k1 : ClassId) (N : Int32) (vs : List Value) (d1 sfv : Value) (x y : Int32) (h0 : Heap) (n0 : Nat) (v : Option Value) (h : Heap) (L : List Loc) : Prop := v = some (.int y) ∧ Fr n0 L ∧ h = h0
theorem rm13 (hw : HW a0 Z) (a1 : Addr) (p2 : Int32) (k1 : ClassId) (N : Int32) (vs : List Value) (d1 sfv : Value) (x y : Int32) (h0 : Heap) (n0 : Nat) (Z0 : n0 ≤ h0.size) (V1 : Arv Z h0 a1 k1 .byte N vs d1) (hi0 : ¬ p2 < 0) (hi1 : p2 < N) (hx1 : vs.getD p2.toNatClampNeg d1 = .int x) (hy1 : nar .char ((x &&& (255 : Int32)).toUInt32.toUInt16.toUInt32.toInt32) = y) (S2 : Sta Z h0 "jdk/internal/util/Preconditions" "SIOOBE_FORMATTER" "Ljava/util/function/BiFunction;" sfv) (hsf : sfv.isRef = true) :
  own_Met l y21_ jdk_43_method_2_code 2 (some .char) (R_ 2 0 0 27) #[(.ref a1), (.int p2)] Z h0 (Q_rm13 Z a0 a1 p2 k1 N vs d1 sfv x y h0 n0) := by
 refine own_bd (own := "java/lang/StringLatin1") rfl (plainFor_of_name pn_13) #[rv a1, iv p2] ?_
 intro p e s m below meth c s₁ hx hby hq hml hown hnm hlk hrt hZ X0 e0
 refine o_iloadN X0 hq d13_0 rfl (o_aloadN X0 hq d13_1 rfl rfl ?_)
 obtain ⟨cl_1, Ar_1, qk_1, Sz_1, Ng_1, Hs_1, Gs_1⟩ := id V1
 refine own_st (X0.arraylength hx (by rw [e0]; exact Ar_1.1) (State.isArrayOf_alike hZ.alike Ar_1.2.1) (g := (mkF m 2 #[rv a1, iv p2] [(.ref a1), (.int p2)])) rfl rfl (hb hby d13_2)) ?_
 rw [len_of Sz_1 Ng_1]
 show own_Go _ _ _ _ (s₁.setTop (mkF m 3 #[rv a1, iv p2] [(.int N), (.int p2)]))
 refine c_S2v X0 hq e0 hZ hown hml (k13_9 hw) (rm14 hw p2 N sfv h0 n0 Z0 S2 hsf hi0 hi1) d13_3 ?_ 0
 rintro T_2 L_2 X_2 ⟨-, Nq_2, e_2⟩
 have N_2 := Fr.app (Fr.nil n0) Nq_2
 refine o_aloadN X_2 hq d13_6 rfl rfl (o_iloadN X_2 hq d13_7 rfl ?_)
 obtain ⟨cl_3, Ar_3, qk_3, Sz_3, Ng_3, Hs_3, Gs_3⟩ := id V1
 refine own_st (X_2.baloadBytes hx (j := p2) (v := (.int x)) (by rw [e_2]; exact Ar_3.1) (State.isArrayOf_alike hZ.alike Ar_3.2.1) Ar_3.2.2 (inb_of Sz_3 ⟨hi0, hi1⟩) (Hs_3.at (j := p2) (inb_of Sz_3 ⟨hi0, hi1⟩) hx1) (g := (mkF m 8 #[rv a1, iv p2] [(.int p2), (.ref a1)])) rfl rfl (hb hby d13_8)) ?_
 show own_Go _ _ _ _ (T_2.setTop (mkF m 9 #[rv a1, iv p2] [(.int x)]))
 refine o_sipush X_2 hq 255 d13_9 rfl (o_iand X_2 hq d13_12 (o_i2c X_2 hq d13_13 ?_))
 exact e_C X_2 e_2 hq hlk hrt d13_14 ⟨(congrArg (fun z => some (Value.int z)) hy1), N_2, rfl⟩
abbrev D12 := decode jdk_42_method_154_code
theorem d12_0 : D12 0 = .ok (.getstatic 38, 3) := by decide +kernel
theorem d12_3 : D12 3 = .ok (.ifCond .eq 14, 3) := by decide +kernel
theorem d12_6 : D12 6 = .ok (.aload_n 0, 1) := by decide +kernel
theorem d12_7 : D12 7 = .ok (.getfield 15, 3) := by decide +kernel
theorem d12_10 : D12 10 = .ok (.ifCond .ne 7, 3) := by decide +kernel
theorem d12_13 : D12 13 = .ok (.iconst 1, 1) := by decide +kernel
theorem d12_14 : D12 14 = .ok (.goto 4, 3) := by decide +kernel
theorem d12_18 : D12 18 = .ok (.ireturn, 1) := by decide +kernel
section Sm
variable {p : Program} {l : Launch} {e : Env} {R : Room} {s : State} {m : MethodId} {args : Array Value} {below : List Frame} {meth : Method} {c : Code} {T : State} {locs : List Loc} {cells slots : Nat} {P : Outcome → State → Prop} {pc : Nat} {Ls : Array Slot} {st : List Value}
theorem e_Z (X : Stand p l e R s m args below meth c T locs cells slots) {h : Heap} (eT : T.heap = h) {cb : ByteArray} (hq : p.tables.exec = Jvm.exec ∧ c.code = cb) (hlk : meth.locks = false) {z : Int32} {rest : List Value} (hrt : meth.sig.returnType = some .boolean) (hd : decode cb pc = .ok (.ireturn, 1)) {Q : Option Value → Heap → List Loc → Prop} (hQ : Q (some (.int (nar .boolean z))) h locs) (hcs : cells ≤ R.cells ∧ slots ≤ R.slots := by decide) :
  own_Go p.tables e below (own_P s Q R) (T.setTop (mkF m pc Ls (.int z :: rest))) := own_end X eT (v := (some (.int (nar .boolean z)))) (fun h => by rw [hrt] at h; cases h) hlk (fun fs hr => retN X hq.1 (z := z) (t := .boolean) hrt (by simp) (hb hq.2 hd) hr) (Q := Q) hQ hcs.1 hcs.2
end Sm
def Q_rm12 (Z : State) (a0 : Array Value) (a1 : Addr) (w : Int32) (h0 : Heap) (n0 : Nat) (v : Option Value) (h : Heap) (L : List Loc) : Prop := v = some (.int (1 : Int32)) ∧ Fr n0 L ∧ h = h0
theorem rm12 (hw : HW a0 Z) (a1 : Addr) (w : Int32) (h0 : Heap) (n0 : Nat) (Z0 : n0 ≤ h0.size) (F2 : Fld Z h0 a1 "java/lang/String" "coder" "B" (.int (0 : Int32))) (S1 : Sta Z h0 "java/lang/String" "COMPACT_STRINGS" "Z" (.int w)) (hw0 : ¬ w = (0 : Int32)) :
  own_Met l y12_ jdk_42_method_154_code 1 (some .boolean) (R_ 0 0 0 0) #[(.ref a1)] Z h0 (Q_rm12 Z a0 a1 w h0 n0) := by
 refine own_bd (own := "java/lang/String") rfl (plainFor_of_name pn_3) #[rv a1] ?_
 intro p e s m below meth c s₁ hx hby hq hml hown hnm hlk hrt hZ X0 e0
 obtain ⟨T_1, X_1, e_1, st_1⟩ := getS2 X0 hx hZ hown (host := "") (Or.inl (w_ hw 19 rfl)) Via.refl e0 S1 (g := (mkF m 0 #[rv a1] [])) rfl (hb hby d12_0)
 refine own_st st_1 ?_
 show own_Go _ _ _ _ (T_1.setTop (mkF m 3 #[rv a1] [(.int w)]))
 refine o_ifNo X_1 hq d12_3 (feq hw0).1 (o_aloadN X_1 hq d12_6 rfl rfl ?_)
 obtain ⟨T_2, X_2, e_2, st_2⟩ := getF X_1 hx hZ hown (host := "") (Or.inl (w_ hw 31 rfl)) Via.refl e_1 F2 (g := (mkF m 7 #[rv a1] [(.ref a1)])) rfl rfl (hb hby d12_7)
 refine own_st st_2 ?_
 show own_Go _ _ _ _ (T_2.setTop (mkF m 10 #[rv a1] [(.int 0)]))
 refine o_ifNo X_2 hq d12_10 (by decide) (o_iconst X_2 hq 1 d12_13 rfl (o_goto X_2 hq (pc' := 18) d12_14 ?_))
 exact e_Z X_2 e_2 hq hlk hrt d12_18 ⟨rfl, (Fr.nil n0), rfl⟩
abbrev D18 := decode jdk_42_method_152_code
theorem d18_0 : D18 0 = .ok (.getstatic 38, 3) := by decide +kernel
theorem d18_3 : D18 3 = .ok (.ifCond .eq 10, 3) := by decide +kernel
theorem d18_6 : D18 6 = .ok (.aload_n 0, 1) := by decide +kernel
theorem d18_7 : D18 7 = .ok (.getfield 15, 3) := by decide +kernel
theorem d18_10 : D18 10 = .ok (.goto 4, 3) := by decide +kernel
theorem d18_14 : D18 14 = .ok (.ireturn, 1) := by decide +kernel
def Q_rm18 (Z : State) (a0 : Array Value) (a1 : Addr) (w : Int32) (h0 : Heap) (n0 : Nat) (v : Option Value) (h : Heap) (L : List Loc) : Prop := v = some (.int (0 : Int32)) ∧ Fr n0 L ∧ h = h0
theorem rm18 (hw : HW a0 Z) (a1 : Addr) (w : Int32) (h0 : Heap) (n0 : Nat) (Z0 : n0 ≤ h0.size) (F2 : Fld Z h0 a1 "java/lang/String" "coder" "B" (.int (0 : Int32))) (S1 : Sta Z h0 "java/lang/String" "COMPACT_STRINGS" "Z" (.int w)) (hw0 : ¬ w = (0 : Int32)) :
  own_Met l y22_ jdk_42_method_152_code 1 (some .byte) (R_ 0 0 0 0) #[(.ref a1)] Z h0 (Q_rm18 Z a0 a1 w h0 n0) := by
 refine own_bd (own := "java/lang/String") rfl (plainFor_of_name pn_3) #[rv a1] ?_
 intro p e s m below meth c s₁ hx hby hq hml hown hnm hlk hrt hZ X0 e0
 obtain ⟨T_1, X_1, e_1, st_1⟩ := getS2 X0 hx hZ hown (host := "") (Or.inl (w_ hw 19 rfl)) Via.refl e0 S1 (g := (mkF m 0 #[rv a1] [])) rfl (hb hby d18_0)
 refine own_st st_1 ?_
 show own_Go _ _ _ _ (T_1.setTop (mkF m 3 #[rv a1] [(.int w)]))
 refine o_ifNo X_1 hq d18_3 (feq hw0).1 (o_aloadN X_1 hq d18_6 rfl rfl ?_)
 obtain ⟨T_2, X_2, e_2, st_2⟩ := getF X_1 hx hZ hown (host := "") (Or.inl (w_ hw 31 rfl)) Via.refl e_1 F2 (g := (mkF m 7 #[rv a1] [(.ref a1)])) rfl rfl (hb hby d18_7)
 refine own_st st_2 ?_
 show own_Go _ _ _ _ (T_2.setTop (mkF m 10 #[rv a1] [(.int 0)]))
 refine o_goto X_2 hq (pc' := 14) d18_10 ?_
 exact e_B X_2 e_2 hq hlk hrt d18_14 ⟨rfl, (Fr.nil n0), rfl⟩
abbrev D17 := decode jdk_42_method_54_code
theorem d17_0 : D17 0 = .ok (.aload_n 0, 1) := by decide +kernel
theorem d17_1 : D17 1 = .ok (.getfield 9, 3) := by decide +kernel
theorem d17_4 : D17 4 = .ok (.arraylength, 1) := by decide +kernel
theorem d17_5 : D17 5 = .ok (.aload_n 0, 1) := by decide +kernel
theorem d17_6 : D17 6 = .ok (.invokevirtual 335, 3) := by decide +kernel
theorem pd_7 : parseMethodDescriptor "()B" = some ⟨[], some .byte⟩ := by decide +kernel
def own_KU (a0 : Array Value) (Z : State) (own C : String) (index : Nat) (y z : MethodName) (bytes : ByteArray) (maxL : Nat) (ret : Option FieldType) (k : Nat) : Prop := ((Jvm.Cond.methodLink own index y).before a0 Z = true ∧ (∃ ps r, parseMethodDescriptor y.desc = some ⟨ps, r⟩ ∧ k = ps.length) ∧ (y.cls ≠ "java/lang/invoke/MethodHandle" ∧ y.cls ≠ "java/lang/invoke/VarHandle")) ∧ (Jvm.Cond.declares y).before a0 Z = true ∧ (Jvm.Cond.selects C y y).before a0 Z = true ∧ (Jvm.Cond.instanceMethod y).before a0 Z = true ∧ (Jvm.Cond.initialized y.cls).before a0 Z = true ∧ (Jvm.Cond.code y bytes maxL ret).before a0 Z = true
section Sm
variable {p : Program} {l : Launch} {e : Env} {R : Room} {s : State} {m : MethodId} {args : Array Value} {below : List Frame} {meth : Method} {c : Code} {T : State} {locs : List Loc} {cells slots : Nat} {P : Outcome → State → Prop} {pc : Nat} {Ls : Array Slot} {st : List Value}
theorem c_U0 (X : Stand p l e R s m args below meth c T locs cells slots) {cb : ByteArray} (hq : p.tables.exec = Jvm.exec ∧ c.code = cb) {Z : State} {a0 : Array Value} {h : Heap} {own C : String} {index : Nat} {y z : MethodName} {bytes : ByteArray} {maxL ML : Nat} {ret : Option FieldType} {rm : Room} {Q : Option Value → Heap → List Loc → Prop} {a : Addr}
  (eT : T.heap = h) (hZ : Z.Warmed39 s.vm) (hown : s.vm.findClass own = some m.cls) (hml : c.maxLocals = ML) (hK : own_KU a0 Z own C index y z bytes maxL ret 0) (hM : own_Met l y bytes maxL ret rm #[(.ref a)] Z h Q) (E : Exa Z h a C)
  (hd : decode cb pc = .ok (.invokevirtual index, 3)) 
  (k : ∀ (T' : State) (L : List Loc) (w : Value), Stand p l e R s m args below meth c T' (locs ++ L) (cells + rm.cells) (slots + rm.slots) → Q (some w) T'.heap L → own_Go p.tables e below P (T'.setTop (mkF m (pc + 3) Ls (w :: st)))) (W : Nat) (hsz : Ls.size = ML := by rfl) (hW : (st.map fun v => v.category).sum = W := by rfl) (sd : rm.frames + 1 ≤ R.frames ∧ W + (maxL + 11) + rm.locals ≤ R.locals ∧ cells + rm.cells ≤ R.cells ∧ slots + rm.slots ≤ R.slots := by decide) (hv : ∀ v h L, Q v h L → ∃ w, v = some w := by intro v h L q; first | exact Exists.intro _ q.1 | (obtain ⟨_, q⟩ := q; exact Exists.intro _ q.1) | (obtain ⟨_, _, q⟩ := q; exact Exists.intro _ q.1) | (obtain ⟨_, _, _, q⟩ := q; exact Exists.intro _ q.1)) : own_Go p.tables e below P (T.setTop (mkF m pc Ls ((.ref a) :: st))) := by
 obtain ⟨⟨w1, ⟨ps, r, hp, hlen⟩, hy⟩, w2, w5, w6, w3, w4⟩ := hK
 obtain ⟨cB, kB, q1, -, q3⟩ := isOf hZ eT E
 have nf : NotFace s y := notFace_of_selects (args := #[]) (mvT hZ w5)
 obtain ⟨v, vm1, ⟨T', L0, k0, n0⟩, -, X', ⟨L, hQ, e1, e2, e3⟩, hst⟩ := X.virtualBack hq.1 (y := y) (z := y) hown (mvT hZ w1) (mvT hZ w2) nf (mvT hZ w5) (mvT hZ w6) hy (backOf (W := W) (Q := Q) hM hZ w4 w3 sd.1 sd.2.1) q1 q3 (g := mkF m pc Ls ((.ref a) :: st)) rfl (by rw [hml]; exact hsz) (Steps.refl _) (argsL := []) (rest := st) (lenOf hp hlen) rfl (by show 2 * 0 + _ ≤ _; rw [Nat.mul_zero, Nat.zero_add]; exact Nat.le_of_eq hW) (hb hq.2 hd) (fun _ _ => ⟨rfl, eT, sd.2.2.1, sd.2.2.2⟩)
 dsimp only [Pt.U, Pt.locs, Pt.cells, Pt.slots] at X' e1 e2 e3 hst hQ
 subst e1 e2 e3
 obtain ⟨w, rfl⟩ := hv _ _ _ hQ
 exact own_tr hst (k _ _ _ X' hQ)
end Sm
theorem k17_335U1 {a0 : Array Value} {Z : State} (hw : HW a0 Z) : own_KU a0 Z "java/lang/String" "java/lang/String" 335 y22_ y22_ jdk_42_method_152_code 1 (some .byte) 0 := ⟨⟨(w_ hw 79 rfl), ⟨_, _, pd_7, rfl⟩, by decide⟩, (w_ hw 80 rfl), (w_ hw 82 rfl), (w_ hw 81 rfl), (w_ hw 8 rfl), (w_ hw 83 rfl)⟩
theorem d17_9 : D17 9 = .ok (.ishr, 1) := by decide +kernel
theorem d17_10 : D17 10 = .ok (.ireturn, 1) := by decide +kernel
def Q_rmlenN (Z : State) (a0 : Array Value) (a1 b : Addr) (k1 : ClassId) (N : Int32) (vs : List Value) (d1 : Value) (w : Int32) (h0 : Heap) (n0 : Nat) (v : Option Value) (h : Heap) (L : List Loc) : Prop := v = some (.int N) ∧ Fr n0 L ∧ h = h0
theorem rmlenN (hw : HW a0 Z) (a1 b : Addr) (k1 : ClassId) (N : Int32) (vs : List Value) (d1 : Value) (w : Int32) (h0 : Heap) (n0 : Nat) (Z0 : n0 ≤ h0.size) (E_s : Exa Z h0 a1 "java/lang/String") (F_v : Fld Z h0 a1 "java/lang/String" "value" "[B" (.ref b)) (F_c : Fld Z h0 a1 "java/lang/String" "coder" "B" (.int (0 : Int32))) (V_s : Arv Z h0 b k1 .byte N vs d1) (S1 : Sta Z h0 "java/lang/String" "COMPACT_STRINGS" "Z" (.int w)) (hw0 : ¬ w = (0 : Int32)) :
  own_Met l y13_ jdk_42_method_54_code 1 (some .int) (R_ 1 0 0 13) #[(.ref a1)] Z h0 (Q_rmlenN Z a0 a1 b k1 N vs d1 w h0 n0) := by
 refine own_bd (own := "java/lang/String") rfl (plainFor_of_name pn_3) #[rv a1] ?_
 intro p e s m below meth c s₁ hx hby hq hml hown hnm hlk hrt hZ X0 e0
 refine o_aloadN X0 hq d17_0 rfl rfl ?_
 obtain ⟨T_1, X_1, e_1, st_1⟩ := getF X0 hx hZ hown (host := "") (Or.inl (w_ hw 33 rfl)) Via.refl e0 F_v (g := (mkF m 1 #[rv a1] [(.ref a1)])) rfl rfl (hb hby d17_1)
 refine own_st st_1 ?_
 show own_Go _ _ _ _ (T_1.setTop (mkF m 4 #[rv a1] [(.ref b)]))
 obtain ⟨cl_2, Ar_2, qk_2, Sz_2, Ng_2, Hs_2, Gs_2⟩ := id V_s
 refine own_st (X_1.arraylength hx (by rw [e_1]; exact Ar_2.1) (State.isArrayOf_alike hZ.alike Ar_2.2.1) (g := (mkF m 4 #[rv a1] [(.ref b)])) rfl rfl (hb hby d17_4)) ?_
 rw [len_of Sz_2 Ng_2]
 show own_Go _ _ _ _ (T_1.setTop (mkF m 5 #[rv a1] [(.int N)]))
 refine o_aloadN X_1 hq d17_5 rfl rfl ?_
 refine c_U0 X_1 hq e_1 hZ hown hml (k17_335U1 hw) (rm18 hw a1 w h0 n0 Z0 F_c S1 hw0) E_s d17_6 ?_ 1
 rintro T_3 L_3 _ X_3 ⟨⟨⟩, Nq_3, e_3⟩
 have N_3 := Fr.app (Fr.nil n0) Nq_3
 refine o_ishr X_3 hq d17_9 ?_
 exact e_I X_3 e_3 hq hlk hrt d17_10 ⟨(congrArg (fun z => some (Value.int z)) (own_shr0 N)), N_3, rfl⟩
abbrev D11 := decode jdk_42_method_56_code
theorem d11_0 : D11 0 = .ok (.aload_n 0, 1) := by decide +kernel
theorem d11_1 : D11 1 = .ok (.invokevirtual 492, 3) := by decide +kernel
theorem pd_8 : parseMethodDescriptor "()Z" = some ⟨[], some .boolean⟩ := by decide +kernel
theorem k11_492U1 {a0 : Array Value} {Z : State} (hw : HW a0 Z) : own_KU a0 Z "java/lang/String" "java/lang/String" 492 y12_ y12_ jdk_42_method_154_code 1 (some .boolean) 0 := ⟨⟨(w_ hw 52 rfl), ⟨_, _, pd_8, rfl⟩, by decide⟩, (w_ hw 53 rfl), (w_ hw 55 rfl), (w_ hw 54 rfl), (w_ hw 8 rfl), (w_ hw 56 rfl)⟩
theorem d11_4 : D11 4 = .ok (.ifCond .eq 12, 3) := by decide +kernel
theorem d11_7 : D11 7 = .ok (.aload_n 0, 1) := by decide +kernel
theorem d11_8 : D11 8 = .ok (.getfield 9, 3) := by decide +kernel
theorem d11_11 : D11 11 = .ok (.iload_n 1, 1) := by decide +kernel
theorem d11_12 : D11 12 = .ok (.invokestatic 495, 3) := by decide +kernel
theorem pd_9 : parseMethodDescriptor "([BI)C" = some ⟨[(.array .byte), .int], some .char⟩ := by decide +kernel
theorem k11_495 {a0 : Array Value} {Z : State} (hw : HW a0 Z) : own_KS a0 Z "java/lang/String" "" 495 y21_ y21_ jdk_43_method_2_code 2 (some .char) 2 := ⟨⟨(w_ hw 57 rfl), ⟨_, _, pd_9, rfl⟩, by decide⟩, (w_ hw 58 rfl), (w_ hw 59 rfl), (w_ hw 60 rfl)⟩
theorem d11_15 : D11 15 = .ok (.ireturn, 1) := by decide +kernel
def Q_rm11 (Z : State) (a0 : Array Value) (a1 : Addr) (p2 : Int32) (b : Addr) (k1 : ClassId) (N : Int32) (vs : List Value) (d1 : Value) (w : Int32) (sfv : Value) (f : Int32 → Int32) (h0 : Heap) (n0 : Nat) (v : Option Value) (h : Heap) (L : List Loc) : Prop := v = some (.int (f p2)) ∧ Fr n0 L ∧ h = h0
theorem rm11 (hw : HW a0 Z) (a1 : Addr) (p2 : Int32) (b : Addr) (k1 : ClassId) (N : Int32) (vs : List Value) (d1 : Value) (w : Int32) (sfv : Value) (f : Int32 → Int32) (h0 : Heap) (n0 : Nat) (Z0 : n0 ≤ h0.size) (E_s : Exa Z h0 a1 "java/lang/String") (F_v : Fld Z h0 a1 "java/lang/String" "value" "[B" (.ref b)) (F_c : Fld Z h0 a1 "java/lang/String" "coder" "B" (.int (0 : Int32))) (V_s : Arv Z h0 b k1 .byte N vs d1) (S1 : Sta Z h0 "java/lang/String" "COMPACT_STRINGS" "Z" (.int w)) (hw0 : ¬ w = (0 : Int32)) (hat : ∀ i : Int32, ¬ i < 0 → i < N → vs.getD i.toNatClampNeg d1 = .int (((f i).toInt8.toInt32).toInt8.toInt32)) (hf : ∀ i : Int32, ¬ (255 : Int32) < f i ∧ ¬ f i < 0) (S2 : Sta Z h0 "jdk/internal/util/Preconditions" "SIOOBE_FORMATTER" "Ljava/util/function/BiFunction;" sfv) (hsf : sfv.isRef = true) (hi0 : ¬ p2 < 0) (hi1 : p2 < N) :
  own_Met l y14_ jdk_42_method_56_code 2 (some .char) (R_ 3 0 0 40) #[(.ref a1), (.int p2)] Z h0 (Q_rm11 Z a0 a1 p2 b k1 N vs d1 w sfv f h0 n0) := by
 refine own_bd (own := "java/lang/String") rfl (plainFor_of_name pn_3) #[rv a1, iv p2] ?_
 intro p e s m below meth c s₁ hx hby hq hml hown hnm hlk hrt hZ X0 e0
 refine o_aloadN X0 hq d11_0 rfl rfl ?_
 refine c_U0 X0 hq e0 hZ hown hml (k11_492U1 hw) (rm12 hw a1 w h0 n0 Z0 F_c S1 hw0) E_s d11_1 ?_ 0
 rintro T_1 L_1 _ X_1 ⟨⟨⟩, Nq_1, e_1⟩
 have N_1 := Fr.app (Fr.nil n0) Nq_1
 refine o_ifNo X_1 hq d11_4 (by decide) (o_aloadN X_1 hq d11_7 rfl rfl ?_)
 obtain ⟨T_2, X_2, e_2, st_2⟩ := getF X_1 hx hZ hown (host := "") (Or.inl (w_ hw 33 rfl)) Via.refl e_1 F_v (g := (mkF m 8 #[rv a1, iv p2] [(.ref a1)])) rfl rfl (hb hby d11_8)
 refine own_st st_2 ?_
 show own_Go _ _ _ _ (T_2.setTop (mkF m 11 #[rv a1, iv p2] [(.ref b)]))
 refine o_iloadN X_2 hq d11_11 rfl ?_
 refine c_S2 X_2 hq e_2 hZ hown hml (k11_495 hw) (rm13 hw b p2 k1 N vs d1 sfv (((f p2).toInt8.toInt32).toInt8.toInt32) (f p2) h0 n0 Z0 V_s hi0 hi1 (hat p2 hi0 hi1) (own_back (hf p2).1 (hf p2).2) S2 hsf) d11_12 ?_ 0
 rintro T_3 L_3 _ X_3 ⟨⟨⟩, Nq_3, e_3⟩
 have N_3 := Fr.app N_1 Nq_3
 exact e_C X_3 e_3 hq hlk hrt d11_15 ⟨(congrArg (fun z => some (Value.int z)) (own_nc (hf p2).1 (hf p2).2)), N_3, rfl⟩
def own_draw (p1 : Int32)  : Int32 := (if (((p1.toUInt32 >>> ((8 : Int32) &&& 31).toUInt32).toInt32) &&& (3 : Int32)) = (0 : Int32) then (nar .char (((48 : Int32) + ((p1 &&& (255 : Int32)) - (p1 &&& (255 : Int32)) / (10 : Int32) * (10 : Int32))).toUInt32.toUInt16.toUInt32.toInt32)) else (if (((p1.toUInt32 >>> ((8 : Int32) &&& 31).toUInt32).toInt32) &&& (3 : Int32)) = (1 : Int32) then (nar .char (((48 : Int32) + ((p1 &&& (255 : Int32)) - (p1 &&& (255 : Int32)) / (10 : Int32) * (10 : Int32))).toUInt32.toUInt16.toUInt32.toInt32)) else (if (((p1.toUInt32 >>> ((8 : Int32) &&& 31).toUInt32).toInt32) &&& (3 : Int32)) = (2 : Int32) then (if ((p1 &&& (255 : Int32)) - (p1 &&& (255 : Int32)) / (3 : Int32) * (3 : Int32)) = (0 : Int32) then (43 : Int32) else (if ((p1 &&& (255 : Int32)) - (p1 &&& (255 : Int32)) / (3 : Int32) * (3 : Int32)) = (1 : Int32) then (45 : Int32) else (46 : Int32))) else (nar .char ((p1 &&& (255 : Int32)).toUInt32.toUInt16.toUInt32.toInt32)))))
theorem pn_1 : plainName "com/example/nimble_anonymizer/nimbleanonymizer/NumericColumnIsNumberPinLaw" = true := by first | (simp [plainName, overriddenIn]; done) | decide +kernel
abbrev D1 := decode method_3_code
theorem d1_0 : D1 0 = .ok (.iload_n 0, 1) := by decide +kernel
theorem d1_1 : D1 1 = .ok (.sipush 255, 3) := by decide +kernel
theorem d1_4 : D1 4 = .ok (.iand, 1) := by decide +kernel
theorem d1_5 : D1 5 = .ok (.istore_n 1, 1) := by decide +kernel
theorem d1_6 : D1 6 = .ok (.iload_n 0, 1) := by decide +kernel
theorem d1_7 : D1 7 = .ok (.bipush 8, 2) := by decide +kernel
theorem d1_9 : D1 9 = .ok (.iushr, 1) := by decide +kernel
theorem d1_10 : D1 10 = .ok (.iconst 3, 1) := by decide +kernel
theorem d1_11 : D1 11 = .ok (.iand, 1) := by decide +kernel
theorem d1_12 : D1 12 = .ok (.istore_n 2, 1) := by decide +kernel
theorem d1_13 : D1 13 = .ok (.iload_n 2, 1) := by decide +kernel
theorem d1_14 : D1 14 = .ok (.ifCond .eq 8, 3) := by decide +kernel
theorem d1_22 : D1 22 = .ok (.bipush 48, 2) := by decide +kernel
theorem d1_24 : D1 24 = .ok (.iload_n 1, 1) := by decide +kernel
theorem d1_25 : D1 25 = .ok (.bipush 10, 2) := by decide +kernel
theorem d1_27 : D1 27 = .ok (.irem, 1) := by decide +kernel
theorem d1_28 : D1 28 = .ok (.iadd, 1) := by decide +kernel
theorem d1_29 : D1 29 = .ok (.i2c, 1) := by decide +kernel
theorem d1_30 : D1 30 = .ok (.ireturn, 1) := by decide +kernel
theorem d1_17 : D1 17 = .ok (.iload_n 2, 1) := by decide +kernel
theorem d1_18 : D1 18 = .ok (.iconst 1, 1) := by decide +kernel
theorem d1_19 : D1 19 = .ok (.if_icmp .ne 12, 3) := by decide +kernel
theorem d1_31 : D1 31 = .ok (.iload_n 2, 1) := by decide +kernel
theorem d1_32 : D1 32 = .ok (.iconst 2, 1) := by decide +kernel
theorem d1_33 : D1 33 = .ok (.if_icmp .ne 25, 3) := by decide +kernel
theorem d1_36 : D1 36 = .ok (.iload_n 1, 1) := by decide +kernel
theorem d1_37 : D1 37 = .ok (.iconst 3, 1) := by decide +kernel
theorem d1_38 : D1 38 = .ok (.irem, 1) := by decide +kernel
theorem d1_39 : D1 39 = .ok (.istore_n 3, 1) := by decide +kernel
theorem d1_40 : D1 40 = .ok (.iload_n 3, 1) := by decide +kernel
theorem d1_41 : D1 41 = .ok (.ifCond .ne 6, 3) := by decide +kernel
theorem d1_44 : D1 44 = .ok (.bipush 43, 2) := by decide +kernel
theorem d1_46 : D1 46 = .ok (.ireturn, 1) := by decide +kernel
theorem d1_47 : D1 47 = .ok (.iload_n 3, 1) := by decide +kernel
theorem d1_48 : D1 48 = .ok (.iconst 1, 1) := by decide +kernel
theorem d1_49 : D1 49 = .ok (.if_icmp .ne 6, 3) := by decide +kernel
theorem d1_52 : D1 52 = .ok (.bipush 45, 2) := by decide +kernel
theorem d1_54 : D1 54 = .ok (.ireturn, 1) := by decide +kernel
theorem d1_55 : D1 55 = .ok (.bipush 46, 2) := by decide +kernel
theorem d1_57 : D1 57 = .ok (.ireturn, 1) := by decide +kernel
theorem d1_58 : D1 58 = .ok (.iload_n 1, 1) := by decide +kernel
theorem d1_59 : D1 59 = .ok (.i2c, 1) := by decide +kernel
theorem d1_60 : D1 60 = .ok (.ireturn, 1) := by decide +kernel
def Q_rm1 (Z : State) (a0 : Array Value) (p1 : Int32) (h0 : Heap) (n0 : Nat) (v : Option Value) (h : Heap) (L : List Loc) : Prop := v = some (.int (own_draw p1)) ∧ Fr n0 L ∧ h = h0
theorem rm1 (hw : HW a0 Z) (p1 : Int32) (h0 : Heap) (n0 : Nat) (Z0 : n0 ≤ h0.size) :
  own_Met l y23_ method_3_code 4 (some .char) (R_ 0 0 0 0) #[(.int p1)] Z h0 (Q_rm1 Z a0 p1 h0 n0) := by
 refine own_bd (own := "com/example/nimble_anonymizer/nimbleanonymizer/NumericColumnIsNumberPinLaw") rfl (plainFor_of_name pn_1) #[iv p1, .unset, .unset, .unset] ?_
 intro p e s m below meth c s₁ hx hby hq hml hown hnm hlk hrt hZ X0 e0
 have hv : own_draw p1 = (if (((p1.toUInt32 >>> ((8 : Int32) &&& 31).toUInt32).toInt32) &&& (3 : Int32)) = (0 : Int32) then (nar .char (((48 : Int32) + ((p1 &&& (255 : Int32)) - (p1 &&& (255 : Int32)) / (10 : Int32) * (10 : Int32))).toUInt32.toUInt16.toUInt32.toInt32)) else (if (((p1.toUInt32 >>> ((8 : Int32) &&& 31).toUInt32).toInt32) &&& (3 : Int32)) = (1 : Int32) then (nar .char (((48 : Int32) + ((p1 &&& (255 : Int32)) - (p1 &&& (255 : Int32)) / (10 : Int32) * (10 : Int32))).toUInt32.toUInt16.toUInt32.toInt32)) else (if (((p1.toUInt32 >>> ((8 : Int32) &&& 31).toUInt32).toInt32) &&& (3 : Int32)) = (2 : Int32) then (if ((p1 &&& (255 : Int32)) - (p1 &&& (255 : Int32)) / (3 : Int32) * (3 : Int32)) = (0 : Int32) then (43 : Int32) else (if ((p1 &&& (255 : Int32)) - (p1 &&& (255 : Int32)) / (3 : Int32) * (3 : Int32)) = (1 : Int32) then (45 : Int32) else (46 : Int32))) else (nar .char ((p1 &&& (255 : Int32)).toUInt32.toUInt16.toUInt32.toInt32))))) := rfl
 show own_Go _ _ _ _ (s₁.setTop (mkF m 0 #[iv p1, .unset, .unset, .unset] []))
 refine o_iloadN X0 hq d1_0 rfl (o_sipush X0 hq 255 d1_1 rfl (o_iand X0 hq d1_4 (o_istoreN X0 hq d1_5 (l' := #[iv p1, iv (p1 &&& (255 : Int32)), .unset, .unset]) rfl (o_iloadN X0 hq d1_6 rfl (o_bipush X0 hq 8 d1_7 rfl (o_iushr X0 hq d1_9 (o_iconst X0 hq 3 d1_10 rfl (o_iand X0 hq d1_11 (o_istoreN X0 hq d1_12 (l' := #[iv p1, iv (p1 &&& (255 : Int32)), iv (((p1.toUInt32 >>> ((8 : Int32) &&& 31).toUInt32).toInt32) &&& (3 : Int32)), .unset]) rfl (o_iloadN X0 hq d1_13 rfl ?_))))))))))
 by_cases hc14__1 : (((p1.toUInt32 >>> ((8 : Int32) &&& 31).toUInt32).toInt32) &&& (3 : Int32)) = (0 : Int32)
 ·have hv_2 := hv.trans (if_pos hc14__1)
  refine o_ifYes X0 hq (pc' := 22) d1_14 (teq hc14__1).1 (o_bipush X0 hq 48 d1_22 rfl (o_iloadN X0 hq d1_24 rfl (o_bipush X0 hq 10 d1_25 rfl (o_irem X0 hq d1_27 (by decide) (o_iadd X0 hq d1_28 (o_i2c X0 hq d1_29 ?_))))))
  exact e_C X0 e0 hq hlk hrt d1_30 ⟨(congrArg (fun z => some (Value.int z)) hv_2.symm), (Fr.nil n0), rfl⟩
 ·have hv_3 := hv.trans (if_neg hc14__1)
  refine o_ifNo X0 hq d1_14 (feq hc14__1).1 (o_iloadN X0 hq d1_17 rfl (o_iconst X0 hq 1 d1_18 rfl ?_))
  by_cases hc19__4 : (((p1.toUInt32 >>> ((8 : Int32) &&& 31).toUInt32).toInt32) &&& (3 : Int32)) = (1 : Int32)
  ·have hv_5 := hv_3.trans (if_pos hc19__4)
   refine o_icmpNo X0 hq d1_19 (teq hc19__4).2 (o_bipush X0 hq 48 d1_22 rfl (o_iloadN X0 hq d1_24 rfl (o_bipush X0 hq 10 d1_25 rfl (o_irem X0 hq d1_27 (by decide) (o_iadd X0 hq d1_28 (o_i2c X0 hq d1_29 ?_))))))
   exact e_C X0 e0 hq hlk hrt d1_30 ⟨(congrArg (fun z => some (Value.int z)) hv_5.symm), (Fr.nil n0), rfl⟩
  ·have hv_6 := hv_3.trans (if_neg hc19__4)
   refine o_icmpYes X0 hq (pc' := 31) d1_19 (feq hc19__4).2 (o_iloadN X0 hq d1_31 rfl (o_iconst X0 hq 2 d1_32 rfl ?_))
   by_cases hc33__7 : (((p1.toUInt32 >>> ((8 : Int32) &&& 31).toUInt32).toInt32) &&& (3 : Int32)) = (2 : Int32)
   ·have hv_8 := hv_6.trans (if_pos hc33__7)
    refine o_icmpNo X0 hq d1_33 (teq hc33__7).2 (o_iloadN X0 hq d1_36 rfl (o_iconst X0 hq 3 d1_37 rfl (o_irem X0 hq d1_38 (by decide) (o_istoreN X0 hq d1_39 (l' := #[iv p1, iv (p1 &&& (255 : Int32)), iv (((p1.toUInt32 >>> ((8 : Int32) &&& 31).toUInt32).toInt32) &&& (3 : Int32)), iv ((p1 &&& (255 : Int32)) - (p1 &&& (255 : Int32)) / (3 : Int32) * (3 : Int32))]) rfl (o_iloadN X0 hq d1_40 rfl ?_)))))
    by_cases hc41__9 : ((p1 &&& (255 : Int32)) - (p1 &&& (255 : Int32)) / (3 : Int32) * (3 : Int32)) = (0 : Int32)
    ·have hv_10 := hv_8.trans (if_pos hc41__9)
     refine o_ifNo X0 hq d1_41 (teq hc41__9).2 (o_bipush X0 hq 43 d1_44 rfl ?_)
     exact e_C X0 e0 hq hlk hrt d1_46 ⟨(congrArg (fun z => some (Value.int z)) hv_10.symm), (Fr.nil n0), rfl⟩
    ·have hv_11 := hv_8.trans (if_neg hc41__9)
     refine o_ifYes X0 hq (pc' := 47) d1_41 (feq hc41__9).2 (o_iloadN X0 hq d1_47 rfl (o_iconst X0 hq 1 d1_48 rfl ?_))
     by_cases hc49__12 : ((p1 &&& (255 : Int32)) - (p1 &&& (255 : Int32)) / (3 : Int32) * (3 : Int32)) = (1 : Int32)
     ·have hv_13 := hv_11.trans (if_pos hc49__12)
      refine o_icmpNo X0 hq d1_49 (teq hc49__12).2 (o_bipush X0 hq 45 d1_52 rfl ?_)
      exact e_C X0 e0 hq hlk hrt d1_54 ⟨(congrArg (fun z => some (Value.int z)) hv_13.symm), (Fr.nil n0), rfl⟩
     ·have hv_14 := hv_11.trans (if_neg hc49__12)
      refine o_icmpYes X0 hq (pc' := 55) d1_49 (feq hc49__12).2 (o_bipush X0 hq 46 d1_55 rfl ?_)
      exact e_C X0 e0 hq hlk hrt d1_57 ⟨(congrArg (fun z => some (Value.int z)) hv_14.symm), (Fr.nil n0), rfl⟩
   ·have hv_15 := hv_6.trans (if_neg hc33__7)
    refine o_icmpYes X0 hq (pc' := 58) d1_33 (feq hc33__7).2 (o_iloadN X0 hq d1_58 rfl (o_i2c X0 hq d1_59 ?_))
    exact e_C X0 e0 hq hlk hrt d1_60 ⟨(congrArg (fun z => some (Value.int z)) hv_15.symm), (Fr.nil n0), rfl⟩
theorem own_rem10 (y : Int32) (h0 : 0 ≤ y.toInt) : 0 ≤ (y - y / (10 : Int32) * (10 : Int32)).toInt ∧ (y - y / (10 : Int32) * (10 : Int32)).toInt ≤ 9 := by
 have hq := (c_idiv y (10 : Int32) 10 rfl (by decide)).1 h0
 have hm := c_imul (y / (10 : Int32)) (10 : Int32)
 have hs := c_isub y (y / (10 : Int32) * (10 : Int32))
 have e6 : (10 : Int32).toInt = 10 := rfl
 rw [hq, e6] at hm
 have b1 := y.toInt_lt
 have b2 := (y / (10 : Int32) * (10 : Int32)).toInt_lt; have b3 := (y / (10 : Int32) * (10 : Int32)).le_toInt
 have b4 := (y - y / (10 : Int32) * (10 : Int32)).toInt_lt; have b5 := (y - y / (10 : Int32) * (10 : Int32)).le_toInt
 omega
def own_f5 (c0 c1 c2 c3 c4 : Int32) : Int32 → Int32 := fun i => if i = (0 : Int32) then c0 else if i = (1 : Int32) then c1 else if i = (2 : Int32) then c2 else if i = (3 : Int32) then c3 else c4
theorem own_drI (x : Int32) : 0 ≤ (own_draw x).toInt ∧ (own_draw x).toInt ≤ 255 := by
 have h1 : (x &&& (255 : Int32)).toInt = x.toInt % 256 := c_mask x 255 8 (by decide) rfl
 have b1 := Int.emod_nonneg x.toInt (show (256 : Int) ≠ 0 by decide)
 have b2 := Int.emod_lt_of_pos x.toInt (show (0 : Int) < 256 by decide)
 have q1 := own_rem10 (x &&& (255 : Int32)) (by omega)
 have q2 := c_iadd (48 : Int32) ((x &&& (255 : Int32)) - (x &&& (255 : Int32)) / (10 : Int32) * (10 : Int32))
 have e48 : (48 : Int32).toInt = 48 := rfl
 have T1 : 0 ≤ (nar .char ((48 : Int32) + ((x &&& (255 : Int32)) - (x &&& (255 : Int32)) / (10 : Int32) * (10 : Int32))).toUInt32.toUInt16.toUInt32.toInt32).toInt ∧ (nar .char ((48 : Int32) + ((x &&& (255 : Int32)) - (x &&& (255 : Int32)) / (10 : Int32) * (10 : Int32))).toUInt32.toUInt16.toUInt32.toInt32).toInt ≤ 255 := by
  have b := c_i2c ((48 : Int32) + ((x &&& (255 : Int32)) - (x &&& (255 : Int32)) / (10 : Int32) * (10 : Int32)))
  have b' := c_i2c (((48 : Int32) + ((x &&& (255 : Int32)) - (x &&& (255 : Int32)) / (10 : Int32) * (10 : Int32))).toUInt32.toUInt16.toUInt32.toInt32)
  show 0 ≤ ((((48 : Int32) + ((x &&& (255 : Int32)) - (x &&& (255 : Int32)) / (10 : Int32) * (10 : Int32))).toUInt32.toUInt16.toUInt32.toInt32).toUInt32.toUInt16.toUInt32.toInt32).toInt ∧ ((((48 : Int32) + ((x &&& (255 : Int32)) - (x &&& (255 : Int32)) / (10 : Int32) * (10 : Int32))).toUInt32.toUInt16.toUInt32.toInt32).toUInt32.toUInt16.toUInt32.toInt32).toInt ≤ 255
  omega
 have T2 : 0 ≤ (nar .char (x &&& (255 : Int32)).toUInt32.toUInt16.toUInt32.toInt32).toInt ∧ (nar .char (x &&& (255 : Int32)).toUInt32.toUInt16.toUInt32.toInt32).toInt ≤ 255 := by
  have b := c_i2c (x &&& (255 : Int32))
  have b' := c_i2c ((x &&& (255 : Int32)).toUInt32.toUInt16.toUInt32.toInt32)
  show 0 ≤ (((x &&& (255 : Int32)).toUInt32.toUInt16.toUInt32.toInt32).toUInt32.toUInt16.toUInt32.toInt32).toInt ∧ (((x &&& (255 : Int32)).toUInt32.toUInt16.toUInt32.toInt32).toUInt32.toUInt16.toUInt32.toInt32).toInt ≤ 255
  omega
 unfold own_draw
 repeat' split
 all_goals first | exact T1 | exact T2 | decide | (unfold own_draw_22; exact T1)
theorem own_drb (x : Int32) : ¬ (255 : Int32) < own_draw x ∧ ¬ own_draw x < 0 := by
 have h := own_drI x
 rw [Int32.lt_iff_toInt_lt, Int32.lt_iff_toInt_lt, show (255 : Int32).toInt = 255 from rfl, show (0 : Int32).toInt = 0 from rfl]
 omega
theorem own_drn (x : Int32) : nar .char (own_draw x) = own_draw x := own_nc (own_drb x).1 (own_drb x).2
theorem own_fbd {c0 c1 c2 c3 c4 : Int32} (h0 : ¬ (255 : Int32) < c0 ∧ ¬ c0 < 0) (h1 : ¬ (255 : Int32) < c1 ∧ ¬ c1 < 0) (h2 : ¬ (255 : Int32) < c2 ∧ ¬ c2 < 0) (h3 : ¬ (255 : Int32) < c3 ∧ ¬ c3 < 0) (h4 : ¬ (255 : Int32) < c4 ∧ ¬ c4 < 0) : ∀ i : Int32, ¬ (255 : Int32) < own_f5 c0 c1 c2 c3 c4 i ∧ ¬ own_f5 c0 c1 c2 c3 c4 i < 0 := fun i => by
 unfold own_f5; repeat' split
 all_goals assumption
theorem own_ltN {p e N : Int32} (h : p < e) (h1 : ¬ N < e) : p < N := by
 rw [Int32.lt_iff_toInt_lt] at *; omega
theorem own_six (x : Int32) : ((x &&& (2147483647 : Int32)) - (x &&& (2147483647 : Int32)) / (6 : Int32) * (6 : Int32)) = (0 : Int32) ∨ ((x &&& (2147483647 : Int32)) - (x &&& (2147483647 : Int32)) / (6 : Int32) * (6 : Int32)) = (1 : Int32) ∨ ((x &&& (2147483647 : Int32)) - (x &&& (2147483647 : Int32)) / (6 : Int32) * (6 : Int32)) = (2 : Int32) ∨ ((x &&& (2147483647 : Int32)) - (x &&& (2147483647 : Int32)) / (6 : Int32) * (6 : Int32)) = (3 : Int32) ∨ ((x &&& (2147483647 : Int32)) - (x &&& (2147483647 : Int32)) / (6 : Int32) * (6 : Int32)) = (4 : Int32) ∨ ((x &&& (2147483647 : Int32)) - (x &&& (2147483647 : Int32)) / (6 : Int32) * (6 : Int32)) = (5 : Int32) := by
 generalize hy : x &&& (2147483647 : Int32) = y
 have h0 : 0 ≤ y.toInt := by rw [← hy]; exact (c_and x (2147483647 : Int32) (by decide)).1
 have hq := (c_idiv y (6 : Int32) 6 rfl (by decide)).1 h0
 have hm := c_imul (y / (6 : Int32)) (6 : Int32)
 have hs := c_isub y (y / (6 : Int32) * (6 : Int32))
 have e6 : (6 : Int32).toInt = 6 := rfl
 rw [hq, e6] at hm
 have b1 := y.toInt_lt
 have b2 := (y / (6 : Int32) * (6 : Int32)).toInt_lt; have b3 := (y / (6 : Int32) * (6 : Int32)).le_toInt
 have b4 := (y - y / (6 : Int32) * (6 : Int32)).toInt_lt; have b5 := (y - y / (6 : Int32) * (6 : Int32)).le_toInt
 have e : ∀ n : Int32, (y - y / (6 : Int32) * (6 : Int32) = n) ↔ ((y - y / (6 : Int32) * (6 : Int32)).toInt = n.toInt) := fun n => Int32.toInt_inj.symm
 simp only [e]
 show (y - y / (6 : Int32) * (6 : Int32)).toInt = 0 ∨ (y - y / (6 : Int32) * (6 : Int32)).toInt = 1 ∨ (y - y / (6 : Int32) * (6 : Int32)).toInt = 2 ∨ (y - y / (6 : Int32) * (6 : Int32)).toInt = 3 ∨ (y - y / (6 : Int32) * (6 : Int32)).toInt = 4 ∨ (y - y / (6 : Int32) * (6 : Int32)).toInt = 5
 omega
def own_cls (c : Int32) : Fin 6 := if c = (43 : Int32) then 0 else if c = (45 : Int32) then 1 else if c = (46 : Int32) then 2 else if c < (48 : Int32) then 4 else if (57 : Int32) < c then 5 else 3
theorem own_k43 (c : Int32) : (c = (43 : Int32)) ↔ own_cls c = 0 := by
 unfold own_cls; repeat' split
 all_goals simp_all
theorem own_k45 (c : Int32) : (c = (45 : Int32)) ↔ own_cls c = 1 := by
 unfold own_cls; repeat' split
 all_goals simp_all
theorem own_k46 (c : Int32) : (c = (46 : Int32)) ↔ own_cls c = 2 := by
 unfold own_cls; repeat' split
 all_goals simp_all
theorem own_k48 (c : Int32) : (c < (48 : Int32)) ↔ (own_cls c ≠ 3 ∧ own_cls c ≠ 5) := by
 unfold own_cls; repeat' split
 all_goals simp_all
theorem own_57n {c : Int32} (h : c < (48 : Int32)) : ¬ (57 : Int32) < c := by
 rw [Int32.lt_iff_toInt_lt] at *
 have e : (57 : Int32).toInt = 57 := rfl
 have e' : (48 : Int32).toInt = 48 := rfl
 omega
theorem own_k57 (c : Int32) : ((57 : Int32) < c) ↔ own_cls c = 5 := by
 unfold own_cls; repeat' split
 all_goals first | (simp_all; done) | (rename_i h; have := own_57n h; simp_all)
theorem own_b46 {c : Int32} (h : ¬ (255 : Int32) < c ∧ ¬ c < 0) : (((c.toInt8.toInt32).toInt8.toInt32) = (46 : Int32)) ↔ own_cls c = 2 := by
 rw [← own_k46]
 have a1 := c_i2b c
 have a2 := c_i2b c.toInt8.toInt32
 obtain ⟨h1, h0⟩ := h
 rw [Int32.lt_iff_toInt_lt] at h0 h1
 have e1 : (255 : Int32).toInt = 255 := rfl
 have e2 : (0 : Int32).toInt = 0 := rfl
 rw [← Int32.toInt_inj, ← Int32.toInt_inj]
 have e3 : (46 : Int32).toInt = 46 := rfl
 rw [e3]; omega
theorem own_fat0 (c0 c1 c2 c3 c4 : Int32) : ∀ i : Int32, ¬ i < 0 → i < (0 : Int32) → ([] : List Value).getD i.toNatClampNeg (.int (0 : Int32)) = .int (((own_f5 c0 c1 c2 c3 c4 i).toInt8.toInt32).toInt8.toInt32) := fun i h0 h => absurd h h0
theorem own_lt_1 {i : Int32} (h0 : ¬ i < 0) (h : i < (1 : Int32)) : i = (0 : Int32) := by
 rw [Int32.lt_iff_toInt_lt] at h0 h
 have e0 : (0 : Int32).toInt = 0 := rfl
 have e1 : (1 : Int32).toInt = 1 := rfl
 simp only [← Int32.toInt_inj]
 show i.toInt = 0
 omega
theorem own_fat1 (c0 c1 c2 c3 c4 : Int32) : ∀ i : Int32, ¬ i < 0 → i < (1 : Int32) → [Value.int ((c0.toInt8.toInt32).toInt8.toInt32)].getD i.toNatClampNeg (.int (0 : Int32)) = .int (((own_f5 c0 c1 c2 c3 c4 i).toInt8.toInt32).toInt8.toInt32) := fun i h0 h => by
 rcases own_lt_1 h0 h with rfl <;> rfl
theorem own_lt_2 {i : Int32} (h0 : ¬ i < 0) (h : i < (2 : Int32)) : i = (0 : Int32) ∨ i = (1 : Int32) := by
 rw [Int32.lt_iff_toInt_lt] at h0 h
 have e0 : (0 : Int32).toInt = 0 := rfl
 have e1 : (2 : Int32).toInt = 2 := rfl
 simp only [← Int32.toInt_inj]
 show i.toInt = 0 ∨ i.toInt = 1
 omega
theorem own_fat2 (c0 c1 c2 c3 c4 : Int32) : ∀ i : Int32, ¬ i < 0 → i < (2 : Int32) → [Value.int ((c0.toInt8.toInt32).toInt8.toInt32), Value.int ((c1.toInt8.toInt32).toInt8.toInt32)].getD i.toNatClampNeg (.int (0 : Int32)) = .int (((own_f5 c0 c1 c2 c3 c4 i).toInt8.toInt32).toInt8.toInt32) := fun i h0 h => by
 rcases own_lt_2 h0 h with rfl | rfl <;> rfl
theorem own_lt_3 {i : Int32} (h0 : ¬ i < 0) (h : i < (3 : Int32)) : i = (0 : Int32) ∨ i = (1 : Int32) ∨ i = (2 : Int32) := by
 rw [Int32.lt_iff_toInt_lt] at h0 h
 have e0 : (0 : Int32).toInt = 0 := rfl
 have e1 : (3 : Int32).toInt = 3 := rfl
 simp only [← Int32.toInt_inj]
 show i.toInt = 0 ∨ i.toInt = 1 ∨ i.toInt = 2
 omega
theorem own_fat3 (c0 c1 c2 c3 c4 : Int32) : ∀ i : Int32, ¬ i < 0 → i < (3 : Int32) → [Value.int ((c0.toInt8.toInt32).toInt8.toInt32), Value.int ((c1.toInt8.toInt32).toInt8.toInt32), Value.int ((c2.toInt8.toInt32).toInt8.toInt32)].getD i.toNatClampNeg (.int (0 : Int32)) = .int (((own_f5 c0 c1 c2 c3 c4 i).toInt8.toInt32).toInt8.toInt32) := fun i h0 h => by
 rcases own_lt_3 h0 h with rfl | rfl | rfl <;> rfl
theorem own_lt_4 {i : Int32} (h0 : ¬ i < 0) (h : i < (4 : Int32)) : i = (0 : Int32) ∨ i = (1 : Int32) ∨ i = (2 : Int32) ∨ i = (3 : Int32) := by
 rw [Int32.lt_iff_toInt_lt] at h0 h
 have e0 : (0 : Int32).toInt = 0 := rfl
 have e1 : (4 : Int32).toInt = 4 := rfl
 simp only [← Int32.toInt_inj]
 show i.toInt = 0 ∨ i.toInt = 1 ∨ i.toInt = 2 ∨ i.toInt = 3
 omega
theorem own_fat4 (c0 c1 c2 c3 c4 : Int32) : ∀ i : Int32, ¬ i < 0 → i < (4 : Int32) → [Value.int ((c0.toInt8.toInt32).toInt8.toInt32), Value.int ((c1.toInt8.toInt32).toInt8.toInt32), Value.int ((c2.toInt8.toInt32).toInt8.toInt32), Value.int ((c3.toInt8.toInt32).toInt8.toInt32)].getD i.toNatClampNeg (.int (0 : Int32)) = .int (((own_f5 c0 c1 c2 c3 c4 i).toInt8.toInt32).toInt8.toInt32) := fun i h0 h => by
 rcases own_lt_4 h0 h with rfl | rfl | rfl | rfl <;> rfl
theorem own_lt_5 {i : Int32} (h0 : ¬ i < 0) (h : i < (5 : Int32)) : i = (0 : Int32) ∨ i = (1 : Int32) ∨ i = (2 : Int32) ∨ i = (3 : Int32) ∨ i = (4 : Int32) := by
 rw [Int32.lt_iff_toInt_lt] at h0 h
 have e0 : (0 : Int32).toInt = 0 := rfl
 have e1 : (5 : Int32).toInt = 5 := rfl
 simp only [← Int32.toInt_inj]
 show i.toInt = 0 ∨ i.toInt = 1 ∨ i.toInt = 2 ∨ i.toInt = 3 ∨ i.toInt = 4
 omega
theorem own_fat5 (c0 c1 c2 c3 c4 : Int32) : ∀ i : Int32, ¬ i < 0 → i < (5 : Int32) → [Value.int ((c0.toInt8.toInt32).toInt8.toInt32), Value.int ((c1.toInt8.toInt32).toInt8.toInt32), Value.int ((c2.toInt8.toInt32).toInt8.toInt32), Value.int ((c3.toInt8.toInt32).toInt8.toInt32), Value.int ((c4.toInt8.toInt32).toInt8.toInt32)].getD i.toNatClampNeg (.int (0 : Int32)) = .int (((own_f5 c0 c1 c2 c3 c4 i).toInt8.toInt32).toInt8.toInt32) := fun i h0 h => by
 rcases own_lt_5 h0 h with rfl | rfl | rfl | rfl | rfl <;> rfl

abbrev D10 := decode jdk_42_method_55_code
theorem d10_0 : D10 0 = .ok (.aload_n 0, 1) := by decide +kernel
theorem d10_1 : D10 1 = .ok (.getfield 9, 3) := by decide +kernel
theorem d10_4 : D10 4 = .ok (.arraylength, 1) := by decide +kernel
theorem d10_5 : D10 5 = .ok (.ifCond .ne 7, 3) := by decide +kernel
theorem d10_8 : D10 8 = .ok (.iconst 1, 1) := by decide +kernel
theorem d10_9 : D10 9 = .ok (.goto 4, 3) := by decide +kernel
theorem d10_13 : D10 13 = .ok (.ireturn, 1) := by decide +kernel
def Q_rmem0 (Z : State) (a0 : Array Value) (a1 b : Addr) (k1 : ClassId) (vs : List Value) (d1 : Value) (w : Int32) (h0 : Heap) (n0 : Nat) (v : Option Value) (h : Heap) (L : List Loc) : Prop := v = some (.int (1 : Int32)) ∧ Fr n0 L ∧ h = h0
theorem rmem0 (hw : HW a0 Z) (a1 b : Addr) (k1 : ClassId) (vs : List Value) (d1 : Value) (w : Int32) (h0 : Heap) (n0 : Nat) (Z0 : n0 ≤ h0.size) (E_s : Exa Z h0 a1 "java/lang/String") (F_v : Fld Z h0 a1 "java/lang/String" "value" "[B" (.ref b)) (F_c : Fld Z h0 a1 "java/lang/String" "coder" "B" (.int (0 : Int32))) (V_s : Arv Z h0 b k1 .byte (0 : Int32) vs d1) (S1 : Sta Z h0 "java/lang/String" "COMPACT_STRINGS" "Z" (.int w)) (hw0 : ¬ w = (0 : Int32)) :
  own_Met l y17_ jdk_42_method_55_code 1 (some .boolean) (R_ 0 0 0 0) #[(.ref a1)] Z h0 (Q_rmem0 Z a0 a1 b k1 vs d1 w h0 n0) := by
 refine own_bd (own := "java/lang/String") rfl (plainFor_of_name pn_3) #[rv a1] ?_
 intro p e s m below meth c s₁ hx hby hq hml hown hnm hlk hrt hZ X0 e0
 refine o_aloadN X0 hq d10_0 rfl rfl ?_
 obtain ⟨T_1, X_1, e_1, st_1⟩ := getF X0 hx hZ hown (host := "") (Or.inl (w_ hw 33 rfl)) Via.refl e0 F_v (g := (mkF m 1 #[rv a1] [(.ref a1)])) rfl rfl (hb hby d10_1)
 refine own_st st_1 ?_
 show own_Go _ _ _ _ (T_1.setTop (mkF m 4 #[rv a1] [(.ref b)]))
 obtain ⟨cl_2, Ar_2, qk_2, Sz_2, Ng_2, Hs_2, Gs_2⟩ := id V_s
 refine own_st (X_1.arraylength hx (by rw [e_1]; exact Ar_2.1) (State.isArrayOf_alike hZ.alike Ar_2.2.1) (g := (mkF m 4 #[rv a1] [(.ref b)])) rfl rfl (hb hby d10_4)) ?_
 rw [len_of Sz_2 Ng_2]
 show own_Go _ _ _ _ (T_1.setTop (mkF m 5 #[rv a1] [(.int 0)]))
 refine o_ifNo X_1 hq d10_5 (by decide) (o_iconst X_1 hq 1 d10_8 rfl (o_goto X_1 hq (pc' := 13) d10_9 ?_))
 exact e_Z X_1 e_1 hq hlk hrt d10_13 ⟨rfl, (Fr.nil n0), rfl⟩
theorem d10_12 : D10 12 = .ok (.iconst 0, 1) := by decide +kernel
def Q_rmemN (Z : State) (a0 : Array Value) (a1 b : Addr) (k1 : ClassId) (N : Int32) (vs : List Value) (d1 : Value) (w : Int32) (h0 : Heap) (n0 : Nat) (v : Option Value) (h : Heap) (L : List Loc) : Prop := v = some (.int (0 : Int32)) ∧ Fr n0 L ∧ h = h0
theorem rmemN (hw : HW a0 Z) (a1 b : Addr) (k1 : ClassId) (N : Int32) (vs : List Value) (d1 : Value) (w : Int32) (h0 : Heap) (n0 : Nat) (Z0 : n0 ≤ h0.size) (E_s : Exa Z h0 a1 "java/lang/String") (F_v : Fld Z h0 a1 "java/lang/String" "value" "[B" (.ref b)) (F_c : Fld Z h0 a1 "java/lang/String" "coder" "B" (.int (0 : Int32))) (V_s : Arv Z h0 b k1 .byte N vs d1) (S1 : Sta Z h0 "java/lang/String" "COMPACT_STRINGS" "Z" (.int w)) (hw0 : ¬ w = (0 : Int32)) (hN0 : ¬ N = (0 : Int32)) :
  own_Met l y17_ jdk_42_method_55_code 1 (some .boolean) (R_ 0 0 0 0) #[(.ref a1)] Z h0 (Q_rmemN Z a0 a1 b k1 N vs d1 w h0 n0) := by
 refine own_bd (own := "java/lang/String") rfl (plainFor_of_name pn_3) #[rv a1] ?_
 intro p e s m below meth c s₁ hx hby hq hml hown hnm hlk hrt hZ X0 e0
 refine o_aloadN X0 hq d10_0 rfl rfl ?_
 obtain ⟨T_1, X_1, e_1, st_1⟩ := getF X0 hx hZ hown (host := "") (Or.inl (w_ hw 33 rfl)) Via.refl e0 F_v (g := (mkF m 1 #[rv a1] [(.ref a1)])) rfl rfl (hb hby d10_1)
 refine own_st st_1 ?_
 show own_Go _ _ _ _ (T_1.setTop (mkF m 4 #[rv a1] [(.ref b)]))
 obtain ⟨cl_2, Ar_2, qk_2, Sz_2, Ng_2, Hs_2, Gs_2⟩ := id V_s
 refine own_st (X_1.arraylength hx (by rw [e_1]; exact Ar_2.1) (State.isArrayOf_alike hZ.alike Ar_2.2.1) (g := (mkF m 4 #[rv a1] [(.ref b)])) rfl rfl (hb hby d10_4)) ?_
 rw [len_of Sz_2 Ng_2]
 show own_Go _ _ _ _ (T_1.setTop (mkF m 5 #[rv a1] [(.int N)]))
 refine o_ifYes X_1 hq (pc' := 12) d10_5 (feq hN0).2 (o_iconst X_1 hq 0 d10_12 rfl ?_)
 exact e_Z X_1 e_1 hq hlk hrt d10_13 ⟨rfl, (Fr.nil n0), rfl⟩
theorem pn_9 : plainName "com/example/nimble_anonymizer/nimbleanonymizer/NumericColumn" = true := by first | (simp [plainName, overriddenIn]; done) | decide +kernel
abbrev D9 := decode prog_24_method_5_code
theorem d9_0 : D9 0 = .ok (.aload_n 0, 1) := by decide +kernel
theorem d9_1 : D9 1 = .ok (.invokevirtual 96, 3) := by decide +kernel
theorem k9_96U1 {a0 : Array Value} {Z : State} (hw : HW a0 Z) : own_KU a0 Z "com/example/nimble_anonymizer/nimbleanonymizer/NumericColumn" "java/lang/String" 96 y17_ y17_ jdk_42_method_55_code 1 (some .boolean) 0 := ⟨⟨(w_ hw 42 rfl), ⟨_, _, pd_8, rfl⟩, by decide⟩, (w_ hw 43 rfl), (w_ hw 45 rfl), (w_ hw 44 rfl), (w_ hw 8 rfl), (w_ hw 46 rfl)⟩
theorem d9_4 : D9 4 = .ok (.ifCond .ne 27, 3) := by decide +kernel
theorem d9_31 : D9 31 = .ok (.iconst 0, 1) := by decide +kernel
theorem d9_32 : D9 32 = .ok (.ireturn, 1) := by decide +kernel
def Q_rmsg0 (Z : State) (a0 : Array Value) (a1 b : Addr) (k1 : ClassId) (vs : List Value) (d1 : Value) (w : Int32) (h0 : Heap) (n0 : Nat) (v : Option Value) (h : Heap) (L : List Loc) : Prop := v = some (.int (0 : Int32)) ∧ Fr n0 L ∧ h = h0
theorem rmsg0 (hw : HW a0 Z) (a1 b : Addr) (k1 : ClassId) (vs : List Value) (d1 : Value) (w : Int32) (h0 : Heap) (n0 : Nat) (Z0 : n0 ≤ h0.size) (E_s : Exa Z h0 a1 "java/lang/String") (F_v : Fld Z h0 a1 "java/lang/String" "value" "[B" (.ref b)) (F_c : Fld Z h0 a1 "java/lang/String" "coder" "B" (.int (0 : Int32))) (V_s : Arv Z h0 b k1 .byte (0 : Int32) vs d1) (S1 : Sta Z h0 "java/lang/String" "COMPACT_STRINGS" "Z" (.int w)) (hw0 : ¬ w = (0 : Int32)) :
  own_Met l y18_ prog_24_method_5_code 1 (some .boolean) (R_ 1 0 0 12) #[(.ref a1)] Z h0 (Q_rmsg0 Z a0 a1 b k1 vs d1 w h0 n0) := by
 refine own_bd (own := "com/example/nimble_anonymizer/nimbleanonymizer/NumericColumn") rfl (plainFor_of_name pn_9) #[rv a1] ?_
 intro p e s m below meth c s₁ hx hby hq hml hown hnm hlk hrt hZ X0 e0
 refine o_aloadN X0 hq d9_0 rfl rfl ?_
 refine c_U0 X0 hq e0 hZ hown hml (k9_96U1 hw) (rmem0 hw a1 b k1 vs d1 w h0 n0 Z0 E_s F_v F_c V_s S1 hw0) E_s d9_1 ?_ 0
 rintro T_1 L_1 _ X_1 ⟨⟨⟩, Nq_1, e_1⟩
 have N_1 := Fr.app (Fr.nil n0) Nq_1
 refine o_ifYes X_1 hq (pc' := 31) d9_4 (by decide) (o_iconst X_1 hq 0 d9_31 rfl ?_)
 exact e_Z X_1 e_1 hq hlk hrt d9_32 ⟨rfl, N_1, rfl⟩
def own_sg (f : Int32 → Int32) : Int32 := (if (f (0 : Int32)) = (43 : Int32) then (1 : Int32) else (if (f (0 : Int32)) = (45 : Int32) then (1 : Int32) else (0 : Int32)))
theorem d9_7 : D9 7 = .ok (.aload_n 0, 1) := by decide +kernel
theorem d9_8 : D9 8 = .ok (.iconst 0, 1) := by decide +kernel
theorem d9_9 : D9 9 = .ok (.invokevirtual 100, 3) := by decide +kernel
theorem pd_10 : parseMethodDescriptor "(I)C" = some ⟨[.int], some .char⟩ := by decide +kernel
section Sm
variable {p : Program} {l : Launch} {e : Env} {R : Room} {s : State} {m : MethodId} {args : Array Value} {below : List Frame} {meth : Method} {c : Code} {T : State} {locs : List Loc} {cells slots : Nat} {P : Outcome → State → Prop} {pc : Nat} {Ls : Array Slot} {st : List Value}
theorem c_U1 (X : Stand p l e R s m args below meth c T locs cells slots) {cb : ByteArray} (hq : p.tables.exec = Jvm.exec ∧ c.code = cb) {Z : State} {a0 : Array Value} {h : Heap} {own C : String} {index : Nat} {y z : MethodName} {bytes : ByteArray} {maxL ML : Nat} {ret : Option FieldType} {rm : Room} {Q : Option Value → Heap → List Loc → Prop} {a : Addr} {v1 : Value}
  (eT : T.heap = h) (hZ : Z.Warmed39 s.vm) (hown : s.vm.findClass own = some m.cls) (hml : c.maxLocals = ML) (hK : own_KU a0 Z own C index y z bytes maxL ret 1) (hM : own_Met l y bytes maxL ret rm #[(.ref a), v1] Z h Q) (E : Exa Z h a C)
  (hd : decode cb pc = .ok (.invokevirtual index, 3)) 
  (k : ∀ (T' : State) (L : List Loc) (w : Value), Stand p l e R s m args below meth c T' (locs ++ L) (cells + rm.cells) (slots + rm.slots) → Q (some w) T'.heap L → own_Go p.tables e below P (T'.setTop (mkF m (pc + 3) Ls (w :: st)))) (W : Nat) (hsz : Ls.size = ML := by rfl) (hW : (st.map fun v => v.category).sum = W := by rfl) (sd : rm.frames + 1 ≤ R.frames ∧ W + (maxL + 11) + rm.locals ≤ R.locals ∧ cells + rm.cells ≤ R.cells ∧ slots + rm.slots ≤ R.slots := by decide) (hv : ∀ v h L, Q v h L → ∃ w, v = some w := by intro v h L q; first | exact Exists.intro _ q.1 | (obtain ⟨_, q⟩ := q; exact Exists.intro _ q.1) | (obtain ⟨_, _, q⟩ := q; exact Exists.intro _ q.1) | (obtain ⟨_, _, _, q⟩ := q; exact Exists.intro _ q.1)) : own_Go p.tables e below P (T.setTop (mkF m pc Ls (v1 :: (.ref a) :: st))) := by
 obtain ⟨⟨w1, ⟨ps, r, hp, hlen⟩, hy⟩, w2, w5, w6, w3, w4⟩ := hK
 obtain ⟨cB, kB, q1, -, q3⟩ := isOf hZ eT E
 have nf : NotFace s y := notFace_of_selects (args := #[]) (mvT hZ w5)
 obtain ⟨v, vm1, ⟨T', L0, k0, n0⟩, -, X', ⟨L, hQ, e1, e2, e3⟩, hst⟩ := X.virtualBack hq.1 (y := y) (z := y) hown (mvT hZ w1) (mvT hZ w2) nf (mvT hZ w5) (mvT hZ w6) hy (backOf (W := W) (Q := Q) hM hZ w4 w3 sd.1 sd.2.1) q1 q3 (g := mkF m pc Ls (v1 :: (.ref a) :: st)) rfl (by rw [hml]; exact hsz) (Steps.refl _) (argsL := [v1]) (rest := st) (lenOf hp hlen) rfl (by show 2 * 0 + _ ≤ _; rw [Nat.mul_zero, Nat.zero_add]; exact Nat.le_of_eq hW) (hb hq.2 hd) (fun _ _ => ⟨rfl, eT, sd.2.2.1, sd.2.2.2⟩)
 dsimp only [Pt.U, Pt.locs, Pt.cells, Pt.slots] at X' e1 e2 e3 hst hQ
 subst e1 e2 e3
 obtain ⟨w, rfl⟩ := hv _ _ _ hQ
 exact own_tr hst (k _ _ _ X' hQ)
end Sm
theorem k9_100U1 {a0 : Array Value} {Z : State} (hw : HW a0 Z) : own_KU a0 Z "com/example/nimble_anonymizer/nimbleanonymizer/NumericColumn" "java/lang/String" 100 y14_ y14_ jdk_42_method_56_code 2 (some .char) 1 := ⟨⟨(w_ hw 47 rfl), ⟨_, _, pd_10, rfl⟩, by decide⟩, (w_ hw 48 rfl), (w_ hw 50 rfl), (w_ hw 49 rfl), (w_ hw 8 rfl), (w_ hw 51 rfl)⟩
theorem d9_12 : D9 12 = .ok (.bipush 43, 2) := by decide +kernel
theorem d9_14 : D9 14 = .ok (.if_icmp .eq 13, 3) := by decide +kernel
theorem d9_27 : D9 27 = .ok (.iconst 1, 1) := by decide +kernel
theorem d9_28 : D9 28 = .ok (.goto 4, 3) := by decide +kernel
theorem d9_17 : D9 17 = .ok (.aload_n 0, 1) := by decide +kernel
theorem d9_18 : D9 18 = .ok (.iconst 0, 1) := by decide +kernel
theorem d9_19 : D9 19 = .ok (.invokevirtual 100, 3) := by decide +kernel
theorem d9_22 : D9 22 = .ok (.bipush 45, 2) := by decide +kernel
theorem d9_24 : D9 24 = .ok (.if_icmp .ne 7, 3) := by decide +kernel
def Q_rmsgN (Z : State) (a0 : Array Value) (a1 b : Addr) (k1 : ClassId) (N : Int32) (vs : List Value) (d1 : Value) (w : Int32) (sfv : Value) (f : Int32 → Int32) (h0 : Heap) (n0 : Nat) (v : Option Value) (h : Heap) (L : List Loc) : Prop := v = some (.int (own_sg f)) ∧ Fr n0 L ∧ h = h0
theorem rmsgN (hw : HW a0 Z) (a1 b : Addr) (k1 : ClassId) (N : Int32) (vs : List Value) (d1 : Value) (w : Int32) (sfv : Value) (f : Int32 → Int32) (h0 : Heap) (n0 : Nat) (Z0 : n0 ≤ h0.size) (E_s : Exa Z h0 a1 "java/lang/String") (F_v : Fld Z h0 a1 "java/lang/String" "value" "[B" (.ref b)) (F_c : Fld Z h0 a1 "java/lang/String" "coder" "B" (.int (0 : Int32))) (V_s : Arv Z h0 b k1 .byte N vs d1) (S1 : Sta Z h0 "java/lang/String" "COMPACT_STRINGS" "Z" (.int w)) (hw0 : ¬ w = (0 : Int32)) (hat : ∀ i : Int32, ¬ i < 0 → i < N → vs.getD i.toNatClampNeg d1 = .int (((f i).toInt8.toInt32).toInt8.toInt32)) (hf : ∀ i : Int32, ¬ (255 : Int32) < f i ∧ ¬ f i < 0) (S2 : Sta Z h0 "jdk/internal/util/Preconditions" "SIOOBE_FORMATTER" "Ljava/util/function/BiFunction;" sfv) (hsf : sfv.isRef = true) (hN0 : ¬ N = (0 : Int32)) (hNp : (0 : Int32) < N) :
  own_Met l y18_ prog_24_method_5_code 1 (some .boolean) (R_ 4 0 0 53) #[(.ref a1)] Z h0 (Q_rmsgN Z a0 a1 b k1 N vs d1 w sfv f h0 n0) := by
 refine own_bd (own := "com/example/nimble_anonymizer/nimbleanonymizer/NumericColumn") rfl (plainFor_of_name pn_9) #[rv a1] ?_
 intro p e s m below meth c s₁ hx hby hq hml hown hnm hlk hrt hZ X0 e0
 have hv : own_sg f = (if (f (0 : Int32)) = (43 : Int32) then (1 : Int32) else (if (f (0 : Int32)) = (45 : Int32) then (1 : Int32) else (0 : Int32))) := rfl
 show own_Go _ _ _ _ (s₁.setTop (mkF m 0 #[rv a1] []))
 refine o_aloadN X0 hq d9_0 rfl rfl ?_
 refine c_U0 X0 hq e0 hZ hown hml (k9_96U1 hw) (rmemN hw a1 b k1 N vs d1 w h0 n0 Z0 E_s F_v F_c V_s S1 hw0 hN0) E_s d9_1 ?_ 0
 rintro T_1 L_1 _ X_1 ⟨⟨⟩, Nq_1, e_1⟩
 have N_1 := Fr.app (Fr.nil n0) Nq_1
 refine o_ifNo X_1 hq d9_4 (by decide) (o_aloadN X_1 hq d9_7 rfl rfl (o_iconst X_1 hq 0 d9_8 rfl ?_))
 refine c_U1 X_1 hq e_1 hZ hown hml (k9_100U1 hw) (rm11 hw a1 (0 : Int32) b k1 N vs d1 w sfv f h0 n0 Z0 E_s F_v F_c V_s S1 hw0 hat hf S2 hsf (by decide) hNp) E_s d9_9 ?_ 0
 rintro T_2 L_2 _ X_2 ⟨⟨⟩, Nq_2, e_2⟩
 have N_2 := Fr.app N_1 Nq_2
 refine o_bipush X_2 hq 43 d9_12 rfl ?_
 by_cases hc14__3 : (f (0 : Int32)) = (43 : Int32)
 ·have hv_4 := hv.trans (if_pos hc14__3)
  refine o_icmpYes X_2 hq (pc' := 27) d9_14 (teq hc14__3).1 (o_iconst X_2 hq 1 d9_27 rfl (o_goto X_2 hq (pc' := 32) d9_28 ?_))
  exact e_Z X_2 e_2 hq hlk hrt d9_32 ⟨(congrArg (fun z => some (Value.int z)) hv_4.symm), N_2, rfl⟩
 ·have hv_5 := hv.trans (if_neg hc14__3)
  refine o_icmpNo X_2 hq d9_14 (feq hc14__3).1 (o_aloadN X_2 hq d9_17 rfl rfl (o_iconst X_2 hq 0 d9_18 rfl ?_))
  refine c_U1 X_2 hq e_2 hZ hown hml (k9_100U1 hw) (rm11 hw a1 (0 : Int32) b k1 N vs d1 w sfv f h0 n0 Z0 E_s F_v F_c V_s S1 hw0 hat hf S2 hsf (by decide) hNp) E_s d9_19 ?_ 0
  rintro T_6 L_6 _ X_6 ⟨⟨⟩, Nq_6, e_6⟩
  have N_6 := Fr.app N_2 Nq_6
  refine o_bipush X_6 hq 45 d9_22 rfl ?_
  by_cases hc24__7 : (f (0 : Int32)) = (45 : Int32)
  ·have hv_8 := hv_5.trans (if_pos hc24__7)
   refine o_icmpNo X_6 hq d9_24 (teq hc24__7).2 (o_iconst X_6 hq 1 d9_27 rfl (o_goto X_6 hq (pc' := 32) d9_28 ?_))
   exact e_Z X_6 e_6 hq hlk hrt d9_32 ⟨(congrArg (fun z => some (Value.int z)) hv_8.symm), N_6, rfl⟩
  ·have hv_9 := hv_5.trans (if_neg hc24__7)
   refine o_icmpYes X_6 hq (pc' := 31) d9_24 (feq hc24__7).2 (o_iconst X_6 hq 0 d9_31 rfl ?_)
   exact e_Z X_6 e_6 hq hlk hrt d9_32 ⟨(congrArg (fun z => some (Value.int z)) hv_9.symm), N_6, rfl⟩
abbrev D20 := decode jdk_43_method_4_code
theorem d20_0 : D20 0 = .ok (.iload_n 0, 1) := by decide +kernel
theorem d20_1 : D20 1 = .ok (.ifCond .lt 14, 3) := by decide +kernel
theorem d20_4 : D20 4 = .ok (.iload_n 0, 1) := by decide +kernel
theorem d20_5 : D20 5 = .ok (.sipush 255, 3) := by decide +kernel
theorem d20_8 : D20 8 = .ok (.if_icmp .gt 7, 3) := by decide +kernel
theorem d20_11 : D20 11 = .ok (.iconst 1, 1) := by decide +kernel
theorem d20_12 : D20 12 = .ok (.goto 4, 3) := by decide +kernel
theorem d20_16 : D20 16 = .ok (.ireturn, 1) := by decide +kernel
def Q_rm20 (Z : State) (a0 : Array Value) (h0 : Heap) (n0 : Nat) (v : Option Value) (h : Heap) (L : List Loc) : Prop := v = some (.int (1 : Int32)) ∧ Fr n0 L ∧ h = h0
theorem rm20 (hw : HW a0 Z) (h0 : Heap) (n0 : Nat) (Z0 : n0 ≤ h0.size) :
  own_Met l y24_ jdk_43_method_4_code 1 (some .boolean) (R_ 0 0 0 0) #[(.int (46 : Int32))] Z h0 (Q_rm20 Z a0  h0 n0) := by
 refine own_bd (own := "java/lang/StringLatin1") rfl (plainFor_of_name pn_13) #[iv 46] ?_
 intro p e s m below meth c s₁ hx hby hq hml hown hnm hlk hrt hZ X0 e0
 refine o_iloadN X0 hq d20_0 rfl (o_ifNo X0 hq d20_1 (by decide) (o_iloadN X0 hq d20_4 rfl (o_sipush X0 hq 255 d20_5 rfl (o_icmpNo X0 hq d20_8 (by decide) (o_iconst X0 hq 1 d20_11 rfl (o_goto X0 hq (pc' := 16) d20_12 ?_))))))
 exact e_Z X0 e0 hq hlk hrt d20_16 ⟨rfl, (Fr.nil n0), rfl⟩
abbrev D21 := decode jdk_29_method_65_code
theorem d21_0 : D21 0 = .ok (.iload_n 0, 1) := by decide +kernel
theorem d21_1 : D21 1 = .ok (.iload_n 1, 1) := by decide +kernel
theorem d21_2 : D21 2 = .ok (.if_icmp .lt 7, 3) := by decide +kernel
theorem d21_5 : D21 5 = .ok (.iload_n 0, 1) := by decide +kernel
theorem d21_6 : D21 6 = .ok (.goto 4, 3) := by decide +kernel
theorem d21_10 : D21 10 = .ok (.ireturn, 1) := by decide +kernel
def Q_rmmax0 (Z : State) (a0 : Array Value) (h0 : Heap) (n0 : Nat) (v : Option Value) (h : Heap) (L : List Loc) : Prop := v = some (.int (0 : Int32)) ∧ Fr n0 L ∧ h = h0
theorem rmmax0 (hw : HW a0 Z) (h0 : Heap) (n0 : Nat) (Z0 : n0 ≤ h0.size) :
  own_Met l y19_ jdk_29_method_65_code 2 (some .int) (R_ 0 0 0 0) #[(.int (0 : Int32)), (.int (0 : Int32))] Z h0 (Q_rmmax0 Z a0  h0 n0) := by
 refine own_bd (own := "java/lang/Math") rfl (Jvm.Free.JP.mathPlain rfl (by decide +kernel)) #[iv 0, iv 0] ?_
 intro p e s m below meth c s₁ hx hby hq hml hown hnm hlk hrt hZ X0 e0
 refine o_iloadN X0 hq d21_0 rfl (o_iloadN X0 hq d21_1 rfl (o_icmpNo X0 hq d21_2 (by decide) (o_iloadN X0 hq d21_5 rfl (o_goto X0 hq (pc' := 10) d21_6 ?_))))
 exact e_I X0 e0 hq hlk hrt d21_10 ⟨rfl, (Fr.nil n0), rfl⟩
def Q_rmmax1 (Z : State) (a0 : Array Value) (h0 : Heap) (n0 : Nat) (v : Option Value) (h : Heap) (L : List Loc) : Prop := v = some (.int (1 : Int32)) ∧ Fr n0 L ∧ h = h0
theorem rmmax1 (hw : HW a0 Z) (h0 : Heap) (n0 : Nat) (Z0 : n0 ≤ h0.size) :
  own_Met l y19_ jdk_29_method_65_code 2 (some .int) (R_ 0 0 0 0) #[(.int (1 : Int32)), (.int (0 : Int32))] Z h0 (Q_rmmax1 Z a0  h0 n0) := by
 refine own_bd (own := "java/lang/Math") rfl (Jvm.Free.JP.mathPlain rfl (by decide +kernel)) #[iv 1, iv 0] ?_
 intro p e s m below meth c s₁ hx hby hq hml hown hnm hlk hrt hZ X0 e0
 refine o_iloadN X0 hq d21_0 rfl (o_iloadN X0 hq d21_1 rfl (o_icmpNo X0 hq d21_2 (by decide) (o_iloadN X0 hq d21_5 rfl (o_goto X0 hq (pc' := 10) d21_6 ?_))))
 exact e_I X0 e0 hq hlk hrt d21_10 ⟨rfl, (Fr.nil n0), rfl⟩
abbrev D22 := decode jdk_29_method_69_code
theorem d22_0 : D22 0 = .ok (.iload_n 0, 1) := by decide +kernel
theorem d22_1 : D22 1 = .ok (.iload_n 1, 1) := by decide +kernel
theorem d22_2 : D22 2 = .ok (.if_icmp .gt 7, 3) := by decide +kernel
theorem d22_5 : D22 5 = .ok (.iload_n 0, 1) := by decide +kernel
theorem d22_6 : D22 6 = .ok (.goto 4, 3) := by decide +kernel
theorem d22_10 : D22 10 = .ok (.ireturn, 1) := by decide +kernel
def Q_rmmin0 (Z : State) (a0 : Array Value) (h0 : Heap) (n0 : Nat) (v : Option Value) (h : Heap) (L : List Loc) : Prop := v = some (.int (0 : Int32)) ∧ Fr n0 L ∧ h = h0
theorem rmmin0 (hw : HW a0 Z) (h0 : Heap) (n0 : Nat) (Z0 : n0 ≤ h0.size) :
  own_Met l y6_ jdk_29_method_69_code 2 (some .int) (R_ 0 0 0 0) #[(.int (0 : Int32)), (.int (0 : Int32))] Z h0 (Q_rmmin0 Z a0  h0 n0) := by
 refine own_bd (own := "java/lang/Math") rfl (Jvm.Free.JP.mathPlain rfl (by decide +kernel)) #[iv 0, iv 0] ?_
 intro p e s m below meth c s₁ hx hby hq hml hown hnm hlk hrt hZ X0 e0
 refine o_iloadN X0 hq d22_0 rfl (o_iloadN X0 hq d22_1 rfl (o_icmpNo X0 hq d22_2 (by decide) (o_iloadN X0 hq d22_5 rfl (o_goto X0 hq (pc' := 10) d22_6 ?_))))
 exact e_I X0 e0 hq hlk hrt d22_10 ⟨rfl, (Fr.nil n0), rfl⟩
def Q_rmmin1 (Z : State) (a0 : Array Value) (h0 : Heap) (n0 : Nat) (v : Option Value) (h : Heap) (L : List Loc) : Prop := v = some (.int (1 : Int32)) ∧ Fr n0 L ∧ h = h0
theorem rmmin1 (hw : HW a0 Z) (h0 : Heap) (n0 : Nat) (Z0 : n0 ≤ h0.size) :
  own_Met l y6_ jdk_29_method_69_code 2 (some .int) (R_ 0 0 0 0) #[(.int (1 : Int32)), (.int (1 : Int32))] Z h0 (Q_rmmin1 Z a0  h0 n0) := by
 refine own_bd (own := "java/lang/Math") rfl (Jvm.Free.JP.mathPlain rfl (by decide +kernel)) #[iv 1, iv 1] ?_
 intro p e s m below meth c s₁ hx hby hq hml hown hnm hlk hrt hZ X0 e0
 refine o_iloadN X0 hq d22_0 rfl (o_iloadN X0 hq d22_1 rfl (o_icmpNo X0 hq d22_2 (by decide) (o_iloadN X0 hq d22_5 rfl (o_goto X0 hq (pc' := 10) d22_6 ?_))))
 exact e_I X0 e0 hq hlk hrt d22_10 ⟨rfl, (Fr.nil n0), rfl⟩
def Q_rmmin2 (Z : State) (a0 : Array Value) (h0 : Heap) (n0 : Nat) (v : Option Value) (h : Heap) (L : List Loc) : Prop := v = some (.int (2 : Int32)) ∧ Fr n0 L ∧ h = h0
theorem rmmin2 (hw : HW a0 Z) (h0 : Heap) (n0 : Nat) (Z0 : n0 ≤ h0.size) :
  own_Met l y6_ jdk_29_method_69_code 2 (some .int) (R_ 0 0 0 0) #[(.int (2 : Int32)), (.int (2 : Int32))] Z h0 (Q_rmmin2 Z a0  h0 n0) := by
 refine own_bd (own := "java/lang/Math") rfl (Jvm.Free.JP.mathPlain rfl (by decide +kernel)) #[iv 2, iv 2] ?_
 intro p e s m below meth c s₁ hx hby hq hml hown hnm hlk hrt hZ X0 e0
 refine o_iloadN X0 hq d22_0 rfl (o_iloadN X0 hq d22_1 rfl (o_icmpNo X0 hq d22_2 (by decide) (o_iloadN X0 hq d22_5 rfl (o_goto X0 hq (pc' := 10) d22_6 ?_))))
 exact e_I X0 e0 hq hlk hrt d22_10 ⟨rfl, (Fr.nil n0), rfl⟩
def Q_rmmin3 (Z : State) (a0 : Array Value) (h0 : Heap) (n0 : Nat) (v : Option Value) (h : Heap) (L : List Loc) : Prop := v = some (.int (3 : Int32)) ∧ Fr n0 L ∧ h = h0
theorem rmmin3 (hw : HW a0 Z) (h0 : Heap) (n0 : Nat) (Z0 : n0 ≤ h0.size) :
  own_Met l y6_ jdk_29_method_69_code 2 (some .int) (R_ 0 0 0 0) #[(.int (3 : Int32)), (.int (3 : Int32))] Z h0 (Q_rmmin3 Z a0  h0 n0) := by
 refine own_bd (own := "java/lang/Math") rfl (Jvm.Free.JP.mathPlain rfl (by decide +kernel)) #[iv 3, iv 3] ?_
 intro p e s m below meth c s₁ hx hby hq hml hown hnm hlk hrt hZ X0 e0
 refine o_iloadN X0 hq d22_0 rfl (o_iloadN X0 hq d22_1 rfl (o_icmpNo X0 hq d22_2 (by decide) (o_iloadN X0 hq d22_5 rfl (o_goto X0 hq (pc' := 10) d22_6 ?_))))
 exact e_I X0 e0 hq hlk hrt d22_10 ⟨rfl, (Fr.nil n0), rfl⟩
def Q_rmmin4 (Z : State) (a0 : Array Value) (h0 : Heap) (n0 : Nat) (v : Option Value) (h : Heap) (L : List Loc) : Prop := v = some (.int (4 : Int32)) ∧ Fr n0 L ∧ h = h0
theorem rmmin4 (hw : HW a0 Z) (h0 : Heap) (n0 : Nat) (Z0 : n0 ≤ h0.size) :
  own_Met l y6_ jdk_29_method_69_code 2 (some .int) (R_ 0 0 0 0) #[(.int (4 : Int32)), (.int (4 : Int32))] Z h0 (Q_rmmin4 Z a0  h0 n0) := by
 refine own_bd (own := "java/lang/Math") rfl (Jvm.Free.JP.mathPlain rfl (by decide +kernel)) #[iv 4, iv 4] ?_
 intro p e s m below meth c s₁ hx hby hq hml hown hnm hlk hrt hZ X0 e0
 refine o_iloadN X0 hq d22_0 rfl (o_iloadN X0 hq d22_1 rfl (o_icmpNo X0 hq d22_2 (by decide) (o_iloadN X0 hq d22_5 rfl (o_goto X0 hq (pc' := 10) d22_6 ?_))))
 exact e_I X0 e0 hq hlk hrt d22_10 ⟨rfl, (Fr.nil n0), rfl⟩
def Q_rmmin5 (Z : State) (a0 : Array Value) (h0 : Heap) (n0 : Nat) (v : Option Value) (h : Heap) (L : List Loc) : Prop := v = some (.int (5 : Int32)) ∧ Fr n0 L ∧ h = h0
theorem rmmin5 (hw : HW a0 Z) (h0 : Heap) (n0 : Nat) (Z0 : n0 ≤ h0.size) :
  own_Met l y6_ jdk_29_method_69_code 2 (some .int) (R_ 0 0 0 0) #[(.int (5 : Int32)), (.int (5 : Int32))] Z h0 (Q_rmmin5 Z a0  h0 n0) := by
 refine own_bd (own := "java/lang/Math") rfl (Jvm.Free.JP.mathPlain rfl (by decide +kernel)) #[iv 5, iv 5] ?_
 intro p e s m below meth c s₁ hx hby hq hml hown hnm hlk hrt hZ X0 e0
 refine o_iloadN X0 hq d22_0 rfl (o_iloadN X0 hq d22_1 rfl (o_icmpNo X0 hq d22_2 (by decide) (o_iloadN X0 hq d22_5 rfl (o_goto X0 hq (pc' := 10) d22_6 ?_))))
 exact e_I X0 e0 hq hlk hrt d22_10 ⟨rfl, (Fr.nil n0), rfl⟩
abbrev D19 := decode jdk_43_method_22_code
theorem d19_0 : D19 0 = .ok (.iload_n 1, 1) := by decide +kernel
theorem d19_1 : D19 1 = .ok (.invokestatic 88, 3) := by decide +kernel
theorem pd_11 : parseMethodDescriptor "(I)Z" = some ⟨[.int], some .boolean⟩ := by decide +kernel
section Sm
variable {p : Program} {l : Launch} {e : Env} {R : Room} {s : State} {m : MethodId} {args : Array Value} {below : List Frame} {meth : Method} {c : Code} {T : State} {locs : List Loc} {cells slots : Nat} {P : Outcome → State → Prop} {pc : Nat} {Ls : Array Slot} {st : List Value}
theorem c_S1 (X : Stand p l e R s m args below meth c T locs cells slots) {cb : ByteArray} (hq : p.tables.exec = Jvm.exec ∧ c.code = cb) {Z : State} {a0 : Array Value} {h : Heap} {own C : String} {index : Nat} {y z : MethodName} {bytes : ByteArray} {maxL ML : Nat} {ret : Option FieldType} {rm : Room} {Q : Option Value → Heap → List Loc → Prop} {v1 : Value}
  (eT : T.heap = h) (hZ : Z.Warmed39 s.vm) (hown : s.vm.findClass own = some m.cls) (hml : c.maxLocals = ML) (hK : own_KS a0 Z own C index y z bytes maxL ret 1) (hM : own_Met l y bytes maxL ret rm #[v1] Z h Q)
  (hd : decode cb pc = .ok (.invokestatic index, 3)) 
  (k : ∀ (T' : State) (L : List Loc) (w : Value), Stand p l e R s m args below meth c T' (locs ++ L) (cells + rm.cells) (slots + rm.slots) → Q (some w) T'.heap L → own_Go p.tables e below P (T'.setTop (mkF m (pc + 3) Ls (w :: st)))) (W : Nat) (hsz : Ls.size = ML := by rfl) (hW : (st.map fun v => v.category).sum = W := by rfl) (sd : rm.frames + 1 ≤ R.frames ∧ W + (maxL + 11) + rm.locals ≤ R.locals ∧ cells + rm.cells ≤ R.cells ∧ slots + rm.slots ≤ R.slots := by decide) (hv : ∀ v h L, Q v h L → ∃ w, v = some w := by intro v h L q; first | exact Exists.intro _ q.1 | (obtain ⟨_, q⟩ := q; exact Exists.intro _ q.1) | (obtain ⟨_, _, q⟩ := q; exact Exists.intro _ q.1) | (obtain ⟨_, _, _, q⟩ := q; exact Exists.intro _ q.1)) : own_Go p.tables e below P (T.setTop (mkF m pc Ls (v1 :: st))) := by
 obtain ⟨⟨w1, ⟨ps, r, hp, hlen⟩, hy⟩, w2, w3, w4⟩ := hK
 obtain ⟨v, vm1, ⟨T', L0, k0, n0⟩, -, X', ⟨L, hQ, e1, e2, e3⟩, hst⟩ := Jvm.LawKit.callS X hq.1 (y := y) hown (mvT hZ w1) (mvT hZ w2) (mvT hZ w3) (mvT hZ w4) hy (backOf (W := W) (Q := Q) hM hZ w4 w3 sd.1 sd.2.1) (g := mkF m pc Ls (v1 :: st)) rfl (by rw [hml]; exact hsz) (argsL := [v1]) (rest := st) (lenOf hp hlen) rfl (by show 2 * 0 + _ ≤ _; rw [Nat.mul_zero, Nat.zero_add]; exact Nat.le_of_eq hW) (hb hq.2 hd) (fun _ _ => ⟨rfl, eT, sd.2.2.1, sd.2.2.2⟩)
 dsimp only [Pt.U, Pt.locs, Pt.cells, Pt.slots] at X' e1 e2 e3 hst hQ
 subst e1 e2 e3
 obtain ⟨w, rfl⟩ := hv _ _ _ hQ
 exact own_st hst (k _ _ _ X' hQ)
end Sm
theorem k19_88 {a0 : Array Value} {Z : State} (hw : HW a0 Z) : own_KS a0 Z "java/lang/StringLatin1" "" 88 y24_ y24_ jdk_43_method_4_code 1 (some .boolean) 1 := ⟨⟨(w_ hw 87 rfl), ⟨_, _, pd_11, rfl⟩, by decide⟩, (w_ hw 88 rfl), (w_ hw 59 rfl), (w_ hw 89 rfl)⟩
theorem d19_4 : D19 4 = .ok (.ifCond .ne 5, 3) := by decide +kernel
theorem d19_9 : D19 9 = .ok (.iload_n 2, 1) := by decide +kernel
theorem d19_10 : D19 10 = .ok (.iconst 0, 1) := by decide +kernel
theorem d19_11 : D19 11 = .ok (.invokestatic 92, 3) := by decide +kernel
theorem pd_12 : parseMethodDescriptor "(II)I" = some ⟨[.int, .int], some .int⟩ := by decide +kernel
theorem k19_92 {a0 : Array Value} {Z : State} (hw : HW a0 Z) : own_KS a0 Z "java/lang/StringLatin1" "" 92 y19_ y19_ jdk_29_method_65_code 2 (some .int) 2 := ⟨⟨(w_ hw 90 rfl), ⟨_, _, pd_12, rfl⟩, by decide⟩, (w_ hw 91 rfl), (w_ hw 92 rfl), (w_ hw 93 rfl)⟩
theorem d19_14 : D19 14 = .ok (.istore_n 2, 1) := by decide +kernel
theorem d19_15 : D19 15 = .ok (.iload_n 3, 1) := by decide +kernel
theorem d19_16 : D19 16 = .ok (.aload_n 0, 1) := by decide +kernel
theorem d19_17 : D19 17 = .ok (.arraylength, 1) := by decide +kernel
theorem d19_18 : D19 18 = .ok (.invokestatic 38, 3) := by decide +kernel
theorem k19_38 {a0 : Array Value} {Z : State} (hw : HW a0 Z) : own_KS a0 Z "java/lang/StringLatin1" "" 38 y6_ y6_ jdk_29_method_69_code 2 (some .int) 2 := ⟨⟨(w_ hw 94 rfl), ⟨_, _, pd_12, rfl⟩, by decide⟩, (w_ hw 95 rfl), (w_ hw 92 rfl), (w_ hw 96 rfl)⟩
theorem d19_21 : D19 21 = .ok (.istore_n 3, 1) := by decide +kernel
theorem d19_22 : D19 22 = .ok (.iload_n 2, 1) := by decide +kernel
theorem d19_23 : D19 23 = .ok (.iload_n 3, 1) := by decide +kernel
theorem d19_24 : D19 24 = .ok (.if_icmp .lt 5, 3) := by decide +kernel
theorem d19_27 : D19 27 = .ok (.iconst (-1), 1) := by decide +kernel
theorem d19_28 : D19 28 = .ok (.ireturn, 1) := by decide +kernel
def Q_rmli0_0 (Z : State) (a0 : Array Value) (a1 : Addr) (k1 : ClassId) (vs : List Value) (d1 : Value) (f : Int32 → Int32) (h0 : Heap) (n0 : Nat) (v : Option Value) (h : Heap) (L : List Loc) : Prop := v = some (.int (-1 : Int32)) ∧ Fr n0 L ∧ h = h0
theorem rmli0_0 (hw : HW a0 Z) (a1 : Addr) (k1 : ClassId) (vs : List Value) (d1 : Value) (f : Int32 → Int32) (h0 : Heap) (n0 : Nat) (Z0 : n0 ≤ h0.size) (V_s : Arv Z h0 a1 k1 .byte (0 : Int32) vs d1) (hat : ∀ i : Int32, ¬ i < 0 → i < (0 : Int32) → vs.getD i.toNatClampNeg d1 = .int (((f i).toInt8.toInt32).toInt8.toInt32)) :
  own_Met l y1_ jdk_43_method_22_code 4 (some .int) (R_ 1 0 0 13) #[(.ref a1), (.int (46 : Int32)), (.int (0 : Int32)), (.int (0 : Int32))] Z h0 (Q_rmli0_0 Z a0 a1 k1 vs d1 f h0 n0) := by
 refine own_bd (own := "java/lang/StringLatin1") rfl (plainFor_of_name pn_13) #[rv a1, iv 46, iv 0, iv 0] ?_
 intro p e s m below meth c s₁ hx hby hq hml hown hnm hlk hrt hZ X0 e0
 refine o_iloadN X0 hq d19_0 rfl ?_
 refine c_S1 X0 hq e0 hZ hown hml (k19_88 hw) (rm20 hw   h0 n0 Z0) d19_1 ?_ 0
 rintro T_1 L_1 _ X_1 ⟨⟨⟩, Nq_1, e_1⟩
 have N_1 := Fr.app (Fr.nil n0) Nq_1
 refine o_ifYes X_1 hq (pc' := 9) d19_4 (by decide) (o_iloadN X_1 hq d19_9 rfl (o_iconst X_1 hq 0 d19_10 rfl ?_))
 refine c_S2 X_1 hq e_1 hZ hown hml (k19_92 hw) (rmmax0 hw   h0 n0 Z0) d19_11 ?_ 0
 rintro T_2 L_2 _ X_2 ⟨⟨⟩, Nq_2, e_2⟩
 have N_2 := Fr.app N_1 Nq_2
 refine o_istoreN X_2 hq d19_14 (l' := #[rv a1, iv 46, iv 0, iv 0]) rfl (o_iloadN X_2 hq d19_15 rfl (o_aloadN X_2 hq d19_16 rfl rfl ?_))
 obtain ⟨cl_3, Ar_3, qk_3, Sz_3, Ng_3, Hs_3, Gs_3⟩ := id V_s
 refine own_st (X_2.arraylength hx (by rw [e_2]; exact Ar_3.1) (State.isArrayOf_alike hZ.alike Ar_3.2.1) (g := (mkF m 17 #[rv a1, iv 46, iv 0, iv 0] [(.ref a1), (.int 0)])) rfl rfl (hb hby d19_17)) ?_
 rw [len_of Sz_3 Ng_3]
 show own_Go _ _ _ _ (T_2.setTop (mkF m 18 #[rv a1, iv 46, iv 0, iv 0] [(.int 0), (.int 0)]))
 refine c_S2 X_2 hq e_2 hZ hown hml (k19_38 hw) (rmmin0 hw   h0 n0 Z0) d19_18 ?_ 0
 rintro T_4 L_4 _ X_4 ⟨⟨⟩, Nq_4, e_4⟩
 have N_4 := Fr.app N_2 Nq_4
 refine o_istoreN X_4 hq d19_21 (l' := #[rv a1, iv 46, iv 0, iv 0]) rfl (o_iloadN X_4 hq d19_22 rfl (o_iloadN X_4 hq d19_23 rfl (o_icmpNo X_4 hq d19_24 (by decide) (o_iconst X_4 hq (-1) d19_27 rfl ?_))))
 exact e_I X_4 e_4 hq hlk hrt d19_28 ⟨rfl, N_4, rfl⟩
abbrev D16 := decode jdk_42_method_80_code
theorem d16_0 : D16 0 = .ok (.aload_n 0, 1) := by decide +kernel
theorem d16_1 : D16 1 = .ok (.invokevirtual 492, 3) := by decide +kernel
theorem k16_492U1 {a0 : Array Value} {Z : State} (hw : HW a0 Z) : own_KU a0 Z "java/lang/String" "java/lang/String" 492 y12_ y12_ jdk_42_method_154_code 1 (some .boolean) 0 := ⟨⟨(w_ hw 52 rfl), ⟨_, _, pd_8, rfl⟩, by decide⟩, (w_ hw 53 rfl), (w_ hw 55 rfl), (w_ hw 54 rfl), (w_ hw 8 rfl), (w_ hw 56 rfl)⟩
theorem d16_4 : D16 4 = .ok (.ifCond .eq 19, 3) := by decide +kernel
theorem d16_7 : D16 7 = .ok (.aload_n 0, 1) := by decide +kernel
theorem d16_8 : D16 8 = .ok (.getfield 9, 3) := by decide +kernel
theorem d16_11 : D16 11 = .ok (.iload_n 1, 1) := by decide +kernel
theorem d16_12 : D16 12 = .ok (.iload_n 2, 1) := by decide +kernel
theorem d16_13 : D16 13 = .ok (.aload_n 0, 1) := by decide +kernel
theorem d16_14 : D16 14 = .ok (.invokevirtual 505, 3) := by decide +kernel
theorem pd_13 : parseMethodDescriptor "()I" = some ⟨[], some .int⟩ := by decide +kernel
theorem k16_505U1 {a0 : Array Value} {Z : State} (hw : HW a0 Z) : own_KU a0 Z "java/lang/String" "java/lang/String" 505 y13_ y13_ jdk_42_method_54_code 1 (some .int) 0 := ⟨⟨(w_ hw 74 rfl), ⟨_, _, pd_13, rfl⟩, by decide⟩, (w_ hw 75 rfl), (w_ hw 77 rfl), (w_ hw 76 rfl), (w_ hw 8 rfl), (w_ hw 78 rfl)⟩
theorem d16_17 : D16 17 = .ok (.invokestatic 637, 3) := by decide +kernel
theorem pd_14 : parseMethodDescriptor "([BIII)I" = some ⟨[(.array .byte), .int, .int, .int], some .int⟩ := by decide +kernel
section Sm
variable {p : Program} {l : Launch} {e : Env} {R : Room} {s : State} {m : MethodId} {args : Array Value} {below : List Frame} {meth : Method} {c : Code} {T : State} {locs : List Loc} {cells slots : Nat} {P : Outcome → State → Prop} {pc : Nat} {Ls : Array Slot} {st : List Value}
theorem c_S4 (X : Stand p l e R s m args below meth c T locs cells slots) {cb : ByteArray} (hq : p.tables.exec = Jvm.exec ∧ c.code = cb) {Z : State} {a0 : Array Value} {h : Heap} {own C : String} {index : Nat} {y z : MethodName} {bytes : ByteArray} {maxL ML : Nat} {ret : Option FieldType} {rm : Room} {Q : Option Value → Heap → List Loc → Prop} {v1 v2 v3 v4 : Value}
  (eT : T.heap = h) (hZ : Z.Warmed39 s.vm) (hown : s.vm.findClass own = some m.cls) (hml : c.maxLocals = ML) (hK : own_KS a0 Z own C index y z bytes maxL ret 4) (hM : own_Met l y bytes maxL ret rm #[v1, v2, v3, v4] Z h Q)
  (hd : decode cb pc = .ok (.invokestatic index, 3)) 
  (k : ∀ (T' : State) (L : List Loc) (w : Value), Stand p l e R s m args below meth c T' (locs ++ L) (cells + rm.cells) (slots + rm.slots) → Q (some w) T'.heap L → own_Go p.tables e below P (T'.setTop (mkF m (pc + 3) Ls (w :: st)))) (W : Nat) (hsz : Ls.size = ML := by rfl) (hW : (st.map fun v => v.category).sum = W := by rfl) (sd : rm.frames + 1 ≤ R.frames ∧ W + (maxL + 11) + rm.locals ≤ R.locals ∧ cells + rm.cells ≤ R.cells ∧ slots + rm.slots ≤ R.slots := by decide) (hv : ∀ v h L, Q v h L → ∃ w, v = some w := by intro v h L q; first | exact Exists.intro _ q.1 | (obtain ⟨_, q⟩ := q; exact Exists.intro _ q.1) | (obtain ⟨_, _, q⟩ := q; exact Exists.intro _ q.1) | (obtain ⟨_, _, _, q⟩ := q; exact Exists.intro _ q.1)) : own_Go p.tables e below P (T.setTop (mkF m pc Ls (v4 :: v3 :: v2 :: v1 :: st))) := by
 obtain ⟨⟨w1, ⟨ps, r, hp, hlen⟩, hy⟩, w2, w3, w4⟩ := hK
 obtain ⟨v, vm1, ⟨T', L0, k0, n0⟩, -, X', ⟨L, hQ, e1, e2, e3⟩, hst⟩ := Jvm.LawKit.callS X hq.1 (y := y) hown (mvT hZ w1) (mvT hZ w2) (mvT hZ w3) (mvT hZ w4) hy (backOf (W := W) (Q := Q) hM hZ w4 w3 sd.1 sd.2.1) (g := mkF m pc Ls (v4 :: v3 :: v2 :: v1 :: st)) rfl (by rw [hml]; exact hsz) (argsL := [v1, v2, v3, v4]) (rest := st) (lenOf hp hlen) rfl (by show 2 * 0 + _ ≤ _; rw [Nat.mul_zero, Nat.zero_add]; exact Nat.le_of_eq hW) (hb hq.2 hd) (fun _ _ => ⟨rfl, eT, sd.2.2.1, sd.2.2.2⟩)
 dsimp only [Pt.U, Pt.locs, Pt.cells, Pt.slots] at X' e1 e2 e3 hst hQ
 subst e1 e2 e3
 obtain ⟨w, rfl⟩ := hv _ _ _ hQ
 exact own_st hst (k _ _ _ X' hQ)
end Sm
theorem k16_637 {a0 : Array Value} {Z : State} (hw : HW a0 Z) : own_KS a0 Z "java/lang/String" "" 637 y1_ y1_ jdk_43_method_22_code 4 (some .int) 4 := ⟨⟨(w_ hw 84 rfl), ⟨_, _, pd_14, rfl⟩, by decide⟩, (w_ hw 85 rfl), (w_ hw 59 rfl), (w_ hw 86 rfl)⟩
theorem d16_20 : D16 20 = .ok (.goto 16, 3) := by decide +kernel
theorem d16_36 : D16 36 = .ok (.ireturn, 1) := by decide +kernel
def Q_rmsi0_0 (Z : State) (a0 : Array Value) (a1 b : Addr) (k1 : ClassId) (vs : List Value) (d1 : Value) (w : Int32) (sfv : Value) (f : Int32 → Int32) (h0 : Heap) (n0 : Nat) (v : Option Value) (h : Heap) (L : List Loc) : Prop := v = some (.int (-1 : Int32)) ∧ Fr n0 L ∧ h = h0
theorem rmsi0_0 (hw : HW a0 Z) (a1 b : Addr) (k1 : ClassId) (vs : List Value) (d1 : Value) (w : Int32) (sfv : Value) (f : Int32 → Int32) (h0 : Heap) (n0 : Nat) (Z0 : n0 ≤ h0.size) (E_s : Exa Z h0 a1 "java/lang/String") (F_v : Fld Z h0 a1 "java/lang/String" "value" "[B" (.ref b)) (F_c : Fld Z h0 a1 "java/lang/String" "coder" "B" (.int (0 : Int32))) (V_s : Arv Z h0 b k1 .byte (0 : Int32) vs d1) (S1 : Sta Z h0 "java/lang/String" "COMPACT_STRINGS" "Z" (.int w)) (hw0 : ¬ w = (0 : Int32)) (hat : ∀ i : Int32, ¬ i < 0 → i < (0 : Int32) → vs.getD i.toNatClampNeg d1 = .int (((f i).toInt8.toInt32).toInt8.toInt32)) (hf : ∀ i : Int32, ¬ (255 : Int32) < f i ∧ ¬ f i < 0) (S2 : Sta Z h0 "jdk/internal/util/Preconditions" "SIOOBE_FORMATTER" "Ljava/util/function/BiFunction;" sfv) (hsf : sfv.isRef = true) :
  own_Met l y2_ jdk_42_method_80_code 3 (some .int) (R_ 2 0 0 28) #[(.ref a1), (.int (46 : Int32)), (.int (0 : Int32))] Z h0 (Q_rmsi0_0 Z a0 a1 b k1 vs d1 w sfv f h0 n0) := by
 refine own_bd (own := "java/lang/String") rfl (plainFor_of_name pn_3) #[rv a1, iv 46, iv 0] ?_
 intro p e s m below meth c s₁ hx hby hq hml hown hnm hlk hrt hZ X0 e0
 refine o_aloadN X0 hq d16_0 rfl rfl ?_
 refine c_U0 X0 hq e0 hZ hown hml (k16_492U1 hw) (rm12 hw a1 w h0 n0 Z0 F_c S1 hw0) E_s d16_1 ?_ 0
 rintro T_1 L_1 _ X_1 ⟨⟨⟩, Nq_1, e_1⟩
 have N_1 := Fr.app (Fr.nil n0) Nq_1
 refine o_ifNo X_1 hq d16_4 (by decide) (o_aloadN X_1 hq d16_7 rfl rfl ?_)
 obtain ⟨T_2, X_2, e_2, st_2⟩ := getF X_1 hx hZ hown (host := "") (Or.inl (w_ hw 33 rfl)) Via.refl e_1 F_v (g := (mkF m 8 #[rv a1, iv 46, iv 0] [(.ref a1)])) rfl rfl (hb hby d16_8)
 refine own_st st_2 ?_
 show own_Go _ _ _ _ (T_2.setTop (mkF m 11 #[rv a1, iv 46, iv 0] [(.ref b)]))
 refine o_iloadN X_2 hq d16_11 rfl (o_iloadN X_2 hq d16_12 rfl (o_aloadN X_2 hq d16_13 rfl rfl ?_))
 refine c_U0 X_2 hq e_2 hZ hown hml (k16_505U1 hw) (rmlenN hw a1 b k1 (0 : Int32) vs d1 w h0 n0 Z0 E_s F_v F_c V_s S1 hw0) E_s d16_14 ?_ 3
 rintro T_3 L_3 _ X_3 ⟨⟨⟩, Nq_3, e_3⟩
 have N_3 := Fr.app N_1 Nq_3
 refine c_S4 X_3 hq e_3 hZ hown hml (k16_637 hw) (rmli0_0 hw b k1 vs d1 f h0 n0 Z0 V_s hat) d16_17 ?_ 0
 rintro T_4 L_4 _ X_4 ⟨⟨⟩, Nq_4, e_4⟩
 have N_4 := Fr.app N_3 Nq_4
 refine o_goto X_4 hq (pc' := 36) d16_20 ?_
 exact e_I X_4 e_4 hq hlk hrt d16_36 ⟨rfl, N_4, rfl⟩
def own_ix_0_1 (f : Int32 → Int32) : Int32 := (if (((f (0 : Int32)).toInt8.toInt32).toInt8.toInt32) = (46 : Int32) then (0 : Int32) else (-1 : Int32))
abbrev D23 := decode jdk_43_method_23_code
theorem d23_0 : D23 0 = .ok (.iload_n 1, 1) := by decide +kernel
theorem d23_1 : D23 1 = .ok (.i2b, 1) := by decide +kernel
theorem d23_2 : D23 2 = .ok (.istore 4, 2) := by decide +kernel
theorem d23_4 : D23 4 = .ok (.iload_n 2, 1) := by decide +kernel
theorem d23_5 : D23 5 = .ok (.istore 5, 2) := by decide +kernel
theorem d23_7 : D23 7 = .ok (.iload 5, 2) := by decide +kernel
theorem d23_9 : D23 9 = .ok (.iload_n 3, 1) := by decide +kernel
theorem d23_10 : D23 10 = .ok (.if_icmp .ge 21, 3) := by decide +kernel
theorem d23_13 : D23 13 = .ok (.aload_n 0, 1) := by decide +kernel
theorem d23_14 : D23 14 = .ok (.iload 5, 2) := by decide +kernel
theorem d23_16 : D23 16 = .ok (.baload, 1) := by decide +kernel
theorem d23_17 : D23 17 = .ok (.iload 4, 2) := by decide +kernel
theorem d23_19 : D23 19 = .ok (.if_icmp .ne 6, 3) := by decide +kernel
theorem d23_22 : D23 22 = .ok (.iload 5, 2) := by decide +kernel
theorem d23_24 : D23 24 = .ok (.ireturn, 1) := by decide +kernel
theorem d23_25 : D23 25 = .ok (.iinc 5 1, 3) := by decide +kernel
theorem d23_28 : D23 28 = .ok (.goto (-21), 3) := by decide +kernel
theorem d23_31 : D23 31 = .ok (.iconst (-1), 1) := by decide +kernel
theorem d23_32 : D23 32 = .ok (.ireturn, 1) := by decide +kernel
def Q_rmix0_1 (Z : State) (a0 : Array Value) (a1 : Addr) (k1 : ClassId) (vs : List Value) (d1 : Value) (f : Int32 → Int32) (h0 : Heap) (n0 : Nat) (v : Option Value) (h : Heap) (L : List Loc) : Prop := v = some (.int (own_ix_0_1 f)) ∧ Fr n0 L ∧ h = h0
theorem rmix0_1 (hw : HW a0 Z) (a1 : Addr) (k1 : ClassId) (vs : List Value) (d1 : Value) (f : Int32 → Int32) (h0 : Heap) (n0 : Nat) (Z0 : n0 ≤ h0.size) (V_s : Arv Z h0 a1 k1 .byte (1 : Int32) vs d1) (hat : ∀ i : Int32, ¬ i < 0 → i < (1 : Int32) → vs.getD i.toNatClampNeg d1 = .int (((f i).toInt8.toInt32).toInt8.toInt32)) :
  own_Met l y3_ jdk_43_method_23_code 6 (some .int) (R_ 0 0 0 0) #[(.ref a1), (.int (46 : Int32)), (.int (0 : Int32)), (.int (1 : Int32))] Z h0 (Q_rmix0_1 Z a0 a1 k1 vs d1 f h0 n0) := by
 refine own_bd (own := "java/lang/StringLatin1") rfl (plainFor_of_name pn_13) #[rv a1, iv 46, iv 0, iv 1, .unset, .unset] ?_
 intro p e s m below meth c s₁ hx hby hq hml hown hnm hlk hrt hZ X0 e0
 have hv : own_ix_0_1 f = (if (((f (0 : Int32)).toInt8.toInt32).toInt8.toInt32) = (46 : Int32) then (0 : Int32) else (-1 : Int32)) := rfl
 show own_Go _ _ _ _ (s₁.setTop (mkF m 0 #[rv a1, iv 46, iv 0, iv 1, .unset, .unset] []))
 refine o_iloadN X0 hq d23_0 rfl (o_i2b X0 hq d23_1 ?_)
 show own_Go _ _ _ _ (s₁.setTop (mkF m 2 #[rv a1, iv 46, iv 0, iv 1, .unset, .unset] [(.int 46)]))
 refine o_istore X0 hq d23_2 (l' := #[rv a1, iv 46, iv 0, iv 1, iv 46, .unset]) rfl (o_iloadN X0 hq d23_4 rfl (o_istore X0 hq d23_5 (l' := #[rv a1, iv 46, iv 0, iv 1, iv 46, iv 0]) rfl (o_iload X0 hq d23_7 rfl (o_iloadN X0 hq d23_9 rfl (o_icmpNo X0 hq d23_10 (by decide) (o_aloadN X0 hq d23_13 rfl rfl (o_iload X0 hq d23_14 rfl ?_)))))))
 obtain ⟨cl_1, Ar_1, qk_1, Sz_1, Ng_1, Hs_1, Gs_1⟩ := id V_s
 refine own_st (X0.baloadBytes hx (j := (0 : Int32)) (v := (.int (((f (0 : Int32)).toInt8.toInt32).toInt8.toInt32))) (by rw [e0]; exact Ar_1.1) (State.isArrayOf_alike hZ.alike Ar_1.2.1) Ar_1.2.2 (inb_of Sz_1 ⟨by decide, by decide⟩) (Hs_1.at (j := (0 : Int32)) (inb_of Sz_1 ⟨by decide, by decide⟩) (hat (0 : Int32) (by decide) (by decide))) (g := (mkF m 16 #[rv a1, iv 46, iv 0, iv 1, iv 46, iv 0] [(.int 0), (.ref a1)])) rfl rfl (hb hby d23_16)) ?_
 show own_Go _ _ _ _ (s₁.setTop (mkF m 17 #[rv a1, iv 46, iv 0, iv 1, iv 46, iv 0] [(.int (((f (0 : Int32)).toInt8.toInt32).toInt8.toInt32))]))
 refine o_iload X0 hq d23_17 rfl ?_
 by_cases hc19__2 : (((f (0 : Int32)).toInt8.toInt32).toInt8.toInt32) = (46 : Int32)
 ·have hv_3 := hv.trans (if_pos hc19__2)
  refine o_icmpNo X0 hq d23_19 (teq hc19__2).2 (o_iload X0 hq d23_22 rfl ?_)
  exact e_I X0 e0 hq hlk hrt d23_24 ⟨(congrArg (fun z => some (Value.int z)) hv_3.symm), (Fr.nil n0), rfl⟩
 ·have hv_4 := hv.trans (if_neg hc19__2)
  refine o_icmpYes X0 hq (pc' := 25) d23_19 (feq hc19__2).2 (o_iinc X0 hq d23_25 rfl (l' := #[rv a1, iv 46, iv 0, iv 1, iv 46, iv 1]) rfl (o_goto X0 hq (pc' := 7) d23_28 (o_iload X0 hq d23_7 rfl (o_iloadN X0 hq d23_9 rfl (o_icmpYes X0 hq (pc' := 31) d23_10 (by decide) (o_iconst X0 hq (-1) d23_31 rfl ?_))))))
  exact e_I X0 e0 hq hlk hrt d23_32 ⟨(congrArg (fun z => some (Value.int z)) hv_4.symm), (Fr.nil n0), rfl⟩
theorem d19_29 : D19 29 = .ok (.aload_n 0, 1) := by decide +kernel
theorem d19_30 : D19 30 = .ok (.iload_n 1, 1) := by decide +kernel
theorem d19_31 : D19 31 = .ok (.iload_n 2, 1) := by decide +kernel
theorem d19_32 : D19 32 = .ok (.iload_n 3, 1) := by decide +kernel
theorem d19_33 : D19 33 = .ok (.invokestatic 95, 3) := by decide +kernel
theorem k19_95 {a0 : Array Value} {Z : State} (hw : HW a0 Z) : own_KS a0 Z "java/lang/StringLatin1" "" 95 y3_ y3_ jdk_43_method_23_code 6 (some .int) 4 := ⟨⟨(w_ hw 97 rfl), ⟨_, _, pd_14, rfl⟩, by decide⟩, (w_ hw 98 rfl), (w_ hw 59 rfl), (w_ hw 99 rfl)⟩
theorem d19_36 : D19 36 = .ok (.ireturn, 1) := by decide +kernel
def Q_rmli0_1 (Z : State) (a0 : Array Value) (a1 : Addr) (k1 : ClassId) (vs : List Value) (d1 : Value) (f : Int32 → Int32) (h0 : Heap) (n0 : Nat) (v : Option Value) (h : Heap) (L : List Loc) : Prop := v = some (.int (own_ix_0_1 f)) ∧ Fr n0 L ∧ h = h0
theorem rmli0_1 (hw : HW a0 Z) (a1 : Addr) (k1 : ClassId) (vs : List Value) (d1 : Value) (f : Int32 → Int32) (h0 : Heap) (n0 : Nat) (Z0 : n0 ≤ h0.size) (V_s : Arv Z h0 a1 k1 .byte (1 : Int32) vs d1) (hat : ∀ i : Int32, ¬ i < 0 → i < (1 : Int32) → vs.getD i.toNatClampNeg d1 = .int (((f i).toInt8.toInt32).toInt8.toInt32)) :
  own_Met l y1_ jdk_43_method_22_code 4 (some .int) (R_ 1 0 0 17) #[(.ref a1), (.int (46 : Int32)), (.int (0 : Int32)), (.int (1 : Int32))] Z h0 (Q_rmli0_1 Z a0 a1 k1 vs d1 f h0 n0) := by
 refine own_bd (own := "java/lang/StringLatin1") rfl (plainFor_of_name pn_13) #[rv a1, iv 46, iv 0, iv 1] ?_
 intro p e s m below meth c s₁ hx hby hq hml hown hnm hlk hrt hZ X0 e0
 refine o_iloadN X0 hq d19_0 rfl ?_
 refine c_S1 X0 hq e0 hZ hown hml (k19_88 hw) (rm20 hw   h0 n0 Z0) d19_1 ?_ 0
 rintro T_1 L_1 _ X_1 ⟨⟨⟩, Nq_1, e_1⟩
 have N_1 := Fr.app (Fr.nil n0) Nq_1
 refine o_ifYes X_1 hq (pc' := 9) d19_4 (by decide) (o_iloadN X_1 hq d19_9 rfl (o_iconst X_1 hq 0 d19_10 rfl ?_))
 refine c_S2 X_1 hq e_1 hZ hown hml (k19_92 hw) (rmmax0 hw   h0 n0 Z0) d19_11 ?_ 0
 rintro T_2 L_2 _ X_2 ⟨⟨⟩, Nq_2, e_2⟩
 have N_2 := Fr.app N_1 Nq_2
 refine o_istoreN X_2 hq d19_14 (l' := #[rv a1, iv 46, iv 0, iv 1]) rfl (o_iloadN X_2 hq d19_15 rfl (o_aloadN X_2 hq d19_16 rfl rfl ?_))
 obtain ⟨cl_3, Ar_3, qk_3, Sz_3, Ng_3, Hs_3, Gs_3⟩ := id V_s
 refine own_st (X_2.arraylength hx (by rw [e_2]; exact Ar_3.1) (State.isArrayOf_alike hZ.alike Ar_3.2.1) (g := (mkF m 17 #[rv a1, iv 46, iv 0, iv 1] [(.ref a1), (.int 1)])) rfl rfl (hb hby d19_17)) ?_
 rw [len_of Sz_3 Ng_3]
 show own_Go _ _ _ _ (T_2.setTop (mkF m 18 #[rv a1, iv 46, iv 0, iv 1] [(.int 1), (.int 1)]))
 refine c_S2 X_2 hq e_2 hZ hown hml (k19_38 hw) (rmmin1 hw   h0 n0 Z0) d19_18 ?_ 0
 rintro T_4 L_4 _ X_4 ⟨⟨⟩, Nq_4, e_4⟩
 have N_4 := Fr.app N_2 Nq_4
 refine o_istoreN X_4 hq d19_21 (l' := #[rv a1, iv 46, iv 0, iv 1]) rfl (o_iloadN X_4 hq d19_22 rfl (o_iloadN X_4 hq d19_23 rfl (o_icmpYes X_4 hq (pc' := 29) d19_24 (by decide) (o_aloadN X_4 hq d19_29 rfl rfl (o_iloadN X_4 hq d19_30 rfl (o_iloadN X_4 hq d19_31 rfl (o_iloadN X_4 hq d19_32 rfl ?_)))))))
 refine c_S4 X_4 hq e_4 hZ hown hml (k19_95 hw) (rmix0_1 hw a1 k1 vs d1 f h0 n0 Z0 V_s hat) d19_33 ?_ 0
 rintro T_5 L_5 _ X_5 ⟨⟨⟩, Nq_5, e_5⟩
 have N_5 := Fr.app N_4 Nq_5
 exact e_I X_5 e_5 hq hlk hrt d19_36 ⟨rfl, N_5, rfl⟩
def Q_rmsi0_1 (Z : State) (a0 : Array Value) (a1 b : Addr) (k1 : ClassId) (vs : List Value) (d1 : Value) (w : Int32) (sfv : Value) (f : Int32 → Int32) (h0 : Heap) (n0 : Nat) (v : Option Value) (h : Heap) (L : List Loc) : Prop := v = some (.int (own_ix_0_1 f)) ∧ Fr n0 L ∧ h = h0
theorem rmsi0_1 (hw : HW a0 Z) (a1 b : Addr) (k1 : ClassId) (vs : List Value) (d1 : Value) (w : Int32) (sfv : Value) (f : Int32 → Int32) (h0 : Heap) (n0 : Nat) (Z0 : n0 ≤ h0.size) (E_s : Exa Z h0 a1 "java/lang/String") (F_v : Fld Z h0 a1 "java/lang/String" "value" "[B" (.ref b)) (F_c : Fld Z h0 a1 "java/lang/String" "coder" "B" (.int (0 : Int32))) (V_s : Arv Z h0 b k1 .byte (1 : Int32) vs d1) (S1 : Sta Z h0 "java/lang/String" "COMPACT_STRINGS" "Z" (.int w)) (hw0 : ¬ w = (0 : Int32)) (hat : ∀ i : Int32, ¬ i < 0 → i < (1 : Int32) → vs.getD i.toNatClampNeg d1 = .int (((f i).toInt8.toInt32).toInt8.toInt32)) (hf : ∀ i : Int32, ¬ (255 : Int32) < f i ∧ ¬ f i < 0) (S2 : Sta Z h0 "jdk/internal/util/Preconditions" "SIOOBE_FORMATTER" "Ljava/util/function/BiFunction;" sfv) (hsf : sfv.isRef = true) :
  own_Met l y2_ jdk_42_method_80_code 3 (some .int) (R_ 2 0 0 32) #[(.ref a1), (.int (46 : Int32)), (.int (0 : Int32))] Z h0 (Q_rmsi0_1 Z a0 a1 b k1 vs d1 w sfv f h0 n0) := by
 refine own_bd (own := "java/lang/String") rfl (plainFor_of_name pn_3) #[rv a1, iv 46, iv 0] ?_
 intro p e s m below meth c s₁ hx hby hq hml hown hnm hlk hrt hZ X0 e0
 refine o_aloadN X0 hq d16_0 rfl rfl ?_
 refine c_U0 X0 hq e0 hZ hown hml (k16_492U1 hw) (rm12 hw a1 w h0 n0 Z0 F_c S1 hw0) E_s d16_1 ?_ 0
 rintro T_1 L_1 _ X_1 ⟨⟨⟩, Nq_1, e_1⟩
 have N_1 := Fr.app (Fr.nil n0) Nq_1
 refine o_ifNo X_1 hq d16_4 (by decide) (o_aloadN X_1 hq d16_7 rfl rfl ?_)
 obtain ⟨T_2, X_2, e_2, st_2⟩ := getF X_1 hx hZ hown (host := "") (Or.inl (w_ hw 33 rfl)) Via.refl e_1 F_v (g := (mkF m 8 #[rv a1, iv 46, iv 0] [(.ref a1)])) rfl rfl (hb hby d16_8)
 refine own_st st_2 ?_
 show own_Go _ _ _ _ (T_2.setTop (mkF m 11 #[rv a1, iv 46, iv 0] [(.ref b)]))
 refine o_iloadN X_2 hq d16_11 rfl (o_iloadN X_2 hq d16_12 rfl (o_aloadN X_2 hq d16_13 rfl rfl ?_))
 refine c_U0 X_2 hq e_2 hZ hown hml (k16_505U1 hw) (rmlenN hw a1 b k1 (1 : Int32) vs d1 w h0 n0 Z0 E_s F_v F_c V_s S1 hw0) E_s d16_14 ?_ 3
 rintro T_3 L_3 _ X_3 ⟨⟨⟩, Nq_3, e_3⟩
 have N_3 := Fr.app N_1 Nq_3
 refine c_S4 X_3 hq e_3 hZ hown hml (k16_637 hw) (rmli0_1 hw b k1 vs d1 f h0 n0 Z0 V_s hat) d16_17 ?_ 0
 rintro T_4 L_4 _ X_4 ⟨⟨⟩, Nq_4, e_4⟩
 have N_4 := Fr.app N_3 Nq_4
 refine o_goto X_4 hq (pc' := 36) d16_20 ?_
 exact e_I X_4 e_4 hq hlk hrt d16_36 ⟨rfl, N_4, rfl⟩
def Q_rmli1_1 (Z : State) (a0 : Array Value) (a1 : Addr) (k1 : ClassId) (vs : List Value) (d1 : Value) (f : Int32 → Int32) (h0 : Heap) (n0 : Nat) (v : Option Value) (h : Heap) (L : List Loc) : Prop := v = some (.int (-1 : Int32)) ∧ Fr n0 L ∧ h = h0
theorem rmli1_1 (hw : HW a0 Z) (a1 : Addr) (k1 : ClassId) (vs : List Value) (d1 : Value) (f : Int32 → Int32) (h0 : Heap) (n0 : Nat) (Z0 : n0 ≤ h0.size) (V_s : Arv Z h0 a1 k1 .byte (1 : Int32) vs d1) (hat : ∀ i : Int32, ¬ i < 0 → i < (1 : Int32) → vs.getD i.toNatClampNeg d1 = .int (((f i).toInt8.toInt32).toInt8.toInt32)) :
  own_Met l y1_ jdk_43_method_22_code 4 (some .int) (R_ 1 0 0 13) #[(.ref a1), (.int (46 : Int32)), (.int (1 : Int32)), (.int (1 : Int32))] Z h0 (Q_rmli1_1 Z a0 a1 k1 vs d1 f h0 n0) := by
 refine own_bd (own := "java/lang/StringLatin1") rfl (plainFor_of_name pn_13) #[rv a1, iv 46, iv 1, iv 1] ?_
 intro p e s m below meth c s₁ hx hby hq hml hown hnm hlk hrt hZ X0 e0
 refine o_iloadN X0 hq d19_0 rfl ?_
 refine c_S1 X0 hq e0 hZ hown hml (k19_88 hw) (rm20 hw   h0 n0 Z0) d19_1 ?_ 0
 rintro T_1 L_1 _ X_1 ⟨⟨⟩, Nq_1, e_1⟩
 have N_1 := Fr.app (Fr.nil n0) Nq_1
 refine o_ifYes X_1 hq (pc' := 9) d19_4 (by decide) (o_iloadN X_1 hq d19_9 rfl (o_iconst X_1 hq 0 d19_10 rfl ?_))
 refine c_S2 X_1 hq e_1 hZ hown hml (k19_92 hw) (rmmax1 hw   h0 n0 Z0) d19_11 ?_ 0
 rintro T_2 L_2 _ X_2 ⟨⟨⟩, Nq_2, e_2⟩
 have N_2 := Fr.app N_1 Nq_2
 refine o_istoreN X_2 hq d19_14 (l' := #[rv a1, iv 46, iv 1, iv 1]) rfl (o_iloadN X_2 hq d19_15 rfl (o_aloadN X_2 hq d19_16 rfl rfl ?_))
 obtain ⟨cl_3, Ar_3, qk_3, Sz_3, Ng_3, Hs_3, Gs_3⟩ := id V_s
 refine own_st (X_2.arraylength hx (by rw [e_2]; exact Ar_3.1) (State.isArrayOf_alike hZ.alike Ar_3.2.1) (g := (mkF m 17 #[rv a1, iv 46, iv 1, iv 1] [(.ref a1), (.int 1)])) rfl rfl (hb hby d19_17)) ?_
 rw [len_of Sz_3 Ng_3]
 show own_Go _ _ _ _ (T_2.setTop (mkF m 18 #[rv a1, iv 46, iv 1, iv 1] [(.int 1), (.int 1)]))
 refine c_S2 X_2 hq e_2 hZ hown hml (k19_38 hw) (rmmin1 hw   h0 n0 Z0) d19_18 ?_ 0
 rintro T_4 L_4 _ X_4 ⟨⟨⟩, Nq_4, e_4⟩
 have N_4 := Fr.app N_2 Nq_4
 refine o_istoreN X_4 hq d19_21 (l' := #[rv a1, iv 46, iv 1, iv 1]) rfl (o_iloadN X_4 hq d19_22 rfl (o_iloadN X_4 hq d19_23 rfl (o_icmpNo X_4 hq d19_24 (by decide) (o_iconst X_4 hq (-1) d19_27 rfl ?_))))
 exact e_I X_4 e_4 hq hlk hrt d19_28 ⟨rfl, N_4, rfl⟩
def Q_rmsi1_1 (Z : State) (a0 : Array Value) (a1 b : Addr) (k1 : ClassId) (vs : List Value) (d1 : Value) (w : Int32) (sfv : Value) (f : Int32 → Int32) (h0 : Heap) (n0 : Nat) (v : Option Value) (h : Heap) (L : List Loc) : Prop := v = some (.int (-1 : Int32)) ∧ Fr n0 L ∧ h = h0
theorem rmsi1_1 (hw : HW a0 Z) (a1 b : Addr) (k1 : ClassId) (vs : List Value) (d1 : Value) (w : Int32) (sfv : Value) (f : Int32 → Int32) (h0 : Heap) (n0 : Nat) (Z0 : n0 ≤ h0.size) (E_s : Exa Z h0 a1 "java/lang/String") (F_v : Fld Z h0 a1 "java/lang/String" "value" "[B" (.ref b)) (F_c : Fld Z h0 a1 "java/lang/String" "coder" "B" (.int (0 : Int32))) (V_s : Arv Z h0 b k1 .byte (1 : Int32) vs d1) (S1 : Sta Z h0 "java/lang/String" "COMPACT_STRINGS" "Z" (.int w)) (hw0 : ¬ w = (0 : Int32)) (hat : ∀ i : Int32, ¬ i < 0 → i < (1 : Int32) → vs.getD i.toNatClampNeg d1 = .int (((f i).toInt8.toInt32).toInt8.toInt32)) (hf : ∀ i : Int32, ¬ (255 : Int32) < f i ∧ ¬ f i < 0) (S2 : Sta Z h0 "jdk/internal/util/Preconditions" "SIOOBE_FORMATTER" "Ljava/util/function/BiFunction;" sfv) (hsf : sfv.isRef = true) :
  own_Met l y2_ jdk_42_method_80_code 3 (some .int) (R_ 2 0 0 28) #[(.ref a1), (.int (46 : Int32)), (.int (1 : Int32))] Z h0 (Q_rmsi1_1 Z a0 a1 b k1 vs d1 w sfv f h0 n0) := by
 refine own_bd (own := "java/lang/String") rfl (plainFor_of_name pn_3) #[rv a1, iv 46, iv 1] ?_
 intro p e s m below meth c s₁ hx hby hq hml hown hnm hlk hrt hZ X0 e0
 refine o_aloadN X0 hq d16_0 rfl rfl ?_
 refine c_U0 X0 hq e0 hZ hown hml (k16_492U1 hw) (rm12 hw a1 w h0 n0 Z0 F_c S1 hw0) E_s d16_1 ?_ 0
 rintro T_1 L_1 _ X_1 ⟨⟨⟩, Nq_1, e_1⟩
 have N_1 := Fr.app (Fr.nil n0) Nq_1
 refine o_ifNo X_1 hq d16_4 (by decide) (o_aloadN X_1 hq d16_7 rfl rfl ?_)
 obtain ⟨T_2, X_2, e_2, st_2⟩ := getF X_1 hx hZ hown (host := "") (Or.inl (w_ hw 33 rfl)) Via.refl e_1 F_v (g := (mkF m 8 #[rv a1, iv 46, iv 1] [(.ref a1)])) rfl rfl (hb hby d16_8)
 refine own_st st_2 ?_
 show own_Go _ _ _ _ (T_2.setTop (mkF m 11 #[rv a1, iv 46, iv 1] [(.ref b)]))
 refine o_iloadN X_2 hq d16_11 rfl (o_iloadN X_2 hq d16_12 rfl (o_aloadN X_2 hq d16_13 rfl rfl ?_))
 refine c_U0 X_2 hq e_2 hZ hown hml (k16_505U1 hw) (rmlenN hw a1 b k1 (1 : Int32) vs d1 w h0 n0 Z0 E_s F_v F_c V_s S1 hw0) E_s d16_14 ?_ 3
 rintro T_3 L_3 _ X_3 ⟨⟨⟩, Nq_3, e_3⟩
 have N_3 := Fr.app N_1 Nq_3
 refine c_S4 X_3 hq e_3 hZ hown hml (k16_637 hw) (rmli1_1 hw b k1 vs d1 f h0 n0 Z0 V_s hat) d16_17 ?_ 0
 rintro T_4 L_4 _ X_4 ⟨⟨⟩, Nq_4, e_4⟩
 have N_4 := Fr.app N_3 Nq_4
 refine o_goto X_4 hq (pc' := 36) d16_20 ?_
 exact e_I X_4 e_4 hq hlk hrt d16_36 ⟨rfl, N_4, rfl⟩
def own_ix_0_2 (f : Int32 → Int32) : Int32 := (if (((f (0 : Int32)).toInt8.toInt32).toInt8.toInt32) = (46 : Int32) then (0 : Int32) else (if (((f (1 : Int32)).toInt8.toInt32).toInt8.toInt32) = (46 : Int32) then (1 : Int32) else (-1 : Int32)))
def Q_rmix0_2 (Z : State) (a0 : Array Value) (a1 : Addr) (k1 : ClassId) (vs : List Value) (d1 : Value) (f : Int32 → Int32) (h0 : Heap) (n0 : Nat) (v : Option Value) (h : Heap) (L : List Loc) : Prop := v = some (.int (own_ix_0_2 f)) ∧ Fr n0 L ∧ h = h0
theorem rmix0_2 (hw : HW a0 Z) (a1 : Addr) (k1 : ClassId) (vs : List Value) (d1 : Value) (f : Int32 → Int32) (h0 : Heap) (n0 : Nat) (Z0 : n0 ≤ h0.size) (V_s : Arv Z h0 a1 k1 .byte (2 : Int32) vs d1) (hat : ∀ i : Int32, ¬ i < 0 → i < (2 : Int32) → vs.getD i.toNatClampNeg d1 = .int (((f i).toInt8.toInt32).toInt8.toInt32)) :
  own_Met l y3_ jdk_43_method_23_code 6 (some .int) (R_ 0 0 0 0) #[(.ref a1), (.int (46 : Int32)), (.int (0 : Int32)), (.int (2 : Int32))] Z h0 (Q_rmix0_2 Z a0 a1 k1 vs d1 f h0 n0) := by
 refine own_bd (own := "java/lang/StringLatin1") rfl (plainFor_of_name pn_13) #[rv a1, iv 46, iv 0, iv 2, .unset, .unset] ?_
 intro p e s m below meth c s₁ hx hby hq hml hown hnm hlk hrt hZ X0 e0
 have hv : own_ix_0_2 f = (if (((f (0 : Int32)).toInt8.toInt32).toInt8.toInt32) = (46 : Int32) then (0 : Int32) else (if (((f (1 : Int32)).toInt8.toInt32).toInt8.toInt32) = (46 : Int32) then (1 : Int32) else (-1 : Int32))) := rfl
 show own_Go _ _ _ _ (s₁.setTop (mkF m 0 #[rv a1, iv 46, iv 0, iv 2, .unset, .unset] []))
 refine o_iloadN X0 hq d23_0 rfl (o_i2b X0 hq d23_1 ?_)
 show own_Go _ _ _ _ (s₁.setTop (mkF m 2 #[rv a1, iv 46, iv 0, iv 2, .unset, .unset] [(.int 46)]))
 refine o_istore X0 hq d23_2 (l' := #[rv a1, iv 46, iv 0, iv 2, iv 46, .unset]) rfl (o_iloadN X0 hq d23_4 rfl (o_istore X0 hq d23_5 (l' := #[rv a1, iv 46, iv 0, iv 2, iv 46, iv 0]) rfl (o_iload X0 hq d23_7 rfl (o_iloadN X0 hq d23_9 rfl (o_icmpNo X0 hq d23_10 (by decide) (o_aloadN X0 hq d23_13 rfl rfl (o_iload X0 hq d23_14 rfl ?_)))))))
 obtain ⟨cl_1, Ar_1, qk_1, Sz_1, Ng_1, Hs_1, Gs_1⟩ := id V_s
 refine own_st (X0.baloadBytes hx (j := (0 : Int32)) (v := (.int (((f (0 : Int32)).toInt8.toInt32).toInt8.toInt32))) (by rw [e0]; exact Ar_1.1) (State.isArrayOf_alike hZ.alike Ar_1.2.1) Ar_1.2.2 (inb_of Sz_1 ⟨by decide, by decide⟩) (Hs_1.at (j := (0 : Int32)) (inb_of Sz_1 ⟨by decide, by decide⟩) (hat (0 : Int32) (by decide) (by decide))) (g := (mkF m 16 #[rv a1, iv 46, iv 0, iv 2, iv 46, iv 0] [(.int 0), (.ref a1)])) rfl rfl (hb hby d23_16)) ?_
 show own_Go _ _ _ _ (s₁.setTop (mkF m 17 #[rv a1, iv 46, iv 0, iv 2, iv 46, iv 0] [(.int (((f (0 : Int32)).toInt8.toInt32).toInt8.toInt32))]))
 refine o_iload X0 hq d23_17 rfl ?_
 by_cases hc19__2 : (((f (0 : Int32)).toInt8.toInt32).toInt8.toInt32) = (46 : Int32)
 ·have hv_3 := hv.trans (if_pos hc19__2)
  refine o_icmpNo X0 hq d23_19 (teq hc19__2).2 (o_iload X0 hq d23_22 rfl ?_)
  exact e_I X0 e0 hq hlk hrt d23_24 ⟨(congrArg (fun z => some (Value.int z)) hv_3.symm), (Fr.nil n0), rfl⟩
 ·have hv_4 := hv.trans (if_neg hc19__2)
  refine o_icmpYes X0 hq (pc' := 25) d23_19 (feq hc19__2).2 (o_iinc X0 hq d23_25 rfl (l' := #[rv a1, iv 46, iv 0, iv 2, iv 46, iv 1]) rfl (o_goto X0 hq (pc' := 7) d23_28 (o_iload X0 hq d23_7 rfl (o_iloadN X0 hq d23_9 rfl (o_icmpNo X0 hq d23_10 (by decide) (o_aloadN X0 hq d23_13 rfl rfl (o_iload X0 hq d23_14 rfl ?_)))))))
  obtain ⟨cl_5, Ar_5, qk_5, Sz_5, Ng_5, Hs_5, Gs_5⟩ := id V_s
  refine own_st (X0.baloadBytes hx (j := (1 : Int32)) (v := (.int (((f (1 : Int32)).toInt8.toInt32).toInt8.toInt32))) (by rw [e0]; exact Ar_5.1) (State.isArrayOf_alike hZ.alike Ar_5.2.1) Ar_5.2.2 (inb_of Sz_5 ⟨by decide, by decide⟩) (Hs_5.at (j := (1 : Int32)) (inb_of Sz_5 ⟨by decide, by decide⟩) (hat (1 : Int32) (by decide) (by decide))) (g := (mkF m 16 #[rv a1, iv 46, iv 0, iv 2, iv 46, iv 1] [(.int 1), (.ref a1)])) rfl rfl (hb hby d23_16)) ?_
  show own_Go _ _ _ _ (s₁.setTop (mkF m 17 #[rv a1, iv 46, iv 0, iv 2, iv 46, iv 1] [(.int (((f (1 : Int32)).toInt8.toInt32).toInt8.toInt32))]))
  refine o_iload X0 hq d23_17 rfl ?_
  by_cases hc19__6 : (((f (1 : Int32)).toInt8.toInt32).toInt8.toInt32) = (46 : Int32)
  ·have hv_7 := hv_4.trans (if_pos hc19__6)
   refine o_icmpNo X0 hq d23_19 (teq hc19__6).2 (o_iload X0 hq d23_22 rfl ?_)
   exact e_I X0 e0 hq hlk hrt d23_24 ⟨(congrArg (fun z => some (Value.int z)) hv_7.symm), (Fr.nil n0), rfl⟩
  ·have hv_8 := hv_4.trans (if_neg hc19__6)
   refine o_icmpYes X0 hq (pc' := 25) d23_19 (feq hc19__6).2 (o_iinc X0 hq d23_25 rfl (l' := #[rv a1, iv 46, iv 0, iv 2, iv 46, iv 2]) rfl (o_goto X0 hq (pc' := 7) d23_28 (o_iload X0 hq d23_7 rfl (o_iloadN X0 hq d23_9 rfl (o_icmpYes X0 hq (pc' := 31) d23_10 (by decide) (o_iconst X0 hq (-1) d23_31 rfl ?_))))))
   exact e_I X0 e0 hq hlk hrt d23_32 ⟨(congrArg (fun z => some (Value.int z)) hv_8.symm), (Fr.nil n0), rfl⟩
def Q_rmli0_2 (Z : State) (a0 : Array Value) (a1 : Addr) (k1 : ClassId) (vs : List Value) (d1 : Value) (f : Int32 → Int32) (h0 : Heap) (n0 : Nat) (v : Option Value) (h : Heap) (L : List Loc) : Prop := v = some (.int (own_ix_0_2 f)) ∧ Fr n0 L ∧ h = h0
theorem rmli0_2 (hw : HW a0 Z) (a1 : Addr) (k1 : ClassId) (vs : List Value) (d1 : Value) (f : Int32 → Int32) (h0 : Heap) (n0 : Nat) (Z0 : n0 ≤ h0.size) (V_s : Arv Z h0 a1 k1 .byte (2 : Int32) vs d1) (hat : ∀ i : Int32, ¬ i < 0 → i < (2 : Int32) → vs.getD i.toNatClampNeg d1 = .int (((f i).toInt8.toInt32).toInt8.toInt32)) :
  own_Met l y1_ jdk_43_method_22_code 4 (some .int) (R_ 1 0 0 17) #[(.ref a1), (.int (46 : Int32)), (.int (0 : Int32)), (.int (2 : Int32))] Z h0 (Q_rmli0_2 Z a0 a1 k1 vs d1 f h0 n0) := by
 refine own_bd (own := "java/lang/StringLatin1") rfl (plainFor_of_name pn_13) #[rv a1, iv 46, iv 0, iv 2] ?_
 intro p e s m below meth c s₁ hx hby hq hml hown hnm hlk hrt hZ X0 e0
 refine o_iloadN X0 hq d19_0 rfl ?_
 refine c_S1 X0 hq e0 hZ hown hml (k19_88 hw) (rm20 hw   h0 n0 Z0) d19_1 ?_ 0
 rintro T_1 L_1 _ X_1 ⟨⟨⟩, Nq_1, e_1⟩
 have N_1 := Fr.app (Fr.nil n0) Nq_1
 refine o_ifYes X_1 hq (pc' := 9) d19_4 (by decide) (o_iloadN X_1 hq d19_9 rfl (o_iconst X_1 hq 0 d19_10 rfl ?_))
 refine c_S2 X_1 hq e_1 hZ hown hml (k19_92 hw) (rmmax0 hw   h0 n0 Z0) d19_11 ?_ 0
 rintro T_2 L_2 _ X_2 ⟨⟨⟩, Nq_2, e_2⟩
 have N_2 := Fr.app N_1 Nq_2
 refine o_istoreN X_2 hq d19_14 (l' := #[rv a1, iv 46, iv 0, iv 2]) rfl (o_iloadN X_2 hq d19_15 rfl (o_aloadN X_2 hq d19_16 rfl rfl ?_))
 obtain ⟨cl_3, Ar_3, qk_3, Sz_3, Ng_3, Hs_3, Gs_3⟩ := id V_s
 refine own_st (X_2.arraylength hx (by rw [e_2]; exact Ar_3.1) (State.isArrayOf_alike hZ.alike Ar_3.2.1) (g := (mkF m 17 #[rv a1, iv 46, iv 0, iv 2] [(.ref a1), (.int 2)])) rfl rfl (hb hby d19_17)) ?_
 rw [len_of Sz_3 Ng_3]
 show own_Go _ _ _ _ (T_2.setTop (mkF m 18 #[rv a1, iv 46, iv 0, iv 2] [(.int 2), (.int 2)]))
 refine c_S2 X_2 hq e_2 hZ hown hml (k19_38 hw) (rmmin2 hw   h0 n0 Z0) d19_18 ?_ 0
 rintro T_4 L_4 _ X_4 ⟨⟨⟩, Nq_4, e_4⟩
 have N_4 := Fr.app N_2 Nq_4
 refine o_istoreN X_4 hq d19_21 (l' := #[rv a1, iv 46, iv 0, iv 2]) rfl (o_iloadN X_4 hq d19_22 rfl (o_iloadN X_4 hq d19_23 rfl (o_icmpYes X_4 hq (pc' := 29) d19_24 (by decide) (o_aloadN X_4 hq d19_29 rfl rfl (o_iloadN X_4 hq d19_30 rfl (o_iloadN X_4 hq d19_31 rfl (o_iloadN X_4 hq d19_32 rfl ?_)))))))
 refine c_S4 X_4 hq e_4 hZ hown hml (k19_95 hw) (rmix0_2 hw a1 k1 vs d1 f h0 n0 Z0 V_s hat) d19_33 ?_ 0
 rintro T_5 L_5 _ X_5 ⟨⟨⟩, Nq_5, e_5⟩
 have N_5 := Fr.app N_4 Nq_5
 exact e_I X_5 e_5 hq hlk hrt d19_36 ⟨rfl, N_5, rfl⟩
def Q_rmsi0_2 (Z : State) (a0 : Array Value) (a1 b : Addr) (k1 : ClassId) (vs : List Value) (d1 : Value) (w : Int32) (sfv : Value) (f : Int32 → Int32) (h0 : Heap) (n0 : Nat) (v : Option Value) (h : Heap) (L : List Loc) : Prop := v = some (.int (own_ix_0_2 f)) ∧ Fr n0 L ∧ h = h0
theorem rmsi0_2 (hw : HW a0 Z) (a1 b : Addr) (k1 : ClassId) (vs : List Value) (d1 : Value) (w : Int32) (sfv : Value) (f : Int32 → Int32) (h0 : Heap) (n0 : Nat) (Z0 : n0 ≤ h0.size) (E_s : Exa Z h0 a1 "java/lang/String") (F_v : Fld Z h0 a1 "java/lang/String" "value" "[B" (.ref b)) (F_c : Fld Z h0 a1 "java/lang/String" "coder" "B" (.int (0 : Int32))) (V_s : Arv Z h0 b k1 .byte (2 : Int32) vs d1) (S1 : Sta Z h0 "java/lang/String" "COMPACT_STRINGS" "Z" (.int w)) (hw0 : ¬ w = (0 : Int32)) (hat : ∀ i : Int32, ¬ i < 0 → i < (2 : Int32) → vs.getD i.toNatClampNeg d1 = .int (((f i).toInt8.toInt32).toInt8.toInt32)) (hf : ∀ i : Int32, ¬ (255 : Int32) < f i ∧ ¬ f i < 0) (S2 : Sta Z h0 "jdk/internal/util/Preconditions" "SIOOBE_FORMATTER" "Ljava/util/function/BiFunction;" sfv) (hsf : sfv.isRef = true) :
  own_Met l y2_ jdk_42_method_80_code 3 (some .int) (R_ 2 0 0 32) #[(.ref a1), (.int (46 : Int32)), (.int (0 : Int32))] Z h0 (Q_rmsi0_2 Z a0 a1 b k1 vs d1 w sfv f h0 n0) := by
 refine own_bd (own := "java/lang/String") rfl (plainFor_of_name pn_3) #[rv a1, iv 46, iv 0] ?_
 intro p e s m below meth c s₁ hx hby hq hml hown hnm hlk hrt hZ X0 e0
 refine o_aloadN X0 hq d16_0 rfl rfl ?_
 refine c_U0 X0 hq e0 hZ hown hml (k16_492U1 hw) (rm12 hw a1 w h0 n0 Z0 F_c S1 hw0) E_s d16_1 ?_ 0
 rintro T_1 L_1 _ X_1 ⟨⟨⟩, Nq_1, e_1⟩
 have N_1 := Fr.app (Fr.nil n0) Nq_1
 refine o_ifNo X_1 hq d16_4 (by decide) (o_aloadN X_1 hq d16_7 rfl rfl ?_)
 obtain ⟨T_2, X_2, e_2, st_2⟩ := getF X_1 hx hZ hown (host := "") (Or.inl (w_ hw 33 rfl)) Via.refl e_1 F_v (g := (mkF m 8 #[rv a1, iv 46, iv 0] [(.ref a1)])) rfl rfl (hb hby d16_8)
 refine own_st st_2 ?_
 show own_Go _ _ _ _ (T_2.setTop (mkF m 11 #[rv a1, iv 46, iv 0] [(.ref b)]))
 refine o_iloadN X_2 hq d16_11 rfl (o_iloadN X_2 hq d16_12 rfl (o_aloadN X_2 hq d16_13 rfl rfl ?_))
 refine c_U0 X_2 hq e_2 hZ hown hml (k16_505U1 hw) (rmlenN hw a1 b k1 (2 : Int32) vs d1 w h0 n0 Z0 E_s F_v F_c V_s S1 hw0) E_s d16_14 ?_ 3
 rintro T_3 L_3 _ X_3 ⟨⟨⟩, Nq_3, e_3⟩
 have N_3 := Fr.app N_1 Nq_3
 refine c_S4 X_3 hq e_3 hZ hown hml (k16_637 hw) (rmli0_2 hw b k1 vs d1 f h0 n0 Z0 V_s hat) d16_17 ?_ 0
 rintro T_4 L_4 _ X_4 ⟨⟨⟩, Nq_4, e_4⟩
 have N_4 := Fr.app N_3 Nq_4
 refine o_goto X_4 hq (pc' := 36) d16_20 ?_
 exact e_I X_4 e_4 hq hlk hrt d16_36 ⟨rfl, N_4, rfl⟩
def own_ix_1_2 (f : Int32 → Int32) : Int32 := (if (((f (1 : Int32)).toInt8.toInt32).toInt8.toInt32) = (46 : Int32) then (1 : Int32) else (-1 : Int32))
def Q_rmix1_2 (Z : State) (a0 : Array Value) (a1 : Addr) (k1 : ClassId) (vs : List Value) (d1 : Value) (f : Int32 → Int32) (h0 : Heap) (n0 : Nat) (v : Option Value) (h : Heap) (L : List Loc) : Prop := v = some (.int (own_ix_1_2 f)) ∧ Fr n0 L ∧ h = h0
theorem rmix1_2 (hw : HW a0 Z) (a1 : Addr) (k1 : ClassId) (vs : List Value) (d1 : Value) (f : Int32 → Int32) (h0 : Heap) (n0 : Nat) (Z0 : n0 ≤ h0.size) (V_s : Arv Z h0 a1 k1 .byte (2 : Int32) vs d1) (hat : ∀ i : Int32, ¬ i < 0 → i < (2 : Int32) → vs.getD i.toNatClampNeg d1 = .int (((f i).toInt8.toInt32).toInt8.toInt32)) :
  own_Met l y3_ jdk_43_method_23_code 6 (some .int) (R_ 0 0 0 0) #[(.ref a1), (.int (46 : Int32)), (.int (1 : Int32)), (.int (2 : Int32))] Z h0 (Q_rmix1_2 Z a0 a1 k1 vs d1 f h0 n0) := by
 refine own_bd (own := "java/lang/StringLatin1") rfl (plainFor_of_name pn_13) #[rv a1, iv 46, iv 1, iv 2, .unset, .unset] ?_
 intro p e s m below meth c s₁ hx hby hq hml hown hnm hlk hrt hZ X0 e0
 have hv : own_ix_1_2 f = (if (((f (1 : Int32)).toInt8.toInt32).toInt8.toInt32) = (46 : Int32) then (1 : Int32) else (-1 : Int32)) := rfl
 show own_Go _ _ _ _ (s₁.setTop (mkF m 0 #[rv a1, iv 46, iv 1, iv 2, .unset, .unset] []))
 refine o_iloadN X0 hq d23_0 rfl (o_i2b X0 hq d23_1 ?_)
 show own_Go _ _ _ _ (s₁.setTop (mkF m 2 #[rv a1, iv 46, iv 1, iv 2, .unset, .unset] [(.int 46)]))
 refine o_istore X0 hq d23_2 (l' := #[rv a1, iv 46, iv 1, iv 2, iv 46, .unset]) rfl (o_iloadN X0 hq d23_4 rfl (o_istore X0 hq d23_5 (l' := #[rv a1, iv 46, iv 1, iv 2, iv 46, iv 1]) rfl (o_iload X0 hq d23_7 rfl (o_iloadN X0 hq d23_9 rfl (o_icmpNo X0 hq d23_10 (by decide) (o_aloadN X0 hq d23_13 rfl rfl (o_iload X0 hq d23_14 rfl ?_)))))))
 obtain ⟨cl_1, Ar_1, qk_1, Sz_1, Ng_1, Hs_1, Gs_1⟩ := id V_s
 refine own_st (X0.baloadBytes hx (j := (1 : Int32)) (v := (.int (((f (1 : Int32)).toInt8.toInt32).toInt8.toInt32))) (by rw [e0]; exact Ar_1.1) (State.isArrayOf_alike hZ.alike Ar_1.2.1) Ar_1.2.2 (inb_of Sz_1 ⟨by decide, by decide⟩) (Hs_1.at (j := (1 : Int32)) (inb_of Sz_1 ⟨by decide, by decide⟩) (hat (1 : Int32) (by decide) (by decide))) (g := (mkF m 16 #[rv a1, iv 46, iv 1, iv 2, iv 46, iv 1] [(.int 1), (.ref a1)])) rfl rfl (hb hby d23_16)) ?_
 show own_Go _ _ _ _ (s₁.setTop (mkF m 17 #[rv a1, iv 46, iv 1, iv 2, iv 46, iv 1] [(.int (((f (1 : Int32)).toInt8.toInt32).toInt8.toInt32))]))
 refine o_iload X0 hq d23_17 rfl ?_
 by_cases hc19__2 : (((f (1 : Int32)).toInt8.toInt32).toInt8.toInt32) = (46 : Int32)
 ·have hv_3 := hv.trans (if_pos hc19__2)
  refine o_icmpNo X0 hq d23_19 (teq hc19__2).2 (o_iload X0 hq d23_22 rfl ?_)
  exact e_I X0 e0 hq hlk hrt d23_24 ⟨(congrArg (fun z => some (Value.int z)) hv_3.symm), (Fr.nil n0), rfl⟩
 ·have hv_4 := hv.trans (if_neg hc19__2)
  refine o_icmpYes X0 hq (pc' := 25) d23_19 (feq hc19__2).2 (o_iinc X0 hq d23_25 rfl (l' := #[rv a1, iv 46, iv 1, iv 2, iv 46, iv 2]) rfl (o_goto X0 hq (pc' := 7) d23_28 (o_iload X0 hq d23_7 rfl (o_iloadN X0 hq d23_9 rfl (o_icmpYes X0 hq (pc' := 31) d23_10 (by decide) (o_iconst X0 hq (-1) d23_31 rfl ?_))))))
  exact e_I X0 e0 hq hlk hrt d23_32 ⟨(congrArg (fun z => some (Value.int z)) hv_4.symm), (Fr.nil n0), rfl⟩
def Q_rmli1_2 (Z : State) (a0 : Array Value) (a1 : Addr) (k1 : ClassId) (vs : List Value) (d1 : Value) (f : Int32 → Int32) (h0 : Heap) (n0 : Nat) (v : Option Value) (h : Heap) (L : List Loc) : Prop := v = some (.int (own_ix_1_2 f)) ∧ Fr n0 L ∧ h = h0
theorem rmli1_2 (hw : HW a0 Z) (a1 : Addr) (k1 : ClassId) (vs : List Value) (d1 : Value) (f : Int32 → Int32) (h0 : Heap) (n0 : Nat) (Z0 : n0 ≤ h0.size) (V_s : Arv Z h0 a1 k1 .byte (2 : Int32) vs d1) (hat : ∀ i : Int32, ¬ i < 0 → i < (2 : Int32) → vs.getD i.toNatClampNeg d1 = .int (((f i).toInt8.toInt32).toInt8.toInt32)) :
  own_Met l y1_ jdk_43_method_22_code 4 (some .int) (R_ 1 0 0 17) #[(.ref a1), (.int (46 : Int32)), (.int (1 : Int32)), (.int (2 : Int32))] Z h0 (Q_rmli1_2 Z a0 a1 k1 vs d1 f h0 n0) := by
 refine own_bd (own := "java/lang/StringLatin1") rfl (plainFor_of_name pn_13) #[rv a1, iv 46, iv 1, iv 2] ?_
 intro p e s m below meth c s₁ hx hby hq hml hown hnm hlk hrt hZ X0 e0
 refine o_iloadN X0 hq d19_0 rfl ?_
 refine c_S1 X0 hq e0 hZ hown hml (k19_88 hw) (rm20 hw   h0 n0 Z0) d19_1 ?_ 0
 rintro T_1 L_1 _ X_1 ⟨⟨⟩, Nq_1, e_1⟩
 have N_1 := Fr.app (Fr.nil n0) Nq_1
 refine o_ifYes X_1 hq (pc' := 9) d19_4 (by decide) (o_iloadN X_1 hq d19_9 rfl (o_iconst X_1 hq 0 d19_10 rfl ?_))
 refine c_S2 X_1 hq e_1 hZ hown hml (k19_92 hw) (rmmax1 hw   h0 n0 Z0) d19_11 ?_ 0
 rintro T_2 L_2 _ X_2 ⟨⟨⟩, Nq_2, e_2⟩
 have N_2 := Fr.app N_1 Nq_2
 refine o_istoreN X_2 hq d19_14 (l' := #[rv a1, iv 46, iv 1, iv 2]) rfl (o_iloadN X_2 hq d19_15 rfl (o_aloadN X_2 hq d19_16 rfl rfl ?_))
 obtain ⟨cl_3, Ar_3, qk_3, Sz_3, Ng_3, Hs_3, Gs_3⟩ := id V_s
 refine own_st (X_2.arraylength hx (by rw [e_2]; exact Ar_3.1) (State.isArrayOf_alike hZ.alike Ar_3.2.1) (g := (mkF m 17 #[rv a1, iv 46, iv 1, iv 2] [(.ref a1), (.int 2)])) rfl rfl (hb hby d19_17)) ?_
 rw [len_of Sz_3 Ng_3]
 show own_Go _ _ _ _ (T_2.setTop (mkF m 18 #[rv a1, iv 46, iv 1, iv 2] [(.int 2), (.int 2)]))
 refine c_S2 X_2 hq e_2 hZ hown hml (k19_38 hw) (rmmin2 hw   h0 n0 Z0) d19_18 ?_ 0
 rintro T_4 L_4 _ X_4 ⟨⟨⟩, Nq_4, e_4⟩
 have N_4 := Fr.app N_2 Nq_4
 refine o_istoreN X_4 hq d19_21 (l' := #[rv a1, iv 46, iv 1, iv 2]) rfl (o_iloadN X_4 hq d19_22 rfl (o_iloadN X_4 hq d19_23 rfl (o_icmpYes X_4 hq (pc' := 29) d19_24 (by decide) (o_aloadN X_4 hq d19_29 rfl rfl (o_iloadN X_4 hq d19_30 rfl (o_iloadN X_4 hq d19_31 rfl (o_iloadN X_4 hq d19_32 rfl ?_)))))))
 refine c_S4 X_4 hq e_4 hZ hown hml (k19_95 hw) (rmix1_2 hw a1 k1 vs d1 f h0 n0 Z0 V_s hat) d19_33 ?_ 0
 rintro T_5 L_5 _ X_5 ⟨⟨⟩, Nq_5, e_5⟩
 have N_5 := Fr.app N_4 Nq_5
 exact e_I X_5 e_5 hq hlk hrt d19_36 ⟨rfl, N_5, rfl⟩
def Q_rmsi1_2 (Z : State) (a0 : Array Value) (a1 b : Addr) (k1 : ClassId) (vs : List Value) (d1 : Value) (w : Int32) (sfv : Value) (f : Int32 → Int32) (h0 : Heap) (n0 : Nat) (v : Option Value) (h : Heap) (L : List Loc) : Prop := v = some (.int (own_ix_1_2 f)) ∧ Fr n0 L ∧ h = h0
theorem rmsi1_2 (hw : HW a0 Z) (a1 b : Addr) (k1 : ClassId) (vs : List Value) (d1 : Value) (w : Int32) (sfv : Value) (f : Int32 → Int32) (h0 : Heap) (n0 : Nat) (Z0 : n0 ≤ h0.size) (E_s : Exa Z h0 a1 "java/lang/String") (F_v : Fld Z h0 a1 "java/lang/String" "value" "[B" (.ref b)) (F_c : Fld Z h0 a1 "java/lang/String" "coder" "B" (.int (0 : Int32))) (V_s : Arv Z h0 b k1 .byte (2 : Int32) vs d1) (S1 : Sta Z h0 "java/lang/String" "COMPACT_STRINGS" "Z" (.int w)) (hw0 : ¬ w = (0 : Int32)) (hat : ∀ i : Int32, ¬ i < 0 → i < (2 : Int32) → vs.getD i.toNatClampNeg d1 = .int (((f i).toInt8.toInt32).toInt8.toInt32)) (hf : ∀ i : Int32, ¬ (255 : Int32) < f i ∧ ¬ f i < 0) (S2 : Sta Z h0 "jdk/internal/util/Preconditions" "SIOOBE_FORMATTER" "Ljava/util/function/BiFunction;" sfv) (hsf : sfv.isRef = true) :
  own_Met l y2_ jdk_42_method_80_code 3 (some .int) (R_ 2 0 0 32) #[(.ref a1), (.int (46 : Int32)), (.int (1 : Int32))] Z h0 (Q_rmsi1_2 Z a0 a1 b k1 vs d1 w sfv f h0 n0) := by
 refine own_bd (own := "java/lang/String") rfl (plainFor_of_name pn_3) #[rv a1, iv 46, iv 1] ?_
 intro p e s m below meth c s₁ hx hby hq hml hown hnm hlk hrt hZ X0 e0
 refine o_aloadN X0 hq d16_0 rfl rfl ?_
 refine c_U0 X0 hq e0 hZ hown hml (k16_492U1 hw) (rm12 hw a1 w h0 n0 Z0 F_c S1 hw0) E_s d16_1 ?_ 0
 rintro T_1 L_1 _ X_1 ⟨⟨⟩, Nq_1, e_1⟩
 have N_1 := Fr.app (Fr.nil n0) Nq_1
 refine o_ifNo X_1 hq d16_4 (by decide) (o_aloadN X_1 hq d16_7 rfl rfl ?_)
 obtain ⟨T_2, X_2, e_2, st_2⟩ := getF X_1 hx hZ hown (host := "") (Or.inl (w_ hw 33 rfl)) Via.refl e_1 F_v (g := (mkF m 8 #[rv a1, iv 46, iv 1] [(.ref a1)])) rfl rfl (hb hby d16_8)
 refine own_st st_2 ?_
 show own_Go _ _ _ _ (T_2.setTop (mkF m 11 #[rv a1, iv 46, iv 1] [(.ref b)]))
 refine o_iloadN X_2 hq d16_11 rfl (o_iloadN X_2 hq d16_12 rfl (o_aloadN X_2 hq d16_13 rfl rfl ?_))
 refine c_U0 X_2 hq e_2 hZ hown hml (k16_505U1 hw) (rmlenN hw a1 b k1 (2 : Int32) vs d1 w h0 n0 Z0 E_s F_v F_c V_s S1 hw0) E_s d16_14 ?_ 3
 rintro T_3 L_3 _ X_3 ⟨⟨⟩, Nq_3, e_3⟩
 have N_3 := Fr.app N_1 Nq_3
 refine c_S4 X_3 hq e_3 hZ hown hml (k16_637 hw) (rmli1_2 hw b k1 vs d1 f h0 n0 Z0 V_s hat) d16_17 ?_ 0
 rintro T_4 L_4 _ X_4 ⟨⟨⟩, Nq_4, e_4⟩
 have N_4 := Fr.app N_3 Nq_4
 refine o_goto X_4 hq (pc' := 36) d16_20 ?_
 exact e_I X_4 e_4 hq hlk hrt d16_36 ⟨rfl, N_4, rfl⟩
def own_ix_0_3 (f : Int32 → Int32) : Int32 := (if (((f (0 : Int32)).toInt8.toInt32).toInt8.toInt32) = (46 : Int32) then (0 : Int32) else (if (((f (1 : Int32)).toInt8.toInt32).toInt8.toInt32) = (46 : Int32) then (1 : Int32) else (if (((f (2 : Int32)).toInt8.toInt32).toInt8.toInt32) = (46 : Int32) then (2 : Int32) else (-1 : Int32))))
def Q_rmix0_3 (Z : State) (a0 : Array Value) (a1 : Addr) (k1 : ClassId) (vs : List Value) (d1 : Value) (f : Int32 → Int32) (h0 : Heap) (n0 : Nat) (v : Option Value) (h : Heap) (L : List Loc) : Prop := v = some (.int (own_ix_0_3 f)) ∧ Fr n0 L ∧ h = h0
theorem rmix0_3 (hw : HW a0 Z) (a1 : Addr) (k1 : ClassId) (vs : List Value) (d1 : Value) (f : Int32 → Int32) (h0 : Heap) (n0 : Nat) (Z0 : n0 ≤ h0.size) (V_s : Arv Z h0 a1 k1 .byte (3 : Int32) vs d1) (hat : ∀ i : Int32, ¬ i < 0 → i < (3 : Int32) → vs.getD i.toNatClampNeg d1 = .int (((f i).toInt8.toInt32).toInt8.toInt32)) :
  own_Met l y3_ jdk_43_method_23_code 6 (some .int) (R_ 0 0 0 0) #[(.ref a1), (.int (46 : Int32)), (.int (0 : Int32)), (.int (3 : Int32))] Z h0 (Q_rmix0_3 Z a0 a1 k1 vs d1 f h0 n0) := by
 refine own_bd (own := "java/lang/StringLatin1") rfl (plainFor_of_name pn_13) #[rv a1, iv 46, iv 0, iv 3, .unset, .unset] ?_
 intro p e s m below meth c s₁ hx hby hq hml hown hnm hlk hrt hZ X0 e0
 have hv : own_ix_0_3 f = (if (((f (0 : Int32)).toInt8.toInt32).toInt8.toInt32) = (46 : Int32) then (0 : Int32) else (if (((f (1 : Int32)).toInt8.toInt32).toInt8.toInt32) = (46 : Int32) then (1 : Int32) else (if (((f (2 : Int32)).toInt8.toInt32).toInt8.toInt32) = (46 : Int32) then (2 : Int32) else (-1 : Int32)))) := rfl
 show own_Go _ _ _ _ (s₁.setTop (mkF m 0 #[rv a1, iv 46, iv 0, iv 3, .unset, .unset] []))
 refine o_iloadN X0 hq d23_0 rfl (o_i2b X0 hq d23_1 ?_)
 show own_Go _ _ _ _ (s₁.setTop (mkF m 2 #[rv a1, iv 46, iv 0, iv 3, .unset, .unset] [(.int 46)]))
 refine o_istore X0 hq d23_2 (l' := #[rv a1, iv 46, iv 0, iv 3, iv 46, .unset]) rfl (o_iloadN X0 hq d23_4 rfl (o_istore X0 hq d23_5 (l' := #[rv a1, iv 46, iv 0, iv 3, iv 46, iv 0]) rfl (o_iload X0 hq d23_7 rfl (o_iloadN X0 hq d23_9 rfl (o_icmpNo X0 hq d23_10 (by decide) (o_aloadN X0 hq d23_13 rfl rfl (o_iload X0 hq d23_14 rfl ?_)))))))
 obtain ⟨cl_1, Ar_1, qk_1, Sz_1, Ng_1, Hs_1, Gs_1⟩ := id V_s
 refine own_st (X0.baloadBytes hx (j := (0 : Int32)) (v := (.int (((f (0 : Int32)).toInt8.toInt32).toInt8.toInt32))) (by rw [e0]; exact Ar_1.1) (State.isArrayOf_alike hZ.alike Ar_1.2.1) Ar_1.2.2 (inb_of Sz_1 ⟨by decide, by decide⟩) (Hs_1.at (j := (0 : Int32)) (inb_of Sz_1 ⟨by decide, by decide⟩) (hat (0 : Int32) (by decide) (by decide))) (g := (mkF m 16 #[rv a1, iv 46, iv 0, iv 3, iv 46, iv 0] [(.int 0), (.ref a1)])) rfl rfl (hb hby d23_16)) ?_
 show own_Go _ _ _ _ (s₁.setTop (mkF m 17 #[rv a1, iv 46, iv 0, iv 3, iv 46, iv 0] [(.int (((f (0 : Int32)).toInt8.toInt32).toInt8.toInt32))]))
 refine o_iload X0 hq d23_17 rfl ?_
 by_cases hc19__2 : (((f (0 : Int32)).toInt8.toInt32).toInt8.toInt32) = (46 : Int32)
 ·have hv_3 := hv.trans (if_pos hc19__2)
  refine o_icmpNo X0 hq d23_19 (teq hc19__2).2 (o_iload X0 hq d23_22 rfl ?_)
  exact e_I X0 e0 hq hlk hrt d23_24 ⟨(congrArg (fun z => some (Value.int z)) hv_3.symm), (Fr.nil n0), rfl⟩
 ·have hv_4 := hv.trans (if_neg hc19__2)
  refine o_icmpYes X0 hq (pc' := 25) d23_19 (feq hc19__2).2 (o_iinc X0 hq d23_25 rfl (l' := #[rv a1, iv 46, iv 0, iv 3, iv 46, iv 1]) rfl (o_goto X0 hq (pc' := 7) d23_28 (o_iload X0 hq d23_7 rfl (o_iloadN X0 hq d23_9 rfl (o_icmpNo X0 hq d23_10 (by decide) (o_aloadN X0 hq d23_13 rfl rfl (o_iload X0 hq d23_14 rfl ?_)))))))
  obtain ⟨cl_5, Ar_5, qk_5, Sz_5, Ng_5, Hs_5, Gs_5⟩ := id V_s
  refine own_st (X0.baloadBytes hx (j := (1 : Int32)) (v := (.int (((f (1 : Int32)).toInt8.toInt32).toInt8.toInt32))) (by rw [e0]; exact Ar_5.1) (State.isArrayOf_alike hZ.alike Ar_5.2.1) Ar_5.2.2 (inb_of Sz_5 ⟨by decide, by decide⟩) (Hs_5.at (j := (1 : Int32)) (inb_of Sz_5 ⟨by decide, by decide⟩) (hat (1 : Int32) (by decide) (by decide))) (g := (mkF m 16 #[rv a1, iv 46, iv 0, iv 3, iv 46, iv 1] [(.int 1), (.ref a1)])) rfl rfl (hb hby d23_16)) ?_
  show own_Go _ _ _ _ (s₁.setTop (mkF m 17 #[rv a1, iv 46, iv 0, iv 3, iv 46, iv 1] [(.int (((f (1 : Int32)).toInt8.toInt32).toInt8.toInt32))]))
  refine o_iload X0 hq d23_17 rfl ?_
  by_cases hc19__6 : (((f (1 : Int32)).toInt8.toInt32).toInt8.toInt32) = (46 : Int32)
  ·have hv_7 := hv_4.trans (if_pos hc19__6)
   refine o_icmpNo X0 hq d23_19 (teq hc19__6).2 (o_iload X0 hq d23_22 rfl ?_)
   exact e_I X0 e0 hq hlk hrt d23_24 ⟨(congrArg (fun z => some (Value.int z)) hv_7.symm), (Fr.nil n0), rfl⟩
  ·have hv_8 := hv_4.trans (if_neg hc19__6)
   refine o_icmpYes X0 hq (pc' := 25) d23_19 (feq hc19__6).2 (o_iinc X0 hq d23_25 rfl (l' := #[rv a1, iv 46, iv 0, iv 3, iv 46, iv 2]) rfl (o_goto X0 hq (pc' := 7) d23_28 (o_iload X0 hq d23_7 rfl (o_iloadN X0 hq d23_9 rfl (o_icmpNo X0 hq d23_10 (by decide) (o_aloadN X0 hq d23_13 rfl rfl (o_iload X0 hq d23_14 rfl ?_)))))))
   obtain ⟨cl_9, Ar_9, qk_9, Sz_9, Ng_9, Hs_9, Gs_9⟩ := id V_s
   refine own_st (X0.baloadBytes hx (j := (2 : Int32)) (v := (.int (((f (2 : Int32)).toInt8.toInt32).toInt8.toInt32))) (by rw [e0]; exact Ar_9.1) (State.isArrayOf_alike hZ.alike Ar_9.2.1) Ar_9.2.2 (inb_of Sz_9 ⟨by decide, by decide⟩) (Hs_9.at (j := (2 : Int32)) (inb_of Sz_9 ⟨by decide, by decide⟩) (hat (2 : Int32) (by decide) (by decide))) (g := (mkF m 16 #[rv a1, iv 46, iv 0, iv 3, iv 46, iv 2] [(.int 2), (.ref a1)])) rfl rfl (hb hby d23_16)) ?_
   show own_Go _ _ _ _ (s₁.setTop (mkF m 17 #[rv a1, iv 46, iv 0, iv 3, iv 46, iv 2] [(.int (((f (2 : Int32)).toInt8.toInt32).toInt8.toInt32))]))
   refine o_iload X0 hq d23_17 rfl ?_
   by_cases hc19__10 : (((f (2 : Int32)).toInt8.toInt32).toInt8.toInt32) = (46 : Int32)
   ·have hv_11 := hv_8.trans (if_pos hc19__10)
    refine o_icmpNo X0 hq d23_19 (teq hc19__10).2 (o_iload X0 hq d23_22 rfl ?_)
    exact e_I X0 e0 hq hlk hrt d23_24 ⟨(congrArg (fun z => some (Value.int z)) hv_11.symm), (Fr.nil n0), rfl⟩
   ·have hv_12 := hv_8.trans (if_neg hc19__10)
    refine o_icmpYes X0 hq (pc' := 25) d23_19 (feq hc19__10).2 (o_iinc X0 hq d23_25 rfl (l' := #[rv a1, iv 46, iv 0, iv 3, iv 46, iv 3]) rfl (o_goto X0 hq (pc' := 7) d23_28 (o_iload X0 hq d23_7 rfl (o_iloadN X0 hq d23_9 rfl (o_icmpYes X0 hq (pc' := 31) d23_10 (by decide) (o_iconst X0 hq (-1) d23_31 rfl ?_))))))
    exact e_I X0 e0 hq hlk hrt d23_32 ⟨(congrArg (fun z => some (Value.int z)) hv_12.symm), (Fr.nil n0), rfl⟩
def Q_rmli0_3 (Z : State) (a0 : Array Value) (a1 : Addr) (k1 : ClassId) (vs : List Value) (d1 : Value) (f : Int32 → Int32) (h0 : Heap) (n0 : Nat) (v : Option Value) (h : Heap) (L : List Loc) : Prop := v = some (.int (own_ix_0_3 f)) ∧ Fr n0 L ∧ h = h0
theorem rmli0_3 (hw : HW a0 Z) (a1 : Addr) (k1 : ClassId) (vs : List Value) (d1 : Value) (f : Int32 → Int32) (h0 : Heap) (n0 : Nat) (Z0 : n0 ≤ h0.size) (V_s : Arv Z h0 a1 k1 .byte (3 : Int32) vs d1) (hat : ∀ i : Int32, ¬ i < 0 → i < (3 : Int32) → vs.getD i.toNatClampNeg d1 = .int (((f i).toInt8.toInt32).toInt8.toInt32)) :
  own_Met l y1_ jdk_43_method_22_code 4 (some .int) (R_ 1 0 0 17) #[(.ref a1), (.int (46 : Int32)), (.int (0 : Int32)), (.int (3 : Int32))] Z h0 (Q_rmli0_3 Z a0 a1 k1 vs d1 f h0 n0) := by
 refine own_bd (own := "java/lang/StringLatin1") rfl (plainFor_of_name pn_13) #[rv a1, iv 46, iv 0, iv 3] ?_
 intro p e s m below meth c s₁ hx hby hq hml hown hnm hlk hrt hZ X0 e0
 refine o_iloadN X0 hq d19_0 rfl ?_
 refine c_S1 X0 hq e0 hZ hown hml (k19_88 hw) (rm20 hw   h0 n0 Z0) d19_1 ?_ 0
 rintro T_1 L_1 _ X_1 ⟨⟨⟩, Nq_1, e_1⟩
 have N_1 := Fr.app (Fr.nil n0) Nq_1
 refine o_ifYes X_1 hq (pc' := 9) d19_4 (by decide) (o_iloadN X_1 hq d19_9 rfl (o_iconst X_1 hq 0 d19_10 rfl ?_))
 refine c_S2 X_1 hq e_1 hZ hown hml (k19_92 hw) (rmmax0 hw   h0 n0 Z0) d19_11 ?_ 0
 rintro T_2 L_2 _ X_2 ⟨⟨⟩, Nq_2, e_2⟩
 have N_2 := Fr.app N_1 Nq_2
 refine o_istoreN X_2 hq d19_14 (l' := #[rv a1, iv 46, iv 0, iv 3]) rfl (o_iloadN X_2 hq d19_15 rfl (o_aloadN X_2 hq d19_16 rfl rfl ?_))
 obtain ⟨cl_3, Ar_3, qk_3, Sz_3, Ng_3, Hs_3, Gs_3⟩ := id V_s
 refine own_st (X_2.arraylength hx (by rw [e_2]; exact Ar_3.1) (State.isArrayOf_alike hZ.alike Ar_3.2.1) (g := (mkF m 17 #[rv a1, iv 46, iv 0, iv 3] [(.ref a1), (.int 3)])) rfl rfl (hb hby d19_17)) ?_
 rw [len_of Sz_3 Ng_3]
 show own_Go _ _ _ _ (T_2.setTop (mkF m 18 #[rv a1, iv 46, iv 0, iv 3] [(.int 3), (.int 3)]))
 refine c_S2 X_2 hq e_2 hZ hown hml (k19_38 hw) (rmmin3 hw   h0 n0 Z0) d19_18 ?_ 0
 rintro T_4 L_4 _ X_4 ⟨⟨⟩, Nq_4, e_4⟩
 have N_4 := Fr.app N_2 Nq_4
 refine o_istoreN X_4 hq d19_21 (l' := #[rv a1, iv 46, iv 0, iv 3]) rfl (o_iloadN X_4 hq d19_22 rfl (o_iloadN X_4 hq d19_23 rfl (o_icmpYes X_4 hq (pc' := 29) d19_24 (by decide) (o_aloadN X_4 hq d19_29 rfl rfl (o_iloadN X_4 hq d19_30 rfl (o_iloadN X_4 hq d19_31 rfl (o_iloadN X_4 hq d19_32 rfl ?_)))))))
 refine c_S4 X_4 hq e_4 hZ hown hml (k19_95 hw) (rmix0_3 hw a1 k1 vs d1 f h0 n0 Z0 V_s hat) d19_33 ?_ 0
 rintro T_5 L_5 _ X_5 ⟨⟨⟩, Nq_5, e_5⟩
 have N_5 := Fr.app N_4 Nq_5
 exact e_I X_5 e_5 hq hlk hrt d19_36 ⟨rfl, N_5, rfl⟩
def Q_rmsi0_3 (Z : State) (a0 : Array Value) (a1 b : Addr) (k1 : ClassId) (vs : List Value) (d1 : Value) (w : Int32) (sfv : Value) (f : Int32 → Int32) (h0 : Heap) (n0 : Nat) (v : Option Value) (h : Heap) (L : List Loc) : Prop := v = some (.int (own_ix_0_3 f)) ∧ Fr n0 L ∧ h = h0
theorem rmsi0_3 (hw : HW a0 Z) (a1 b : Addr) (k1 : ClassId) (vs : List Value) (d1 : Value) (w : Int32) (sfv : Value) (f : Int32 → Int32) (h0 : Heap) (n0 : Nat) (Z0 : n0 ≤ h0.size) (E_s : Exa Z h0 a1 "java/lang/String") (F_v : Fld Z h0 a1 "java/lang/String" "value" "[B" (.ref b)) (F_c : Fld Z h0 a1 "java/lang/String" "coder" "B" (.int (0 : Int32))) (V_s : Arv Z h0 b k1 .byte (3 : Int32) vs d1) (S1 : Sta Z h0 "java/lang/String" "COMPACT_STRINGS" "Z" (.int w)) (hw0 : ¬ w = (0 : Int32)) (hat : ∀ i : Int32, ¬ i < 0 → i < (3 : Int32) → vs.getD i.toNatClampNeg d1 = .int (((f i).toInt8.toInt32).toInt8.toInt32)) (hf : ∀ i : Int32, ¬ (255 : Int32) < f i ∧ ¬ f i < 0) (S2 : Sta Z h0 "jdk/internal/util/Preconditions" "SIOOBE_FORMATTER" "Ljava/util/function/BiFunction;" sfv) (hsf : sfv.isRef = true) :
  own_Met l y2_ jdk_42_method_80_code 3 (some .int) (R_ 2 0 0 32) #[(.ref a1), (.int (46 : Int32)), (.int (0 : Int32))] Z h0 (Q_rmsi0_3 Z a0 a1 b k1 vs d1 w sfv f h0 n0) := by
 refine own_bd (own := "java/lang/String") rfl (plainFor_of_name pn_3) #[rv a1, iv 46, iv 0] ?_
 intro p e s m below meth c s₁ hx hby hq hml hown hnm hlk hrt hZ X0 e0
 refine o_aloadN X0 hq d16_0 rfl rfl ?_
 refine c_U0 X0 hq e0 hZ hown hml (k16_492U1 hw) (rm12 hw a1 w h0 n0 Z0 F_c S1 hw0) E_s d16_1 ?_ 0
 rintro T_1 L_1 _ X_1 ⟨⟨⟩, Nq_1, e_1⟩
 have N_1 := Fr.app (Fr.nil n0) Nq_1
 refine o_ifNo X_1 hq d16_4 (by decide) (o_aloadN X_1 hq d16_7 rfl rfl ?_)
 obtain ⟨T_2, X_2, e_2, st_2⟩ := getF X_1 hx hZ hown (host := "") (Or.inl (w_ hw 33 rfl)) Via.refl e_1 F_v (g := (mkF m 8 #[rv a1, iv 46, iv 0] [(.ref a1)])) rfl rfl (hb hby d16_8)
 refine own_st st_2 ?_
 show own_Go _ _ _ _ (T_2.setTop (mkF m 11 #[rv a1, iv 46, iv 0] [(.ref b)]))
 refine o_iloadN X_2 hq d16_11 rfl (o_iloadN X_2 hq d16_12 rfl (o_aloadN X_2 hq d16_13 rfl rfl ?_))
 refine c_U0 X_2 hq e_2 hZ hown hml (k16_505U1 hw) (rmlenN hw a1 b k1 (3 : Int32) vs d1 w h0 n0 Z0 E_s F_v F_c V_s S1 hw0) E_s d16_14 ?_ 3
 rintro T_3 L_3 _ X_3 ⟨⟨⟩, Nq_3, e_3⟩
 have N_3 := Fr.app N_1 Nq_3
 refine c_S4 X_3 hq e_3 hZ hown hml (k16_637 hw) (rmli0_3 hw b k1 vs d1 f h0 n0 Z0 V_s hat) d16_17 ?_ 0
 rintro T_4 L_4 _ X_4 ⟨⟨⟩, Nq_4, e_4⟩
 have N_4 := Fr.app N_3 Nq_4
 refine o_goto X_4 hq (pc' := 36) d16_20 ?_
 exact e_I X_4 e_4 hq hlk hrt d16_36 ⟨rfl, N_4, rfl⟩
def own_ix_1_3 (f : Int32 → Int32) : Int32 := (if (((f (1 : Int32)).toInt8.toInt32).toInt8.toInt32) = (46 : Int32) then (1 : Int32) else (if (((f (2 : Int32)).toInt8.toInt32).toInt8.toInt32) = (46 : Int32) then (2 : Int32) else (-1 : Int32)))
def Q_rmix1_3 (Z : State) (a0 : Array Value) (a1 : Addr) (k1 : ClassId) (vs : List Value) (d1 : Value) (f : Int32 → Int32) (h0 : Heap) (n0 : Nat) (v : Option Value) (h : Heap) (L : List Loc) : Prop := v = some (.int (own_ix_1_3 f)) ∧ Fr n0 L ∧ h = h0
theorem rmix1_3 (hw : HW a0 Z) (a1 : Addr) (k1 : ClassId) (vs : List Value) (d1 : Value) (f : Int32 → Int32) (h0 : Heap) (n0 : Nat) (Z0 : n0 ≤ h0.size) (V_s : Arv Z h0 a1 k1 .byte (3 : Int32) vs d1) (hat : ∀ i : Int32, ¬ i < 0 → i < (3 : Int32) → vs.getD i.toNatClampNeg d1 = .int (((f i).toInt8.toInt32).toInt8.toInt32)) :
  own_Met l y3_ jdk_43_method_23_code 6 (some .int) (R_ 0 0 0 0) #[(.ref a1), (.int (46 : Int32)), (.int (1 : Int32)), (.int (3 : Int32))] Z h0 (Q_rmix1_3 Z a0 a1 k1 vs d1 f h0 n0) := by
 refine own_bd (own := "java/lang/StringLatin1") rfl (plainFor_of_name pn_13) #[rv a1, iv 46, iv 1, iv 3, .unset, .unset] ?_
 intro p e s m below meth c s₁ hx hby hq hml hown hnm hlk hrt hZ X0 e0
 have hv : own_ix_1_3 f = (if (((f (1 : Int32)).toInt8.toInt32).toInt8.toInt32) = (46 : Int32) then (1 : Int32) else (if (((f (2 : Int32)).toInt8.toInt32).toInt8.toInt32) = (46 : Int32) then (2 : Int32) else (-1 : Int32))) := rfl
 show own_Go _ _ _ _ (s₁.setTop (mkF m 0 #[rv a1, iv 46, iv 1, iv 3, .unset, .unset] []))
 refine o_iloadN X0 hq d23_0 rfl (o_i2b X0 hq d23_1 ?_)
 show own_Go _ _ _ _ (s₁.setTop (mkF m 2 #[rv a1, iv 46, iv 1, iv 3, .unset, .unset] [(.int 46)]))
 refine o_istore X0 hq d23_2 (l' := #[rv a1, iv 46, iv 1, iv 3, iv 46, .unset]) rfl (o_iloadN X0 hq d23_4 rfl (o_istore X0 hq d23_5 (l' := #[rv a1, iv 46, iv 1, iv 3, iv 46, iv 1]) rfl (o_iload X0 hq d23_7 rfl (o_iloadN X0 hq d23_9 rfl (o_icmpNo X0 hq d23_10 (by decide) (o_aloadN X0 hq d23_13 rfl rfl (o_iload X0 hq d23_14 rfl ?_)))))))
 obtain ⟨cl_1, Ar_1, qk_1, Sz_1, Ng_1, Hs_1, Gs_1⟩ := id V_s
 refine own_st (X0.baloadBytes hx (j := (1 : Int32)) (v := (.int (((f (1 : Int32)).toInt8.toInt32).toInt8.toInt32))) (by rw [e0]; exact Ar_1.1) (State.isArrayOf_alike hZ.alike Ar_1.2.1) Ar_1.2.2 (inb_of Sz_1 ⟨by decide, by decide⟩) (Hs_1.at (j := (1 : Int32)) (inb_of Sz_1 ⟨by decide, by decide⟩) (hat (1 : Int32) (by decide) (by decide))) (g := (mkF m 16 #[rv a1, iv 46, iv 1, iv 3, iv 46, iv 1] [(.int 1), (.ref a1)])) rfl rfl (hb hby d23_16)) ?_
 show own_Go _ _ _ _ (s₁.setTop (mkF m 17 #[rv a1, iv 46, iv 1, iv 3, iv 46, iv 1] [(.int (((f (1 : Int32)).toInt8.toInt32).toInt8.toInt32))]))
 refine o_iload X0 hq d23_17 rfl ?_
 by_cases hc19__2 : (((f (1 : Int32)).toInt8.toInt32).toInt8.toInt32) = (46 : Int32)
 ·have hv_3 := hv.trans (if_pos hc19__2)
  refine o_icmpNo X0 hq d23_19 (teq hc19__2).2 (o_iload X0 hq d23_22 rfl ?_)
  exact e_I X0 e0 hq hlk hrt d23_24 ⟨(congrArg (fun z => some (Value.int z)) hv_3.symm), (Fr.nil n0), rfl⟩
 ·have hv_4 := hv.trans (if_neg hc19__2)
  refine o_icmpYes X0 hq (pc' := 25) d23_19 (feq hc19__2).2 (o_iinc X0 hq d23_25 rfl (l' := #[rv a1, iv 46, iv 1, iv 3, iv 46, iv 2]) rfl (o_goto X0 hq (pc' := 7) d23_28 (o_iload X0 hq d23_7 rfl (o_iloadN X0 hq d23_9 rfl (o_icmpNo X0 hq d23_10 (by decide) (o_aloadN X0 hq d23_13 rfl rfl (o_iload X0 hq d23_14 rfl ?_)))))))
  obtain ⟨cl_5, Ar_5, qk_5, Sz_5, Ng_5, Hs_5, Gs_5⟩ := id V_s
  refine own_st (X0.baloadBytes hx (j := (2 : Int32)) (v := (.int (((f (2 : Int32)).toInt8.toInt32).toInt8.toInt32))) (by rw [e0]; exact Ar_5.1) (State.isArrayOf_alike hZ.alike Ar_5.2.1) Ar_5.2.2 (inb_of Sz_5 ⟨by decide, by decide⟩) (Hs_5.at (j := (2 : Int32)) (inb_of Sz_5 ⟨by decide, by decide⟩) (hat (2 : Int32) (by decide) (by decide))) (g := (mkF m 16 #[rv a1, iv 46, iv 1, iv 3, iv 46, iv 2] [(.int 2), (.ref a1)])) rfl rfl (hb hby d23_16)) ?_
  show own_Go _ _ _ _ (s₁.setTop (mkF m 17 #[rv a1, iv 46, iv 1, iv 3, iv 46, iv 2] [(.int (((f (2 : Int32)).toInt8.toInt32).toInt8.toInt32))]))
  refine o_iload X0 hq d23_17 rfl ?_
  by_cases hc19__6 : (((f (2 : Int32)).toInt8.toInt32).toInt8.toInt32) = (46 : Int32)
  ·have hv_7 := hv_4.trans (if_pos hc19__6)
   refine o_icmpNo X0 hq d23_19 (teq hc19__6).2 (o_iload X0 hq d23_22 rfl ?_)
   exact e_I X0 e0 hq hlk hrt d23_24 ⟨(congrArg (fun z => some (Value.int z)) hv_7.symm), (Fr.nil n0), rfl⟩
  ·have hv_8 := hv_4.trans (if_neg hc19__6)
   refine o_icmpYes X0 hq (pc' := 25) d23_19 (feq hc19__6).2 (o_iinc X0 hq d23_25 rfl (l' := #[rv a1, iv 46, iv 1, iv 3, iv 46, iv 3]) rfl (o_goto X0 hq (pc' := 7) d23_28 (o_iload X0 hq d23_7 rfl (o_iloadN X0 hq d23_9 rfl (o_icmpYes X0 hq (pc' := 31) d23_10 (by decide) (o_iconst X0 hq (-1) d23_31 rfl ?_))))))
   exact e_I X0 e0 hq hlk hrt d23_32 ⟨(congrArg (fun z => some (Value.int z)) hv_8.symm), (Fr.nil n0), rfl⟩
def Q_rmli1_3 (Z : State) (a0 : Array Value) (a1 : Addr) (k1 : ClassId) (vs : List Value) (d1 : Value) (f : Int32 → Int32) (h0 : Heap) (n0 : Nat) (v : Option Value) (h : Heap) (L : List Loc) : Prop := v = some (.int (own_ix_1_3 f)) ∧ Fr n0 L ∧ h = h0
theorem rmli1_3 (hw : HW a0 Z) (a1 : Addr) (k1 : ClassId) (vs : List Value) (d1 : Value) (f : Int32 → Int32) (h0 : Heap) (n0 : Nat) (Z0 : n0 ≤ h0.size) (V_s : Arv Z h0 a1 k1 .byte (3 : Int32) vs d1) (hat : ∀ i : Int32, ¬ i < 0 → i < (3 : Int32) → vs.getD i.toNatClampNeg d1 = .int (((f i).toInt8.toInt32).toInt8.toInt32)) :
  own_Met l y1_ jdk_43_method_22_code 4 (some .int) (R_ 1 0 0 17) #[(.ref a1), (.int (46 : Int32)), (.int (1 : Int32)), (.int (3 : Int32))] Z h0 (Q_rmli1_3 Z a0 a1 k1 vs d1 f h0 n0) := by
 refine own_bd (own := "java/lang/StringLatin1") rfl (plainFor_of_name pn_13) #[rv a1, iv 46, iv 1, iv 3] ?_
 intro p e s m below meth c s₁ hx hby hq hml hown hnm hlk hrt hZ X0 e0
 refine o_iloadN X0 hq d19_0 rfl ?_
 refine c_S1 X0 hq e0 hZ hown hml (k19_88 hw) (rm20 hw   h0 n0 Z0) d19_1 ?_ 0
 rintro T_1 L_1 _ X_1 ⟨⟨⟩, Nq_1, e_1⟩
 have N_1 := Fr.app (Fr.nil n0) Nq_1
 refine o_ifYes X_1 hq (pc' := 9) d19_4 (by decide) (o_iloadN X_1 hq d19_9 rfl (o_iconst X_1 hq 0 d19_10 rfl ?_))
 refine c_S2 X_1 hq e_1 hZ hown hml (k19_92 hw) (rmmax1 hw   h0 n0 Z0) d19_11 ?_ 0
 rintro T_2 L_2 _ X_2 ⟨⟨⟩, Nq_2, e_2⟩
 have N_2 := Fr.app N_1 Nq_2
 refine o_istoreN X_2 hq d19_14 (l' := #[rv a1, iv 46, iv 1, iv 3]) rfl (o_iloadN X_2 hq d19_15 rfl (o_aloadN X_2 hq d19_16 rfl rfl ?_))
 obtain ⟨cl_3, Ar_3, qk_3, Sz_3, Ng_3, Hs_3, Gs_3⟩ := id V_s
 refine own_st (X_2.arraylength hx (by rw [e_2]; exact Ar_3.1) (State.isArrayOf_alike hZ.alike Ar_3.2.1) (g := (mkF m 17 #[rv a1, iv 46, iv 1, iv 3] [(.ref a1), (.int 3)])) rfl rfl (hb hby d19_17)) ?_
 rw [len_of Sz_3 Ng_3]
 show own_Go _ _ _ _ (T_2.setTop (mkF m 18 #[rv a1, iv 46, iv 1, iv 3] [(.int 3), (.int 3)]))
 refine c_S2 X_2 hq e_2 hZ hown hml (k19_38 hw) (rmmin3 hw   h0 n0 Z0) d19_18 ?_ 0
 rintro T_4 L_4 _ X_4 ⟨⟨⟩, Nq_4, e_4⟩
 have N_4 := Fr.app N_2 Nq_4
 refine o_istoreN X_4 hq d19_21 (l' := #[rv a1, iv 46, iv 1, iv 3]) rfl (o_iloadN X_4 hq d19_22 rfl (o_iloadN X_4 hq d19_23 rfl (o_icmpYes X_4 hq (pc' := 29) d19_24 (by decide) (o_aloadN X_4 hq d19_29 rfl rfl (o_iloadN X_4 hq d19_30 rfl (o_iloadN X_4 hq d19_31 rfl (o_iloadN X_4 hq d19_32 rfl ?_)))))))
 refine c_S4 X_4 hq e_4 hZ hown hml (k19_95 hw) (rmix1_3 hw a1 k1 vs d1 f h0 n0 Z0 V_s hat) d19_33 ?_ 0
 rintro T_5 L_5 _ X_5 ⟨⟨⟩, Nq_5, e_5⟩
 have N_5 := Fr.app N_4 Nq_5
 exact e_I X_5 e_5 hq hlk hrt d19_36 ⟨rfl, N_5, rfl⟩
def Q_rmsi1_3 (Z : State) (a0 : Array Value) (a1 b : Addr) (k1 : ClassId) (vs : List Value) (d1 : Value) (w : Int32) (sfv : Value) (f : Int32 → Int32) (h0 : Heap) (n0 : Nat) (v : Option Value) (h : Heap) (L : List Loc) : Prop := v = some (.int (own_ix_1_3 f)) ∧ Fr n0 L ∧ h = h0
theorem rmsi1_3 (hw : HW a0 Z) (a1 b : Addr) (k1 : ClassId) (vs : List Value) (d1 : Value) (w : Int32) (sfv : Value) (f : Int32 → Int32) (h0 : Heap) (n0 : Nat) (Z0 : n0 ≤ h0.size) (E_s : Exa Z h0 a1 "java/lang/String") (F_v : Fld Z h0 a1 "java/lang/String" "value" "[B" (.ref b)) (F_c : Fld Z h0 a1 "java/lang/String" "coder" "B" (.int (0 : Int32))) (V_s : Arv Z h0 b k1 .byte (3 : Int32) vs d1) (S1 : Sta Z h0 "java/lang/String" "COMPACT_STRINGS" "Z" (.int w)) (hw0 : ¬ w = (0 : Int32)) (hat : ∀ i : Int32, ¬ i < 0 → i < (3 : Int32) → vs.getD i.toNatClampNeg d1 = .int (((f i).toInt8.toInt32).toInt8.toInt32)) (hf : ∀ i : Int32, ¬ (255 : Int32) < f i ∧ ¬ f i < 0) (S2 : Sta Z h0 "jdk/internal/util/Preconditions" "SIOOBE_FORMATTER" "Ljava/util/function/BiFunction;" sfv) (hsf : sfv.isRef = true) :
  own_Met l y2_ jdk_42_method_80_code 3 (some .int) (R_ 2 0 0 32) #[(.ref a1), (.int (46 : Int32)), (.int (1 : Int32))] Z h0 (Q_rmsi1_3 Z a0 a1 b k1 vs d1 w sfv f h0 n0) := by
 refine own_bd (own := "java/lang/String") rfl (plainFor_of_name pn_3) #[rv a1, iv 46, iv 1] ?_
 intro p e s m below meth c s₁ hx hby hq hml hown hnm hlk hrt hZ X0 e0
 refine o_aloadN X0 hq d16_0 rfl rfl ?_
 refine c_U0 X0 hq e0 hZ hown hml (k16_492U1 hw) (rm12 hw a1 w h0 n0 Z0 F_c S1 hw0) E_s d16_1 ?_ 0
 rintro T_1 L_1 _ X_1 ⟨⟨⟩, Nq_1, e_1⟩
 have N_1 := Fr.app (Fr.nil n0) Nq_1
 refine o_ifNo X_1 hq d16_4 (by decide) (o_aloadN X_1 hq d16_7 rfl rfl ?_)
 obtain ⟨T_2, X_2, e_2, st_2⟩ := getF X_1 hx hZ hown (host := "") (Or.inl (w_ hw 33 rfl)) Via.refl e_1 F_v (g := (mkF m 8 #[rv a1, iv 46, iv 1] [(.ref a1)])) rfl rfl (hb hby d16_8)
 refine own_st st_2 ?_
 show own_Go _ _ _ _ (T_2.setTop (mkF m 11 #[rv a1, iv 46, iv 1] [(.ref b)]))
 refine o_iloadN X_2 hq d16_11 rfl (o_iloadN X_2 hq d16_12 rfl (o_aloadN X_2 hq d16_13 rfl rfl ?_))
 refine c_U0 X_2 hq e_2 hZ hown hml (k16_505U1 hw) (rmlenN hw a1 b k1 (3 : Int32) vs d1 w h0 n0 Z0 E_s F_v F_c V_s S1 hw0) E_s d16_14 ?_ 3
 rintro T_3 L_3 _ X_3 ⟨⟨⟩, Nq_3, e_3⟩
 have N_3 := Fr.app N_1 Nq_3
 refine c_S4 X_3 hq e_3 hZ hown hml (k16_637 hw) (rmli1_3 hw b k1 vs d1 f h0 n0 Z0 V_s hat) d16_17 ?_ 0
 rintro T_4 L_4 _ X_4 ⟨⟨⟩, Nq_4, e_4⟩
 have N_4 := Fr.app N_3 Nq_4
 refine o_goto X_4 hq (pc' := 36) d16_20 ?_
 exact e_I X_4 e_4 hq hlk hrt d16_36 ⟨rfl, N_4, rfl⟩
def own_ix_0_4 (f : Int32 → Int32) : Int32 := (if (((f (0 : Int32)).toInt8.toInt32).toInt8.toInt32) = (46 : Int32) then (0 : Int32) else (if (((f (1 : Int32)).toInt8.toInt32).toInt8.toInt32) = (46 : Int32) then (1 : Int32) else (if (((f (2 : Int32)).toInt8.toInt32).toInt8.toInt32) = (46 : Int32) then (2 : Int32) else (if (((f (3 : Int32)).toInt8.toInt32).toInt8.toInt32) = (46 : Int32) then (3 : Int32) else (-1 : Int32)))))
def Q_rmix0_4 (Z : State) (a0 : Array Value) (a1 : Addr) (k1 : ClassId) (vs : List Value) (d1 : Value) (f : Int32 → Int32) (h0 : Heap) (n0 : Nat) (v : Option Value) (h : Heap) (L : List Loc) : Prop := v = some (.int (own_ix_0_4 f)) ∧ Fr n0 L ∧ h = h0
theorem rmix0_4 (hw : HW a0 Z) (a1 : Addr) (k1 : ClassId) (vs : List Value) (d1 : Value) (f : Int32 → Int32) (h0 : Heap) (n0 : Nat) (Z0 : n0 ≤ h0.size) (V_s : Arv Z h0 a1 k1 .byte (4 : Int32) vs d1) (hat : ∀ i : Int32, ¬ i < 0 → i < (4 : Int32) → vs.getD i.toNatClampNeg d1 = .int (((f i).toInt8.toInt32).toInt8.toInt32)) :
  own_Met l y3_ jdk_43_method_23_code 6 (some .int) (R_ 0 0 0 0) #[(.ref a1), (.int (46 : Int32)), (.int (0 : Int32)), (.int (4 : Int32))] Z h0 (Q_rmix0_4 Z a0 a1 k1 vs d1 f h0 n0) := by
 refine own_bd (own := "java/lang/StringLatin1") rfl (plainFor_of_name pn_13) #[rv a1, iv 46, iv 0, iv 4, .unset, .unset] ?_
 intro p e s m below meth c s₁ hx hby hq hml hown hnm hlk hrt hZ X0 e0
 have hv : own_ix_0_4 f = (if (((f (0 : Int32)).toInt8.toInt32).toInt8.toInt32) = (46 : Int32) then (0 : Int32) else (if (((f (1 : Int32)).toInt8.toInt32).toInt8.toInt32) = (46 : Int32) then (1 : Int32) else (if (((f (2 : Int32)).toInt8.toInt32).toInt8.toInt32) = (46 : Int32) then (2 : Int32) else (if (((f (3 : Int32)).toInt8.toInt32).toInt8.toInt32) = (46 : Int32) then (3 : Int32) else (-1 : Int32))))) := rfl
 show own_Go _ _ _ _ (s₁.setTop (mkF m 0 #[rv a1, iv 46, iv 0, iv 4, .unset, .unset] []))
 refine o_iloadN X0 hq d23_0 rfl (o_i2b X0 hq d23_1 ?_)
 show own_Go _ _ _ _ (s₁.setTop (mkF m 2 #[rv a1, iv 46, iv 0, iv 4, .unset, .unset] [(.int 46)]))
 refine o_istore X0 hq d23_2 (l' := #[rv a1, iv 46, iv 0, iv 4, iv 46, .unset]) rfl (o_iloadN X0 hq d23_4 rfl (o_istore X0 hq d23_5 (l' := #[rv a1, iv 46, iv 0, iv 4, iv 46, iv 0]) rfl (o_iload X0 hq d23_7 rfl (o_iloadN X0 hq d23_9 rfl (o_icmpNo X0 hq d23_10 (by decide) (o_aloadN X0 hq d23_13 rfl rfl (o_iload X0 hq d23_14 rfl ?_)))))))
 obtain ⟨cl_1, Ar_1, qk_1, Sz_1, Ng_1, Hs_1, Gs_1⟩ := id V_s
 refine own_st (X0.baloadBytes hx (j := (0 : Int32)) (v := (.int (((f (0 : Int32)).toInt8.toInt32).toInt8.toInt32))) (by rw [e0]; exact Ar_1.1) (State.isArrayOf_alike hZ.alike Ar_1.2.1) Ar_1.2.2 (inb_of Sz_1 ⟨by decide, by decide⟩) (Hs_1.at (j := (0 : Int32)) (inb_of Sz_1 ⟨by decide, by decide⟩) (hat (0 : Int32) (by decide) (by decide))) (g := (mkF m 16 #[rv a1, iv 46, iv 0, iv 4, iv 46, iv 0] [(.int 0), (.ref a1)])) rfl rfl (hb hby d23_16)) ?_
 show own_Go _ _ _ _ (s₁.setTop (mkF m 17 #[rv a1, iv 46, iv 0, iv 4, iv 46, iv 0] [(.int (((f (0 : Int32)).toInt8.toInt32).toInt8.toInt32))]))
 refine o_iload X0 hq d23_17 rfl ?_
 by_cases hc19__2 : (((f (0 : Int32)).toInt8.toInt32).toInt8.toInt32) = (46 : Int32)
 ·have hv_3 := hv.trans (if_pos hc19__2)
  refine o_icmpNo X0 hq d23_19 (teq hc19__2).2 (o_iload X0 hq d23_22 rfl ?_)
  exact e_I X0 e0 hq hlk hrt d23_24 ⟨(congrArg (fun z => some (Value.int z)) hv_3.symm), (Fr.nil n0), rfl⟩
 ·have hv_4 := hv.trans (if_neg hc19__2)
  refine o_icmpYes X0 hq (pc' := 25) d23_19 (feq hc19__2).2 (o_iinc X0 hq d23_25 rfl (l' := #[rv a1, iv 46, iv 0, iv 4, iv 46, iv 1]) rfl (o_goto X0 hq (pc' := 7) d23_28 (o_iload X0 hq d23_7 rfl (o_iloadN X0 hq d23_9 rfl (o_icmpNo X0 hq d23_10 (by decide) (o_aloadN X0 hq d23_13 rfl rfl (o_iload X0 hq d23_14 rfl ?_)))))))
  obtain ⟨cl_5, Ar_5, qk_5, Sz_5, Ng_5, Hs_5, Gs_5⟩ := id V_s
  refine own_st (X0.baloadBytes hx (j := (1 : Int32)) (v := (.int (((f (1 : Int32)).toInt8.toInt32).toInt8.toInt32))) (by rw [e0]; exact Ar_5.1) (State.isArrayOf_alike hZ.alike Ar_5.2.1) Ar_5.2.2 (inb_of Sz_5 ⟨by decide, by decide⟩) (Hs_5.at (j := (1 : Int32)) (inb_of Sz_5 ⟨by decide, by decide⟩) (hat (1 : Int32) (by decide) (by decide))) (g := (mkF m 16 #[rv a1, iv 46, iv 0, iv 4, iv 46, iv 1] [(.int 1), (.ref a1)])) rfl rfl (hb hby d23_16)) ?_
  show own_Go _ _ _ _ (s₁.setTop (mkF m 17 #[rv a1, iv 46, iv 0, iv 4, iv 46, iv 1] [(.int (((f (1 : Int32)).toInt8.toInt32).toInt8.toInt32))]))
  refine o_iload X0 hq d23_17 rfl ?_
  by_cases hc19__6 : (((f (1 : Int32)).toInt8.toInt32).toInt8.toInt32) = (46 : Int32)
  ·have hv_7 := hv_4.trans (if_pos hc19__6)
   refine o_icmpNo X0 hq d23_19 (teq hc19__6).2 (o_iload X0 hq d23_22 rfl ?_)
   exact e_I X0 e0 hq hlk hrt d23_24 ⟨(congrArg (fun z => some (Value.int z)) hv_7.symm), (Fr.nil n0), rfl⟩
  ·have hv_8 := hv_4.trans (if_neg hc19__6)
   refine o_icmpYes X0 hq (pc' := 25) d23_19 (feq hc19__6).2 (o_iinc X0 hq d23_25 rfl (l' := #[rv a1, iv 46, iv 0, iv 4, iv 46, iv 2]) rfl (o_goto X0 hq (pc' := 7) d23_28 (o_iload X0 hq d23_7 rfl (o_iloadN X0 hq d23_9 rfl (o_icmpNo X0 hq d23_10 (by decide) (o_aloadN X0 hq d23_13 rfl rfl (o_iload X0 hq d23_14 rfl ?_)))))))
   obtain ⟨cl_9, Ar_9, qk_9, Sz_9, Ng_9, Hs_9, Gs_9⟩ := id V_s
   refine own_st (X0.baloadBytes hx (j := (2 : Int32)) (v := (.int (((f (2 : Int32)).toInt8.toInt32).toInt8.toInt32))) (by rw [e0]; exact Ar_9.1) (State.isArrayOf_alike hZ.alike Ar_9.2.1) Ar_9.2.2 (inb_of Sz_9 ⟨by decide, by decide⟩) (Hs_9.at (j := (2 : Int32)) (inb_of Sz_9 ⟨by decide, by decide⟩) (hat (2 : Int32) (by decide) (by decide))) (g := (mkF m 16 #[rv a1, iv 46, iv 0, iv 4, iv 46, iv 2] [(.int 2), (.ref a1)])) rfl rfl (hb hby d23_16)) ?_
   show own_Go _ _ _ _ (s₁.setTop (mkF m 17 #[rv a1, iv 46, iv 0, iv 4, iv 46, iv 2] [(.int (((f (2 : Int32)).toInt8.toInt32).toInt8.toInt32))]))
   refine o_iload X0 hq d23_17 rfl ?_
   by_cases hc19__10 : (((f (2 : Int32)).toInt8.toInt32).toInt8.toInt32) = (46 : Int32)
   ·have hv_11 := hv_8.trans (if_pos hc19__10)
    refine o_icmpNo X0 hq d23_19 (teq hc19__10).2 (o_iload X0 hq d23_22 rfl ?_)
    exact e_I X0 e0 hq hlk hrt d23_24 ⟨(congrArg (fun z => some (Value.int z)) hv_11.symm), (Fr.nil n0), rfl⟩
   ·have hv_12 := hv_8.trans (if_neg hc19__10)
    refine o_icmpYes X0 hq (pc' := 25) d23_19 (feq hc19__10).2 (o_iinc X0 hq d23_25 rfl (l' := #[rv a1, iv 46, iv 0, iv 4, iv 46, iv 3]) rfl (o_goto X0 hq (pc' := 7) d23_28 (o_iload X0 hq d23_7 rfl (o_iloadN X0 hq d23_9 rfl (o_icmpNo X0 hq d23_10 (by decide) (o_aloadN X0 hq d23_13 rfl rfl (o_iload X0 hq d23_14 rfl ?_)))))))
    obtain ⟨cl_13, Ar_13, qk_13, Sz_13, Ng_13, Hs_13, Gs_13⟩ := id V_s
    refine own_st (X0.baloadBytes hx (j := (3 : Int32)) (v := (.int (((f (3 : Int32)).toInt8.toInt32).toInt8.toInt32))) (by rw [e0]; exact Ar_13.1) (State.isArrayOf_alike hZ.alike Ar_13.2.1) Ar_13.2.2 (inb_of Sz_13 ⟨by decide, by decide⟩) (Hs_13.at (j := (3 : Int32)) (inb_of Sz_13 ⟨by decide, by decide⟩) (hat (3 : Int32) (by decide) (by decide))) (g := (mkF m 16 #[rv a1, iv 46, iv 0, iv 4, iv 46, iv 3] [(.int 3), (.ref a1)])) rfl rfl (hb hby d23_16)) ?_
    show own_Go _ _ _ _ (s₁.setTop (mkF m 17 #[rv a1, iv 46, iv 0, iv 4, iv 46, iv 3] [(.int (((f (3 : Int32)).toInt8.toInt32).toInt8.toInt32))]))
    refine o_iload X0 hq d23_17 rfl ?_
    by_cases hc19__14 : (((f (3 : Int32)).toInt8.toInt32).toInt8.toInt32) = (46 : Int32)
    ·have hv_15 := hv_12.trans (if_pos hc19__14)
     refine o_icmpNo X0 hq d23_19 (teq hc19__14).2 (o_iload X0 hq d23_22 rfl ?_)
     exact e_I X0 e0 hq hlk hrt d23_24 ⟨(congrArg (fun z => some (Value.int z)) hv_15.symm), (Fr.nil n0), rfl⟩
    ·have hv_16 := hv_12.trans (if_neg hc19__14)
     refine o_icmpYes X0 hq (pc' := 25) d23_19 (feq hc19__14).2 (o_iinc X0 hq d23_25 rfl (l' := #[rv a1, iv 46, iv 0, iv 4, iv 46, iv 4]) rfl (o_goto X0 hq (pc' := 7) d23_28 (o_iload X0 hq d23_7 rfl (o_iloadN X0 hq d23_9 rfl (o_icmpYes X0 hq (pc' := 31) d23_10 (by decide) (o_iconst X0 hq (-1) d23_31 rfl ?_))))))
     exact e_I X0 e0 hq hlk hrt d23_32 ⟨(congrArg (fun z => some (Value.int z)) hv_16.symm), (Fr.nil n0), rfl⟩
def Q_rmli0_4 (Z : State) (a0 : Array Value) (a1 : Addr) (k1 : ClassId) (vs : List Value) (d1 : Value) (f : Int32 → Int32) (h0 : Heap) (n0 : Nat) (v : Option Value) (h : Heap) (L : List Loc) : Prop := v = some (.int (own_ix_0_4 f)) ∧ Fr n0 L ∧ h = h0
theorem rmli0_4 (hw : HW a0 Z) (a1 : Addr) (k1 : ClassId) (vs : List Value) (d1 : Value) (f : Int32 → Int32) (h0 : Heap) (n0 : Nat) (Z0 : n0 ≤ h0.size) (V_s : Arv Z h0 a1 k1 .byte (4 : Int32) vs d1) (hat : ∀ i : Int32, ¬ i < 0 → i < (4 : Int32) → vs.getD i.toNatClampNeg d1 = .int (((f i).toInt8.toInt32).toInt8.toInt32)) :
  own_Met l y1_ jdk_43_method_22_code 4 (some .int) (R_ 1 0 0 17) #[(.ref a1), (.int (46 : Int32)), (.int (0 : Int32)), (.int (4 : Int32))] Z h0 (Q_rmli0_4 Z a0 a1 k1 vs d1 f h0 n0) := by
 refine own_bd (own := "java/lang/StringLatin1") rfl (plainFor_of_name pn_13) #[rv a1, iv 46, iv 0, iv 4] ?_
 intro p e s m below meth c s₁ hx hby hq hml hown hnm hlk hrt hZ X0 e0
 refine o_iloadN X0 hq d19_0 rfl ?_
 refine c_S1 X0 hq e0 hZ hown hml (k19_88 hw) (rm20 hw   h0 n0 Z0) d19_1 ?_ 0
 rintro T_1 L_1 _ X_1 ⟨⟨⟩, Nq_1, e_1⟩
 have N_1 := Fr.app (Fr.nil n0) Nq_1
 refine o_ifYes X_1 hq (pc' := 9) d19_4 (by decide) (o_iloadN X_1 hq d19_9 rfl (o_iconst X_1 hq 0 d19_10 rfl ?_))
 refine c_S2 X_1 hq e_1 hZ hown hml (k19_92 hw) (rmmax0 hw   h0 n0 Z0) d19_11 ?_ 0
 rintro T_2 L_2 _ X_2 ⟨⟨⟩, Nq_2, e_2⟩
 have N_2 := Fr.app N_1 Nq_2
 refine o_istoreN X_2 hq d19_14 (l' := #[rv a1, iv 46, iv 0, iv 4]) rfl (o_iloadN X_2 hq d19_15 rfl (o_aloadN X_2 hq d19_16 rfl rfl ?_))
 obtain ⟨cl_3, Ar_3, qk_3, Sz_3, Ng_3, Hs_3, Gs_3⟩ := id V_s
 refine own_st (X_2.arraylength hx (by rw [e_2]; exact Ar_3.1) (State.isArrayOf_alike hZ.alike Ar_3.2.1) (g := (mkF m 17 #[rv a1, iv 46, iv 0, iv 4] [(.ref a1), (.int 4)])) rfl rfl (hb hby d19_17)) ?_
 rw [len_of Sz_3 Ng_3]
 show own_Go _ _ _ _ (T_2.setTop (mkF m 18 #[rv a1, iv 46, iv 0, iv 4] [(.int 4), (.int 4)]))
 refine c_S2 X_2 hq e_2 hZ hown hml (k19_38 hw) (rmmin4 hw   h0 n0 Z0) d19_18 ?_ 0
 rintro T_4 L_4 _ X_4 ⟨⟨⟩, Nq_4, e_4⟩
 have N_4 := Fr.app N_2 Nq_4
 refine o_istoreN X_4 hq d19_21 (l' := #[rv a1, iv 46, iv 0, iv 4]) rfl (o_iloadN X_4 hq d19_22 rfl (o_iloadN X_4 hq d19_23 rfl (o_icmpYes X_4 hq (pc' := 29) d19_24 (by decide) (o_aloadN X_4 hq d19_29 rfl rfl (o_iloadN X_4 hq d19_30 rfl (o_iloadN X_4 hq d19_31 rfl (o_iloadN X_4 hq d19_32 rfl ?_)))))))
 refine c_S4 X_4 hq e_4 hZ hown hml (k19_95 hw) (rmix0_4 hw a1 k1 vs d1 f h0 n0 Z0 V_s hat) d19_33 ?_ 0
 rintro T_5 L_5 _ X_5 ⟨⟨⟩, Nq_5, e_5⟩
 have N_5 := Fr.app N_4 Nq_5
 exact e_I X_5 e_5 hq hlk hrt d19_36 ⟨rfl, N_5, rfl⟩
def Q_rmsi0_4 (Z : State) (a0 : Array Value) (a1 b : Addr) (k1 : ClassId) (vs : List Value) (d1 : Value) (w : Int32) (sfv : Value) (f : Int32 → Int32) (h0 : Heap) (n0 : Nat) (v : Option Value) (h : Heap) (L : List Loc) : Prop := v = some (.int (own_ix_0_4 f)) ∧ Fr n0 L ∧ h = h0
theorem rmsi0_4 (hw : HW a0 Z) (a1 b : Addr) (k1 : ClassId) (vs : List Value) (d1 : Value) (w : Int32) (sfv : Value) (f : Int32 → Int32) (h0 : Heap) (n0 : Nat) (Z0 : n0 ≤ h0.size) (E_s : Exa Z h0 a1 "java/lang/String") (F_v : Fld Z h0 a1 "java/lang/String" "value" "[B" (.ref b)) (F_c : Fld Z h0 a1 "java/lang/String" "coder" "B" (.int (0 : Int32))) (V_s : Arv Z h0 b k1 .byte (4 : Int32) vs d1) (S1 : Sta Z h0 "java/lang/String" "COMPACT_STRINGS" "Z" (.int w)) (hw0 : ¬ w = (0 : Int32)) (hat : ∀ i : Int32, ¬ i < 0 → i < (4 : Int32) → vs.getD i.toNatClampNeg d1 = .int (((f i).toInt8.toInt32).toInt8.toInt32)) (hf : ∀ i : Int32, ¬ (255 : Int32) < f i ∧ ¬ f i < 0) (S2 : Sta Z h0 "jdk/internal/util/Preconditions" "SIOOBE_FORMATTER" "Ljava/util/function/BiFunction;" sfv) (hsf : sfv.isRef = true) :
  own_Met l y2_ jdk_42_method_80_code 3 (some .int) (R_ 2 0 0 32) #[(.ref a1), (.int (46 : Int32)), (.int (0 : Int32))] Z h0 (Q_rmsi0_4 Z a0 a1 b k1 vs d1 w sfv f h0 n0) := by
 refine own_bd (own := "java/lang/String") rfl (plainFor_of_name pn_3) #[rv a1, iv 46, iv 0] ?_
 intro p e s m below meth c s₁ hx hby hq hml hown hnm hlk hrt hZ X0 e0
 refine o_aloadN X0 hq d16_0 rfl rfl ?_
 refine c_U0 X0 hq e0 hZ hown hml (k16_492U1 hw) (rm12 hw a1 w h0 n0 Z0 F_c S1 hw0) E_s d16_1 ?_ 0
 rintro T_1 L_1 _ X_1 ⟨⟨⟩, Nq_1, e_1⟩
 have N_1 := Fr.app (Fr.nil n0) Nq_1
 refine o_ifNo X_1 hq d16_4 (by decide) (o_aloadN X_1 hq d16_7 rfl rfl ?_)
 obtain ⟨T_2, X_2, e_2, st_2⟩ := getF X_1 hx hZ hown (host := "") (Or.inl (w_ hw 33 rfl)) Via.refl e_1 F_v (g := (mkF m 8 #[rv a1, iv 46, iv 0] [(.ref a1)])) rfl rfl (hb hby d16_8)
 refine own_st st_2 ?_
 show own_Go _ _ _ _ (T_2.setTop (mkF m 11 #[rv a1, iv 46, iv 0] [(.ref b)]))
 refine o_iloadN X_2 hq d16_11 rfl (o_iloadN X_2 hq d16_12 rfl (o_aloadN X_2 hq d16_13 rfl rfl ?_))
 refine c_U0 X_2 hq e_2 hZ hown hml (k16_505U1 hw) (rmlenN hw a1 b k1 (4 : Int32) vs d1 w h0 n0 Z0 E_s F_v F_c V_s S1 hw0) E_s d16_14 ?_ 3
 rintro T_3 L_3 _ X_3 ⟨⟨⟩, Nq_3, e_3⟩
 have N_3 := Fr.app N_1 Nq_3
 refine c_S4 X_3 hq e_3 hZ hown hml (k16_637 hw) (rmli0_4 hw b k1 vs d1 f h0 n0 Z0 V_s hat) d16_17 ?_ 0
 rintro T_4 L_4 _ X_4 ⟨⟨⟩, Nq_4, e_4⟩
 have N_4 := Fr.app N_3 Nq_4
 refine o_goto X_4 hq (pc' := 36) d16_20 ?_
 exact e_I X_4 e_4 hq hlk hrt d16_36 ⟨rfl, N_4, rfl⟩
def own_ix_1_4 (f : Int32 → Int32) : Int32 := (if (((f (1 : Int32)).toInt8.toInt32).toInt8.toInt32) = (46 : Int32) then (1 : Int32) else (if (((f (2 : Int32)).toInt8.toInt32).toInt8.toInt32) = (46 : Int32) then (2 : Int32) else (if (((f (3 : Int32)).toInt8.toInt32).toInt8.toInt32) = (46 : Int32) then (3 : Int32) else (-1 : Int32))))
def Q_rmix1_4 (Z : State) (a0 : Array Value) (a1 : Addr) (k1 : ClassId) (vs : List Value) (d1 : Value) (f : Int32 → Int32) (h0 : Heap) (n0 : Nat) (v : Option Value) (h : Heap) (L : List Loc) : Prop := v = some (.int (own_ix_1_4 f)) ∧ Fr n0 L ∧ h = h0
theorem rmix1_4 (hw : HW a0 Z) (a1 : Addr) (k1 : ClassId) (vs : List Value) (d1 : Value) (f : Int32 → Int32) (h0 : Heap) (n0 : Nat) (Z0 : n0 ≤ h0.size) (V_s : Arv Z h0 a1 k1 .byte (4 : Int32) vs d1) (hat : ∀ i : Int32, ¬ i < 0 → i < (4 : Int32) → vs.getD i.toNatClampNeg d1 = .int (((f i).toInt8.toInt32).toInt8.toInt32)) :
  own_Met l y3_ jdk_43_method_23_code 6 (some .int) (R_ 0 0 0 0) #[(.ref a1), (.int (46 : Int32)), (.int (1 : Int32)), (.int (4 : Int32))] Z h0 (Q_rmix1_4 Z a0 a1 k1 vs d1 f h0 n0) := by
 refine own_bd (own := "java/lang/StringLatin1") rfl (plainFor_of_name pn_13) #[rv a1, iv 46, iv 1, iv 4, .unset, .unset] ?_
 intro p e s m below meth c s₁ hx hby hq hml hown hnm hlk hrt hZ X0 e0
 have hv : own_ix_1_4 f = (if (((f (1 : Int32)).toInt8.toInt32).toInt8.toInt32) = (46 : Int32) then (1 : Int32) else (if (((f (2 : Int32)).toInt8.toInt32).toInt8.toInt32) = (46 : Int32) then (2 : Int32) else (if (((f (3 : Int32)).toInt8.toInt32).toInt8.toInt32) = (46 : Int32) then (3 : Int32) else (-1 : Int32)))) := rfl
 show own_Go _ _ _ _ (s₁.setTop (mkF m 0 #[rv a1, iv 46, iv 1, iv 4, .unset, .unset] []))
 refine o_iloadN X0 hq d23_0 rfl (o_i2b X0 hq d23_1 ?_)
 show own_Go _ _ _ _ (s₁.setTop (mkF m 2 #[rv a1, iv 46, iv 1, iv 4, .unset, .unset] [(.int 46)]))
 refine o_istore X0 hq d23_2 (l' := #[rv a1, iv 46, iv 1, iv 4, iv 46, .unset]) rfl (o_iloadN X0 hq d23_4 rfl (o_istore X0 hq d23_5 (l' := #[rv a1, iv 46, iv 1, iv 4, iv 46, iv 1]) rfl (o_iload X0 hq d23_7 rfl (o_iloadN X0 hq d23_9 rfl (o_icmpNo X0 hq d23_10 (by decide) (o_aloadN X0 hq d23_13 rfl rfl (o_iload X0 hq d23_14 rfl ?_)))))))
 obtain ⟨cl_1, Ar_1, qk_1, Sz_1, Ng_1, Hs_1, Gs_1⟩ := id V_s
 refine own_st (X0.baloadBytes hx (j := (1 : Int32)) (v := (.int (((f (1 : Int32)).toInt8.toInt32).toInt8.toInt32))) (by rw [e0]; exact Ar_1.1) (State.isArrayOf_alike hZ.alike Ar_1.2.1) Ar_1.2.2 (inb_of Sz_1 ⟨by decide, by decide⟩) (Hs_1.at (j := (1 : Int32)) (inb_of Sz_1 ⟨by decide, by decide⟩) (hat (1 : Int32) (by decide) (by decide))) (g := (mkF m 16 #[rv a1, iv 46, iv 1, iv 4, iv 46, iv 1] [(.int 1), (.ref a1)])) rfl rfl (hb hby d23_16)) ?_
 show own_Go _ _ _ _ (s₁.setTop (mkF m 17 #[rv a1, iv 46, iv 1, iv 4, iv 46, iv 1] [(.int (((f (1 : Int32)).toInt8.toInt32).toInt8.toInt32))]))
 refine o_iload X0 hq d23_17 rfl ?_
 by_cases hc19__2 : (((f (1 : Int32)).toInt8.toInt32).toInt8.toInt32) = (46 : Int32)
 ·have hv_3 := hv.trans (if_pos hc19__2)
  refine o_icmpNo X0 hq d23_19 (teq hc19__2).2 (o_iload X0 hq d23_22 rfl ?_)
  exact e_I X0 e0 hq hlk hrt d23_24 ⟨(congrArg (fun z => some (Value.int z)) hv_3.symm), (Fr.nil n0), rfl⟩
 ·have hv_4 := hv.trans (if_neg hc19__2)
  refine o_icmpYes X0 hq (pc' := 25) d23_19 (feq hc19__2).2 (o_iinc X0 hq d23_25 rfl (l' := #[rv a1, iv 46, iv 1, iv 4, iv 46, iv 2]) rfl (o_goto X0 hq (pc' := 7) d23_28 (o_iload X0 hq d23_7 rfl (o_iloadN X0 hq d23_9 rfl (o_icmpNo X0 hq d23_10 (by decide) (o_aloadN X0 hq d23_13 rfl rfl (o_iload X0 hq d23_14 rfl ?_)))))))
  obtain ⟨cl_5, Ar_5, qk_5, Sz_5, Ng_5, Hs_5, Gs_5⟩ := id V_s
  refine own_st (X0.baloadBytes hx (j := (2 : Int32)) (v := (.int (((f (2 : Int32)).toInt8.toInt32).toInt8.toInt32))) (by rw [e0]; exact Ar_5.1) (State.isArrayOf_alike hZ.alike Ar_5.2.1) Ar_5.2.2 (inb_of Sz_5 ⟨by decide, by decide⟩) (Hs_5.at (j := (2 : Int32)) (inb_of Sz_5 ⟨by decide, by decide⟩) (hat (2 : Int32) (by decide) (by decide))) (g := (mkF m 16 #[rv a1, iv 46, iv 1, iv 4, iv 46, iv 2] [(.int 2), (.ref a1)])) rfl rfl (hb hby d23_16)) ?_
  show own_Go _ _ _ _ (s₁.setTop (mkF m 17 #[rv a1, iv 46, iv 1, iv 4, iv 46, iv 2] [(.int (((f (2 : Int32)).toInt8.toInt32).toInt8.toInt32))]))
  refine o_iload X0 hq d23_17 rfl ?_
  by_cases hc19__6 : (((f (2 : Int32)).toInt8.toInt32).toInt8.toInt32) = (46 : Int32)
  ·have hv_7 := hv_4.trans (if_pos hc19__6)
   refine o_icmpNo X0 hq d23_19 (teq hc19__6).2 (o_iload X0 hq d23_22 rfl ?_)
   exact e_I X0 e0 hq hlk hrt d23_24 ⟨(congrArg (fun z => some (Value.int z)) hv_7.symm), (Fr.nil n0), rfl⟩
  ·have hv_8 := hv_4.trans (if_neg hc19__6)
   refine o_icmpYes X0 hq (pc' := 25) d23_19 (feq hc19__6).2 (o_iinc X0 hq d23_25 rfl (l' := #[rv a1, iv 46, iv 1, iv 4, iv 46, iv 3]) rfl (o_goto X0 hq (pc' := 7) d23_28 (o_iload X0 hq d23_7 rfl (o_iloadN X0 hq d23_9 rfl (o_icmpNo X0 hq d23_10 (by decide) (o_aloadN X0 hq d23_13 rfl rfl (o_iload X0 hq d23_14 rfl ?_)))))))
   obtain ⟨cl_9, Ar_9, qk_9, Sz_9, Ng_9, Hs_9, Gs_9⟩ := id V_s
   refine own_st (X0.baloadBytes hx (j := (3 : Int32)) (v := (.int (((f (3 : Int32)).toInt8.toInt32).toInt8.toInt32))) (by rw [e0]; exact Ar_9.1) (State.isArrayOf_alike hZ.alike Ar_9.2.1) Ar_9.2.2 (inb_of Sz_9 ⟨by decide, by decide⟩) (Hs_9.at (j := (3 : Int32)) (inb_of Sz_9 ⟨by decide, by decide⟩) (hat (3 : Int32) (by decide) (by decide))) (g := (mkF m 16 #[rv a1, iv 46, iv 1, iv 4, iv 46, iv 3] [(.int 3), (.ref a1)])) rfl rfl (hb hby d23_16)) ?_
   show own_Go _ _ _ _ (s₁.setTop (mkF m 17 #[rv a1, iv 46, iv 1, iv 4, iv 46, iv 3] [(.int (((f (3 : Int32)).toInt8.toInt32).toInt8.toInt32))]))
   refine o_iload X0 hq d23_17 rfl ?_
   by_cases hc19__10 : (((f (3 : Int32)).toInt8.toInt32).toInt8.toInt32) = (46 : Int32)
   ·have hv_11 := hv_8.trans (if_pos hc19__10)
    refine o_icmpNo X0 hq d23_19 (teq hc19__10).2 (o_iload X0 hq d23_22 rfl ?_)
    exact e_I X0 e0 hq hlk hrt d23_24 ⟨(congrArg (fun z => some (Value.int z)) hv_11.symm), (Fr.nil n0), rfl⟩
   ·have hv_12 := hv_8.trans (if_neg hc19__10)
    refine o_icmpYes X0 hq (pc' := 25) d23_19 (feq hc19__10).2 (o_iinc X0 hq d23_25 rfl (l' := #[rv a1, iv 46, iv 1, iv 4, iv 46, iv 4]) rfl (o_goto X0 hq (pc' := 7) d23_28 (o_iload X0 hq d23_7 rfl (o_iloadN X0 hq d23_9 rfl (o_icmpYes X0 hq (pc' := 31) d23_10 (by decide) (o_iconst X0 hq (-1) d23_31 rfl ?_))))))
    exact e_I X0 e0 hq hlk hrt d23_32 ⟨(congrArg (fun z => some (Value.int z)) hv_12.symm), (Fr.nil n0), rfl⟩
def Q_rmli1_4 (Z : State) (a0 : Array Value) (a1 : Addr) (k1 : ClassId) (vs : List Value) (d1 : Value) (f : Int32 → Int32) (h0 : Heap) (n0 : Nat) (v : Option Value) (h : Heap) (L : List Loc) : Prop := v = some (.int (own_ix_1_4 f)) ∧ Fr n0 L ∧ h = h0
theorem rmli1_4 (hw : HW a0 Z) (a1 : Addr) (k1 : ClassId) (vs : List Value) (d1 : Value) (f : Int32 → Int32) (h0 : Heap) (n0 : Nat) (Z0 : n0 ≤ h0.size) (V_s : Arv Z h0 a1 k1 .byte (4 : Int32) vs d1) (hat : ∀ i : Int32, ¬ i < 0 → i < (4 : Int32) → vs.getD i.toNatClampNeg d1 = .int (((f i).toInt8.toInt32).toInt8.toInt32)) :
  own_Met l y1_ jdk_43_method_22_code 4 (some .int) (R_ 1 0 0 17) #[(.ref a1), (.int (46 : Int32)), (.int (1 : Int32)), (.int (4 : Int32))] Z h0 (Q_rmli1_4 Z a0 a1 k1 vs d1 f h0 n0) := by
 refine own_bd (own := "java/lang/StringLatin1") rfl (plainFor_of_name pn_13) #[rv a1, iv 46, iv 1, iv 4] ?_
 intro p e s m below meth c s₁ hx hby hq hml hown hnm hlk hrt hZ X0 e0
 refine o_iloadN X0 hq d19_0 rfl ?_
 refine c_S1 X0 hq e0 hZ hown hml (k19_88 hw) (rm20 hw   h0 n0 Z0) d19_1 ?_ 0
 rintro T_1 L_1 _ X_1 ⟨⟨⟩, Nq_1, e_1⟩
 have N_1 := Fr.app (Fr.nil n0) Nq_1
 refine o_ifYes X_1 hq (pc' := 9) d19_4 (by decide) (o_iloadN X_1 hq d19_9 rfl (o_iconst X_1 hq 0 d19_10 rfl ?_))
 refine c_S2 X_1 hq e_1 hZ hown hml (k19_92 hw) (rmmax1 hw   h0 n0 Z0) d19_11 ?_ 0
 rintro T_2 L_2 _ X_2 ⟨⟨⟩, Nq_2, e_2⟩
 have N_2 := Fr.app N_1 Nq_2
 refine o_istoreN X_2 hq d19_14 (l' := #[rv a1, iv 46, iv 1, iv 4]) rfl (o_iloadN X_2 hq d19_15 rfl (o_aloadN X_2 hq d19_16 rfl rfl ?_))
 obtain ⟨cl_3, Ar_3, qk_3, Sz_3, Ng_3, Hs_3, Gs_3⟩ := id V_s
 refine own_st (X_2.arraylength hx (by rw [e_2]; exact Ar_3.1) (State.isArrayOf_alike hZ.alike Ar_3.2.1) (g := (mkF m 17 #[rv a1, iv 46, iv 1, iv 4] [(.ref a1), (.int 4)])) rfl rfl (hb hby d19_17)) ?_
 rw [len_of Sz_3 Ng_3]
 show own_Go _ _ _ _ (T_2.setTop (mkF m 18 #[rv a1, iv 46, iv 1, iv 4] [(.int 4), (.int 4)]))
 refine c_S2 X_2 hq e_2 hZ hown hml (k19_38 hw) (rmmin4 hw   h0 n0 Z0) d19_18 ?_ 0
 rintro T_4 L_4 _ X_4 ⟨⟨⟩, Nq_4, e_4⟩
 have N_4 := Fr.app N_2 Nq_4
 refine o_istoreN X_4 hq d19_21 (l' := #[rv a1, iv 46, iv 1, iv 4]) rfl (o_iloadN X_4 hq d19_22 rfl (o_iloadN X_4 hq d19_23 rfl (o_icmpYes X_4 hq (pc' := 29) d19_24 (by decide) (o_aloadN X_4 hq d19_29 rfl rfl (o_iloadN X_4 hq d19_30 rfl (o_iloadN X_4 hq d19_31 rfl (o_iloadN X_4 hq d19_32 rfl ?_)))))))
 refine c_S4 X_4 hq e_4 hZ hown hml (k19_95 hw) (rmix1_4 hw a1 k1 vs d1 f h0 n0 Z0 V_s hat) d19_33 ?_ 0
 rintro T_5 L_5 _ X_5 ⟨⟨⟩, Nq_5, e_5⟩
 have N_5 := Fr.app N_4 Nq_5
 exact e_I X_5 e_5 hq hlk hrt d19_36 ⟨rfl, N_5, rfl⟩
def Q_rmsi1_4 (Z : State) (a0 : Array Value) (a1 b : Addr) (k1 : ClassId) (vs : List Value) (d1 : Value) (w : Int32) (sfv : Value) (f : Int32 → Int32) (h0 : Heap) (n0 : Nat) (v : Option Value) (h : Heap) (L : List Loc) : Prop := v = some (.int (own_ix_1_4 f)) ∧ Fr n0 L ∧ h = h0
theorem rmsi1_4 (hw : HW a0 Z) (a1 b : Addr) (k1 : ClassId) (vs : List Value) (d1 : Value) (w : Int32) (sfv : Value) (f : Int32 → Int32) (h0 : Heap) (n0 : Nat) (Z0 : n0 ≤ h0.size) (E_s : Exa Z h0 a1 "java/lang/String") (F_v : Fld Z h0 a1 "java/lang/String" "value" "[B" (.ref b)) (F_c : Fld Z h0 a1 "java/lang/String" "coder" "B" (.int (0 : Int32))) (V_s : Arv Z h0 b k1 .byte (4 : Int32) vs d1) (S1 : Sta Z h0 "java/lang/String" "COMPACT_STRINGS" "Z" (.int w)) (hw0 : ¬ w = (0 : Int32)) (hat : ∀ i : Int32, ¬ i < 0 → i < (4 : Int32) → vs.getD i.toNatClampNeg d1 = .int (((f i).toInt8.toInt32).toInt8.toInt32)) (hf : ∀ i : Int32, ¬ (255 : Int32) < f i ∧ ¬ f i < 0) (S2 : Sta Z h0 "jdk/internal/util/Preconditions" "SIOOBE_FORMATTER" "Ljava/util/function/BiFunction;" sfv) (hsf : sfv.isRef = true) :
  own_Met l y2_ jdk_42_method_80_code 3 (some .int) (R_ 2 0 0 32) #[(.ref a1), (.int (46 : Int32)), (.int (1 : Int32))] Z h0 (Q_rmsi1_4 Z a0 a1 b k1 vs d1 w sfv f h0 n0) := by
 refine own_bd (own := "java/lang/String") rfl (plainFor_of_name pn_3) #[rv a1, iv 46, iv 1] ?_
 intro p e s m below meth c s₁ hx hby hq hml hown hnm hlk hrt hZ X0 e0
 refine o_aloadN X0 hq d16_0 rfl rfl ?_
 refine c_U0 X0 hq e0 hZ hown hml (k16_492U1 hw) (rm12 hw a1 w h0 n0 Z0 F_c S1 hw0) E_s d16_1 ?_ 0
 rintro T_1 L_1 _ X_1 ⟨⟨⟩, Nq_1, e_1⟩
 have N_1 := Fr.app (Fr.nil n0) Nq_1
 refine o_ifNo X_1 hq d16_4 (by decide) (o_aloadN X_1 hq d16_7 rfl rfl ?_)
 obtain ⟨T_2, X_2, e_2, st_2⟩ := getF X_1 hx hZ hown (host := "") (Or.inl (w_ hw 33 rfl)) Via.refl e_1 F_v (g := (mkF m 8 #[rv a1, iv 46, iv 1] [(.ref a1)])) rfl rfl (hb hby d16_8)
 refine own_st st_2 ?_
 show own_Go _ _ _ _ (T_2.setTop (mkF m 11 #[rv a1, iv 46, iv 1] [(.ref b)]))
 refine o_iloadN X_2 hq d16_11 rfl (o_iloadN X_2 hq d16_12 rfl (o_aloadN X_2 hq d16_13 rfl rfl ?_))
 refine c_U0 X_2 hq e_2 hZ hown hml (k16_505U1 hw) (rmlenN hw a1 b k1 (4 : Int32) vs d1 w h0 n0 Z0 E_s F_v F_c V_s S1 hw0) E_s d16_14 ?_ 3
 rintro T_3 L_3 _ X_3 ⟨⟨⟩, Nq_3, e_3⟩
 have N_3 := Fr.app N_1 Nq_3
 refine c_S4 X_3 hq e_3 hZ hown hml (k16_637 hw) (rmli1_4 hw b k1 vs d1 f h0 n0 Z0 V_s hat) d16_17 ?_ 0
 rintro T_4 L_4 _ X_4 ⟨⟨⟩, Nq_4, e_4⟩
 have N_4 := Fr.app N_3 Nq_4
 refine o_goto X_4 hq (pc' := 36) d16_20 ?_
 exact e_I X_4 e_4 hq hlk hrt d16_36 ⟨rfl, N_4, rfl⟩
def own_ix_0_5 (f : Int32 → Int32) : Int32 := (if (((f (0 : Int32)).toInt8.toInt32).toInt8.toInt32) = (46 : Int32) then (0 : Int32) else (if (((f (1 : Int32)).toInt8.toInt32).toInt8.toInt32) = (46 : Int32) then (1 : Int32) else (if (((f (2 : Int32)).toInt8.toInt32).toInt8.toInt32) = (46 : Int32) then (2 : Int32) else (if (((f (3 : Int32)).toInt8.toInt32).toInt8.toInt32) = (46 : Int32) then (3 : Int32) else (if (((f (4 : Int32)).toInt8.toInt32).toInt8.toInt32) = (46 : Int32) then (4 : Int32) else (-1 : Int32))))))
def Q_rmix0_5 (Z : State) (a0 : Array Value) (a1 : Addr) (k1 : ClassId) (vs : List Value) (d1 : Value) (f : Int32 → Int32) (h0 : Heap) (n0 : Nat) (v : Option Value) (h : Heap) (L : List Loc) : Prop := v = some (.int (own_ix_0_5 f)) ∧ Fr n0 L ∧ h = h0
theorem rmix0_5 (hw : HW a0 Z) (a1 : Addr) (k1 : ClassId) (vs : List Value) (d1 : Value) (f : Int32 → Int32) (h0 : Heap) (n0 : Nat) (Z0 : n0 ≤ h0.size) (V_s : Arv Z h0 a1 k1 .byte (5 : Int32) vs d1) (hat : ∀ i : Int32, ¬ i < 0 → i < (5 : Int32) → vs.getD i.toNatClampNeg d1 = .int (((f i).toInt8.toInt32).toInt8.toInt32)) :
  own_Met l y3_ jdk_43_method_23_code 6 (some .int) (R_ 0 0 0 0) #[(.ref a1), (.int (46 : Int32)), (.int (0 : Int32)), (.int (5 : Int32))] Z h0 (Q_rmix0_5 Z a0 a1 k1 vs d1 f h0 n0) := by
 refine own_bd (own := "java/lang/StringLatin1") rfl (plainFor_of_name pn_13) #[rv a1, iv 46, iv 0, iv 5, .unset, .unset] ?_
 intro p e s m below meth c s₁ hx hby hq hml hown hnm hlk hrt hZ X0 e0
 have hv : own_ix_0_5 f = (if (((f (0 : Int32)).toInt8.toInt32).toInt8.toInt32) = (46 : Int32) then (0 : Int32) else (if (((f (1 : Int32)).toInt8.toInt32).toInt8.toInt32) = (46 : Int32) then (1 : Int32) else (if (((f (2 : Int32)).toInt8.toInt32).toInt8.toInt32) = (46 : Int32) then (2 : Int32) else (if (((f (3 : Int32)).toInt8.toInt32).toInt8.toInt32) = (46 : Int32) then (3 : Int32) else (if (((f (4 : Int32)).toInt8.toInt32).toInt8.toInt32) = (46 : Int32) then (4 : Int32) else (-1 : Int32)))))) := rfl
 show own_Go _ _ _ _ (s₁.setTop (mkF m 0 #[rv a1, iv 46, iv 0, iv 5, .unset, .unset] []))
 refine o_iloadN X0 hq d23_0 rfl (o_i2b X0 hq d23_1 ?_)
 show own_Go _ _ _ _ (s₁.setTop (mkF m 2 #[rv a1, iv 46, iv 0, iv 5, .unset, .unset] [(.int 46)]))
 refine o_istore X0 hq d23_2 (l' := #[rv a1, iv 46, iv 0, iv 5, iv 46, .unset]) rfl (o_iloadN X0 hq d23_4 rfl (o_istore X0 hq d23_5 (l' := #[rv a1, iv 46, iv 0, iv 5, iv 46, iv 0]) rfl (o_iload X0 hq d23_7 rfl (o_iloadN X0 hq d23_9 rfl (o_icmpNo X0 hq d23_10 (by decide) (o_aloadN X0 hq d23_13 rfl rfl (o_iload X0 hq d23_14 rfl ?_)))))))
 obtain ⟨cl_1, Ar_1, qk_1, Sz_1, Ng_1, Hs_1, Gs_1⟩ := id V_s
 refine own_st (X0.baloadBytes hx (j := (0 : Int32)) (v := (.int (((f (0 : Int32)).toInt8.toInt32).toInt8.toInt32))) (by rw [e0]; exact Ar_1.1) (State.isArrayOf_alike hZ.alike Ar_1.2.1) Ar_1.2.2 (inb_of Sz_1 ⟨by decide, by decide⟩) (Hs_1.at (j := (0 : Int32)) (inb_of Sz_1 ⟨by decide, by decide⟩) (hat (0 : Int32) (by decide) (by decide))) (g := (mkF m 16 #[rv a1, iv 46, iv 0, iv 5, iv 46, iv 0] [(.int 0), (.ref a1)])) rfl rfl (hb hby d23_16)) ?_
 show own_Go _ _ _ _ (s₁.setTop (mkF m 17 #[rv a1, iv 46, iv 0, iv 5, iv 46, iv 0] [(.int (((f (0 : Int32)).toInt8.toInt32).toInt8.toInt32))]))
 refine o_iload X0 hq d23_17 rfl ?_
 by_cases hc19__2 : (((f (0 : Int32)).toInt8.toInt32).toInt8.toInt32) = (46 : Int32)
 ·have hv_3 := hv.trans (if_pos hc19__2)
  refine o_icmpNo X0 hq d23_19 (teq hc19__2).2 (o_iload X0 hq d23_22 rfl ?_)
  exact e_I X0 e0 hq hlk hrt d23_24 ⟨(congrArg (fun z => some (Value.int z)) hv_3.symm), (Fr.nil n0), rfl⟩
 ·have hv_4 := hv.trans (if_neg hc19__2)
  refine o_icmpYes X0 hq (pc' := 25) d23_19 (feq hc19__2).2 (o_iinc X0 hq d23_25 rfl (l' := #[rv a1, iv 46, iv 0, iv 5, iv 46, iv 1]) rfl (o_goto X0 hq (pc' := 7) d23_28 (o_iload X0 hq d23_7 rfl (o_iloadN X0 hq d23_9 rfl (o_icmpNo X0 hq d23_10 (by decide) (o_aloadN X0 hq d23_13 rfl rfl (o_iload X0 hq d23_14 rfl ?_)))))))
  obtain ⟨cl_5, Ar_5, qk_5, Sz_5, Ng_5, Hs_5, Gs_5⟩ := id V_s
  refine own_st (X0.baloadBytes hx (j := (1 : Int32)) (v := (.int (((f (1 : Int32)).toInt8.toInt32).toInt8.toInt32))) (by rw [e0]; exact Ar_5.1) (State.isArrayOf_alike hZ.alike Ar_5.2.1) Ar_5.2.2 (inb_of Sz_5 ⟨by decide, by decide⟩) (Hs_5.at (j := (1 : Int32)) (inb_of Sz_5 ⟨by decide, by decide⟩) (hat (1 : Int32) (by decide) (by decide))) (g := (mkF m 16 #[rv a1, iv 46, iv 0, iv 5, iv 46, iv 1] [(.int 1), (.ref a1)])) rfl rfl (hb hby d23_16)) ?_
  show own_Go _ _ _ _ (s₁.setTop (mkF m 17 #[rv a1, iv 46, iv 0, iv 5, iv 46, iv 1] [(.int (((f (1 : Int32)).toInt8.toInt32).toInt8.toInt32))]))
  refine o_iload X0 hq d23_17 rfl ?_
  by_cases hc19__6 : (((f (1 : Int32)).toInt8.toInt32).toInt8.toInt32) = (46 : Int32)
  ·have hv_7 := hv_4.trans (if_pos hc19__6)
   refine o_icmpNo X0 hq d23_19 (teq hc19__6).2 (o_iload X0 hq d23_22 rfl ?_)
   exact e_I X0 e0 hq hlk hrt d23_24 ⟨(congrArg (fun z => some (Value.int z)) hv_7.symm), (Fr.nil n0), rfl⟩
  ·have hv_8 := hv_4.trans (if_neg hc19__6)
   refine o_icmpYes X0 hq (pc' := 25) d23_19 (feq hc19__6).2 (o_iinc X0 hq d23_25 rfl (l' := #[rv a1, iv 46, iv 0, iv 5, iv 46, iv 2]) rfl (o_goto X0 hq (pc' := 7) d23_28 (o_iload X0 hq d23_7 rfl (o_iloadN X0 hq d23_9 rfl (o_icmpNo X0 hq d23_10 (by decide) (o_aloadN X0 hq d23_13 rfl rfl (o_iload X0 hq d23_14 rfl ?_)))))))
   obtain ⟨cl_9, Ar_9, qk_9, Sz_9, Ng_9, Hs_9, Gs_9⟩ := id V_s
   refine own_st (X0.baloadBytes hx (j := (2 : Int32)) (v := (.int (((f (2 : Int32)).toInt8.toInt32).toInt8.toInt32))) (by rw [e0]; exact Ar_9.1) (State.isArrayOf_alike hZ.alike Ar_9.2.1) Ar_9.2.2 (inb_of Sz_9 ⟨by decide, by decide⟩) (Hs_9.at (j := (2 : Int32)) (inb_of Sz_9 ⟨by decide, by decide⟩) (hat (2 : Int32) (by decide) (by decide))) (g := (mkF m 16 #[rv a1, iv 46, iv 0, iv 5, iv 46, iv 2] [(.int 2), (.ref a1)])) rfl rfl (hb hby d23_16)) ?_
   show own_Go _ _ _ _ (s₁.setTop (mkF m 17 #[rv a1, iv 46, iv 0, iv 5, iv 46, iv 2] [(.int (((f (2 : Int32)).toInt8.toInt32).toInt8.toInt32))]))
   refine o_iload X0 hq d23_17 rfl ?_
   by_cases hc19__10 : (((f (2 : Int32)).toInt8.toInt32).toInt8.toInt32) = (46 : Int32)
   ·have hv_11 := hv_8.trans (if_pos hc19__10)
    refine o_icmpNo X0 hq d23_19 (teq hc19__10).2 (o_iload X0 hq d23_22 rfl ?_)
    exact e_I X0 e0 hq hlk hrt d23_24 ⟨(congrArg (fun z => some (Value.int z)) hv_11.symm), (Fr.nil n0), rfl⟩
   ·have hv_12 := hv_8.trans (if_neg hc19__10)
    refine o_icmpYes X0 hq (pc' := 25) d23_19 (feq hc19__10).2 (o_iinc X0 hq d23_25 rfl (l' := #[rv a1, iv 46, iv 0, iv 5, iv 46, iv 3]) rfl (o_goto X0 hq (pc' := 7) d23_28 (o_iload X0 hq d23_7 rfl (o_iloadN X0 hq d23_9 rfl (o_icmpNo X0 hq d23_10 (by decide) (o_aloadN X0 hq d23_13 rfl rfl (o_iload X0 hq d23_14 rfl ?_)))))))
    obtain ⟨cl_13, Ar_13, qk_13, Sz_13, Ng_13, Hs_13, Gs_13⟩ := id V_s
    refine own_st (X0.baloadBytes hx (j := (3 : Int32)) (v := (.int (((f (3 : Int32)).toInt8.toInt32).toInt8.toInt32))) (by rw [e0]; exact Ar_13.1) (State.isArrayOf_alike hZ.alike Ar_13.2.1) Ar_13.2.2 (inb_of Sz_13 ⟨by decide, by decide⟩) (Hs_13.at (j := (3 : Int32)) (inb_of Sz_13 ⟨by decide, by decide⟩) (hat (3 : Int32) (by decide) (by decide))) (g := (mkF m 16 #[rv a1, iv 46, iv 0, iv 5, iv 46, iv 3] [(.int 3), (.ref a1)])) rfl rfl (hb hby d23_16)) ?_
    show own_Go _ _ _ _ (s₁.setTop (mkF m 17 #[rv a1, iv 46, iv 0, iv 5, iv 46, iv 3] [(.int (((f (3 : Int32)).toInt8.toInt32).toInt8.toInt32))]))
    refine o_iload X0 hq d23_17 rfl ?_
    by_cases hc19__14 : (((f (3 : Int32)).toInt8.toInt32).toInt8.toInt32) = (46 : Int32)
    ·have hv_15 := hv_12.trans (if_pos hc19__14)
     refine o_icmpNo X0 hq d23_19 (teq hc19__14).2 (o_iload X0 hq d23_22 rfl ?_)
     exact e_I X0 e0 hq hlk hrt d23_24 ⟨(congrArg (fun z => some (Value.int z)) hv_15.symm), (Fr.nil n0), rfl⟩
    ·have hv_16 := hv_12.trans (if_neg hc19__14)
     refine o_icmpYes X0 hq (pc' := 25) d23_19 (feq hc19__14).2 (o_iinc X0 hq d23_25 rfl (l' := #[rv a1, iv 46, iv 0, iv 5, iv 46, iv 4]) rfl (o_goto X0 hq (pc' := 7) d23_28 (o_iload X0 hq d23_7 rfl (o_iloadN X0 hq d23_9 rfl (o_icmpNo X0 hq d23_10 (by decide) (o_aloadN X0 hq d23_13 rfl rfl (o_iload X0 hq d23_14 rfl ?_)))))))
     obtain ⟨cl_17, Ar_17, qk_17, Sz_17, Ng_17, Hs_17, Gs_17⟩ := id V_s
     refine own_st (X0.baloadBytes hx (j := (4 : Int32)) (v := (.int (((f (4 : Int32)).toInt8.toInt32).toInt8.toInt32))) (by rw [e0]; exact Ar_17.1) (State.isArrayOf_alike hZ.alike Ar_17.2.1) Ar_17.2.2 (inb_of Sz_17 ⟨by decide, by decide⟩) (Hs_17.at (j := (4 : Int32)) (inb_of Sz_17 ⟨by decide, by decide⟩) (hat (4 : Int32) (by decide) (by decide))) (g := (mkF m 16 #[rv a1, iv 46, iv 0, iv 5, iv 46, iv 4] [(.int 4), (.ref a1)])) rfl rfl (hb hby d23_16)) ?_
     show own_Go _ _ _ _ (s₁.setTop (mkF m 17 #[rv a1, iv 46, iv 0, iv 5, iv 46, iv 4] [(.int (((f (4 : Int32)).toInt8.toInt32).toInt8.toInt32))]))
     refine o_iload X0 hq d23_17 rfl ?_
     by_cases hc19__18 : (((f (4 : Int32)).toInt8.toInt32).toInt8.toInt32) = (46 : Int32)
     ·have hv_19 := hv_16.trans (if_pos hc19__18)
      refine o_icmpNo X0 hq d23_19 (teq hc19__18).2 (o_iload X0 hq d23_22 rfl ?_)
      exact e_I X0 e0 hq hlk hrt d23_24 ⟨(congrArg (fun z => some (Value.int z)) hv_19.symm), (Fr.nil n0), rfl⟩
     ·have hv_20 := hv_16.trans (if_neg hc19__18)
      refine o_icmpYes X0 hq (pc' := 25) d23_19 (feq hc19__18).2 (o_iinc X0 hq d23_25 rfl (l' := #[rv a1, iv 46, iv 0, iv 5, iv 46, iv 5]) rfl (o_goto X0 hq (pc' := 7) d23_28 (o_iload X0 hq d23_7 rfl (o_iloadN X0 hq d23_9 rfl (o_icmpYes X0 hq (pc' := 31) d23_10 (by decide) (o_iconst X0 hq (-1) d23_31 rfl ?_))))))
      exact e_I X0 e0 hq hlk hrt d23_32 ⟨(congrArg (fun z => some (Value.int z)) hv_20.symm), (Fr.nil n0), rfl⟩
def Q_rmli0_5 (Z : State) (a0 : Array Value) (a1 : Addr) (k1 : ClassId) (vs : List Value) (d1 : Value) (f : Int32 → Int32) (h0 : Heap) (n0 : Nat) (v : Option Value) (h : Heap) (L : List Loc) : Prop := v = some (.int (own_ix_0_5 f)) ∧ Fr n0 L ∧ h = h0
theorem rmli0_5 (hw : HW a0 Z) (a1 : Addr) (k1 : ClassId) (vs : List Value) (d1 : Value) (f : Int32 → Int32) (h0 : Heap) (n0 : Nat) (Z0 : n0 ≤ h0.size) (V_s : Arv Z h0 a1 k1 .byte (5 : Int32) vs d1) (hat : ∀ i : Int32, ¬ i < 0 → i < (5 : Int32) → vs.getD i.toNatClampNeg d1 = .int (((f i).toInt8.toInt32).toInt8.toInt32)) :
  own_Met l y1_ jdk_43_method_22_code 4 (some .int) (R_ 1 0 0 17) #[(.ref a1), (.int (46 : Int32)), (.int (0 : Int32)), (.int (5 : Int32))] Z h0 (Q_rmli0_5 Z a0 a1 k1 vs d1 f h0 n0) := by
 refine own_bd (own := "java/lang/StringLatin1") rfl (plainFor_of_name pn_13) #[rv a1, iv 46, iv 0, iv 5] ?_
 intro p e s m below meth c s₁ hx hby hq hml hown hnm hlk hrt hZ X0 e0
 refine o_iloadN X0 hq d19_0 rfl ?_
 refine c_S1 X0 hq e0 hZ hown hml (k19_88 hw) (rm20 hw   h0 n0 Z0) d19_1 ?_ 0
 rintro T_1 L_1 _ X_1 ⟨⟨⟩, Nq_1, e_1⟩
 have N_1 := Fr.app (Fr.nil n0) Nq_1
 refine o_ifYes X_1 hq (pc' := 9) d19_4 (by decide) (o_iloadN X_1 hq d19_9 rfl (o_iconst X_1 hq 0 d19_10 rfl ?_))
 refine c_S2 X_1 hq e_1 hZ hown hml (k19_92 hw) (rmmax0 hw   h0 n0 Z0) d19_11 ?_ 0
 rintro T_2 L_2 _ X_2 ⟨⟨⟩, Nq_2, e_2⟩
 have N_2 := Fr.app N_1 Nq_2
 refine o_istoreN X_2 hq d19_14 (l' := #[rv a1, iv 46, iv 0, iv 5]) rfl (o_iloadN X_2 hq d19_15 rfl (o_aloadN X_2 hq d19_16 rfl rfl ?_))
 obtain ⟨cl_3, Ar_3, qk_3, Sz_3, Ng_3, Hs_3, Gs_3⟩ := id V_s
 refine own_st (X_2.arraylength hx (by rw [e_2]; exact Ar_3.1) (State.isArrayOf_alike hZ.alike Ar_3.2.1) (g := (mkF m 17 #[rv a1, iv 46, iv 0, iv 5] [(.ref a1), (.int 5)])) rfl rfl (hb hby d19_17)) ?_
 rw [len_of Sz_3 Ng_3]
 show own_Go _ _ _ _ (T_2.setTop (mkF m 18 #[rv a1, iv 46, iv 0, iv 5] [(.int 5), (.int 5)]))
 refine c_S2 X_2 hq e_2 hZ hown hml (k19_38 hw) (rmmin5 hw   h0 n0 Z0) d19_18 ?_ 0
 rintro T_4 L_4 _ X_4 ⟨⟨⟩, Nq_4, e_4⟩
 have N_4 := Fr.app N_2 Nq_4
 refine o_istoreN X_4 hq d19_21 (l' := #[rv a1, iv 46, iv 0, iv 5]) rfl (o_iloadN X_4 hq d19_22 rfl (o_iloadN X_4 hq d19_23 rfl (o_icmpYes X_4 hq (pc' := 29) d19_24 (by decide) (o_aloadN X_4 hq d19_29 rfl rfl (o_iloadN X_4 hq d19_30 rfl (o_iloadN X_4 hq d19_31 rfl (o_iloadN X_4 hq d19_32 rfl ?_)))))))
 refine c_S4 X_4 hq e_4 hZ hown hml (k19_95 hw) (rmix0_5 hw a1 k1 vs d1 f h0 n0 Z0 V_s hat) d19_33 ?_ 0
 rintro T_5 L_5 _ X_5 ⟨⟨⟩, Nq_5, e_5⟩
 have N_5 := Fr.app N_4 Nq_5
 exact e_I X_5 e_5 hq hlk hrt d19_36 ⟨rfl, N_5, rfl⟩
def Q_rmsi0_5 (Z : State) (a0 : Array Value) (a1 b : Addr) (k1 : ClassId) (vs : List Value) (d1 : Value) (w : Int32) (sfv : Value) (f : Int32 → Int32) (h0 : Heap) (n0 : Nat) (v : Option Value) (h : Heap) (L : List Loc) : Prop := v = some (.int (own_ix_0_5 f)) ∧ Fr n0 L ∧ h = h0
theorem rmsi0_5 (hw : HW a0 Z) (a1 b : Addr) (k1 : ClassId) (vs : List Value) (d1 : Value) (w : Int32) (sfv : Value) (f : Int32 → Int32) (h0 : Heap) (n0 : Nat) (Z0 : n0 ≤ h0.size) (E_s : Exa Z h0 a1 "java/lang/String") (F_v : Fld Z h0 a1 "java/lang/String" "value" "[B" (.ref b)) (F_c : Fld Z h0 a1 "java/lang/String" "coder" "B" (.int (0 : Int32))) (V_s : Arv Z h0 b k1 .byte (5 : Int32) vs d1) (S1 : Sta Z h0 "java/lang/String" "COMPACT_STRINGS" "Z" (.int w)) (hw0 : ¬ w = (0 : Int32)) (hat : ∀ i : Int32, ¬ i < 0 → i < (5 : Int32) → vs.getD i.toNatClampNeg d1 = .int (((f i).toInt8.toInt32).toInt8.toInt32)) (hf : ∀ i : Int32, ¬ (255 : Int32) < f i ∧ ¬ f i < 0) (S2 : Sta Z h0 "jdk/internal/util/Preconditions" "SIOOBE_FORMATTER" "Ljava/util/function/BiFunction;" sfv) (hsf : sfv.isRef = true) :
  own_Met l y2_ jdk_42_method_80_code 3 (some .int) (R_ 2 0 0 32) #[(.ref a1), (.int (46 : Int32)), (.int (0 : Int32))] Z h0 (Q_rmsi0_5 Z a0 a1 b k1 vs d1 w sfv f h0 n0) := by
 refine own_bd (own := "java/lang/String") rfl (plainFor_of_name pn_3) #[rv a1, iv 46, iv 0] ?_
 intro p e s m below meth c s₁ hx hby hq hml hown hnm hlk hrt hZ X0 e0
 refine o_aloadN X0 hq d16_0 rfl rfl ?_
 refine c_U0 X0 hq e0 hZ hown hml (k16_492U1 hw) (rm12 hw a1 w h0 n0 Z0 F_c S1 hw0) E_s d16_1 ?_ 0
 rintro T_1 L_1 _ X_1 ⟨⟨⟩, Nq_1, e_1⟩
 have N_1 := Fr.app (Fr.nil n0) Nq_1
 refine o_ifNo X_1 hq d16_4 (by decide) (o_aloadN X_1 hq d16_7 rfl rfl ?_)
 obtain ⟨T_2, X_2, e_2, st_2⟩ := getF X_1 hx hZ hown (host := "") (Or.inl (w_ hw 33 rfl)) Via.refl e_1 F_v (g := (mkF m 8 #[rv a1, iv 46, iv 0] [(.ref a1)])) rfl rfl (hb hby d16_8)
 refine own_st st_2 ?_
 show own_Go _ _ _ _ (T_2.setTop (mkF m 11 #[rv a1, iv 46, iv 0] [(.ref b)]))
 refine o_iloadN X_2 hq d16_11 rfl (o_iloadN X_2 hq d16_12 rfl (o_aloadN X_2 hq d16_13 rfl rfl ?_))
 refine c_U0 X_2 hq e_2 hZ hown hml (k16_505U1 hw) (rmlenN hw a1 b k1 (5 : Int32) vs d1 w h0 n0 Z0 E_s F_v F_c V_s S1 hw0) E_s d16_14 ?_ 3
 rintro T_3 L_3 _ X_3 ⟨⟨⟩, Nq_3, e_3⟩
 have N_3 := Fr.app N_1 Nq_3
 refine c_S4 X_3 hq e_3 hZ hown hml (k16_637 hw) (rmli0_5 hw b k1 vs d1 f h0 n0 Z0 V_s hat) d16_17 ?_ 0
 rintro T_4 L_4 _ X_4 ⟨⟨⟩, Nq_4, e_4⟩
 have N_4 := Fr.app N_3 Nq_4
 refine o_goto X_4 hq (pc' := 36) d16_20 ?_
 exact e_I X_4 e_4 hq hlk hrt d16_36 ⟨rfl, N_4, rfl⟩
def own_ix_1_5 (f : Int32 → Int32) : Int32 := (if (((f (1 : Int32)).toInt8.toInt32).toInt8.toInt32) = (46 : Int32) then (1 : Int32) else (if (((f (2 : Int32)).toInt8.toInt32).toInt8.toInt32) = (46 : Int32) then (2 : Int32) else (if (((f (3 : Int32)).toInt8.toInt32).toInt8.toInt32) = (46 : Int32) then (3 : Int32) else (if (((f (4 : Int32)).toInt8.toInt32).toInt8.toInt32) = (46 : Int32) then (4 : Int32) else (-1 : Int32)))))
def Q_rmix1_5 (Z : State) (a0 : Array Value) (a1 : Addr) (k1 : ClassId) (vs : List Value) (d1 : Value) (f : Int32 → Int32) (h0 : Heap) (n0 : Nat) (v : Option Value) (h : Heap) (L : List Loc) : Prop := v = some (.int (own_ix_1_5 f)) ∧ Fr n0 L ∧ h = h0
theorem rmix1_5 (hw : HW a0 Z) (a1 : Addr) (k1 : ClassId) (vs : List Value) (d1 : Value) (f : Int32 → Int32) (h0 : Heap) (n0 : Nat) (Z0 : n0 ≤ h0.size) (V_s : Arv Z h0 a1 k1 .byte (5 : Int32) vs d1) (hat : ∀ i : Int32, ¬ i < 0 → i < (5 : Int32) → vs.getD i.toNatClampNeg d1 = .int (((f i).toInt8.toInt32).toInt8.toInt32)) :
  own_Met l y3_ jdk_43_method_23_code 6 (some .int) (R_ 0 0 0 0) #[(.ref a1), (.int (46 : Int32)), (.int (1 : Int32)), (.int (5 : Int32))] Z h0 (Q_rmix1_5 Z a0 a1 k1 vs d1 f h0 n0) := by
 refine own_bd (own := "java/lang/StringLatin1") rfl (plainFor_of_name pn_13) #[rv a1, iv 46, iv 1, iv 5, .unset, .unset] ?_
 intro p e s m below meth c s₁ hx hby hq hml hown hnm hlk hrt hZ X0 e0
 have hv : own_ix_1_5 f = (if (((f (1 : Int32)).toInt8.toInt32).toInt8.toInt32) = (46 : Int32) then (1 : Int32) else (if (((f (2 : Int32)).toInt8.toInt32).toInt8.toInt32) = (46 : Int32) then (2 : Int32) else (if (((f (3 : Int32)).toInt8.toInt32).toInt8.toInt32) = (46 : Int32) then (3 : Int32) else (if (((f (4 : Int32)).toInt8.toInt32).toInt8.toInt32) = (46 : Int32) then (4 : Int32) else (-1 : Int32))))) := rfl
 show own_Go _ _ _ _ (s₁.setTop (mkF m 0 #[rv a1, iv 46, iv 1, iv 5, .unset, .unset] []))
 refine o_iloadN X0 hq d23_0 rfl (o_i2b X0 hq d23_1 ?_)
 show own_Go _ _ _ _ (s₁.setTop (mkF m 2 #[rv a1, iv 46, iv 1, iv 5, .unset, .unset] [(.int 46)]))
 refine o_istore X0 hq d23_2 (l' := #[rv a1, iv 46, iv 1, iv 5, iv 46, .unset]) rfl (o_iloadN X0 hq d23_4 rfl (o_istore X0 hq d23_5 (l' := #[rv a1, iv 46, iv 1, iv 5, iv 46, iv 1]) rfl (o_iload X0 hq d23_7 rfl (o_iloadN X0 hq d23_9 rfl (o_icmpNo X0 hq d23_10 (by decide) (o_aloadN X0 hq d23_13 rfl rfl (o_iload X0 hq d23_14 rfl ?_)))))))
 obtain ⟨cl_1, Ar_1, qk_1, Sz_1, Ng_1, Hs_1, Gs_1⟩ := id V_s
 refine own_st (X0.baloadBytes hx (j := (1 : Int32)) (v := (.int (((f (1 : Int32)).toInt8.toInt32).toInt8.toInt32))) (by rw [e0]; exact Ar_1.1) (State.isArrayOf_alike hZ.alike Ar_1.2.1) Ar_1.2.2 (inb_of Sz_1 ⟨by decide, by decide⟩) (Hs_1.at (j := (1 : Int32)) (inb_of Sz_1 ⟨by decide, by decide⟩) (hat (1 : Int32) (by decide) (by decide))) (g := (mkF m 16 #[rv a1, iv 46, iv 1, iv 5, iv 46, iv 1] [(.int 1), (.ref a1)])) rfl rfl (hb hby d23_16)) ?_
 show own_Go _ _ _ _ (s₁.setTop (mkF m 17 #[rv a1, iv 46, iv 1, iv 5, iv 46, iv 1] [(.int (((f (1 : Int32)).toInt8.toInt32).toInt8.toInt32))]))
 refine o_iload X0 hq d23_17 rfl ?_
 by_cases hc19__2 : (((f (1 : Int32)).toInt8.toInt32).toInt8.toInt32) = (46 : Int32)
 ·have hv_3 := hv.trans (if_pos hc19__2)
  refine o_icmpNo X0 hq d23_19 (teq hc19__2).2 (o_iload X0 hq d23_22 rfl ?_)
  exact e_I X0 e0 hq hlk hrt d23_24 ⟨(congrArg (fun z => some (Value.int z)) hv_3.symm), (Fr.nil n0), rfl⟩
 ·have hv_4 := hv.trans (if_neg hc19__2)
  refine o_icmpYes X0 hq (pc' := 25) d23_19 (feq hc19__2).2 (o_iinc X0 hq d23_25 rfl (l' := #[rv a1, iv 46, iv 1, iv 5, iv 46, iv 2]) rfl (o_goto X0 hq (pc' := 7) d23_28 (o_iload X0 hq d23_7 rfl (o_iloadN X0 hq d23_9 rfl (o_icmpNo X0 hq d23_10 (by decide) (o_aloadN X0 hq d23_13 rfl rfl (o_iload X0 hq d23_14 rfl ?_)))))))
  obtain ⟨cl_5, Ar_5, qk_5, Sz_5, Ng_5, Hs_5, Gs_5⟩ := id V_s
  refine own_st (X0.baloadBytes hx (j := (2 : Int32)) (v := (.int (((f (2 : Int32)).toInt8.toInt32).toInt8.toInt32))) (by rw [e0]; exact Ar_5.1) (State.isArrayOf_alike hZ.alike Ar_5.2.1) Ar_5.2.2 (inb_of Sz_5 ⟨by decide, by decide⟩) (Hs_5.at (j := (2 : Int32)) (inb_of Sz_5 ⟨by decide, by decide⟩) (hat (2 : Int32) (by decide) (by decide))) (g := (mkF m 16 #[rv a1, iv 46, iv 1, iv 5, iv 46, iv 2] [(.int 2), (.ref a1)])) rfl rfl (hb hby d23_16)) ?_
  show own_Go _ _ _ _ (s₁.setTop (mkF m 17 #[rv a1, iv 46, iv 1, iv 5, iv 46, iv 2] [(.int (((f (2 : Int32)).toInt8.toInt32).toInt8.toInt32))]))
  refine o_iload X0 hq d23_17 rfl ?_
  by_cases hc19__6 : (((f (2 : Int32)).toInt8.toInt32).toInt8.toInt32) = (46 : Int32)
  ·have hv_7 := hv_4.trans (if_pos hc19__6)
   refine o_icmpNo X0 hq d23_19 (teq hc19__6).2 (o_iload X0 hq d23_22 rfl ?_)
   exact e_I X0 e0 hq hlk hrt d23_24 ⟨(congrArg (fun z => some (Value.int z)) hv_7.symm), (Fr.nil n0), rfl⟩
  ·have hv_8 := hv_4.trans (if_neg hc19__6)
   refine o_icmpYes X0 hq (pc' := 25) d23_19 (feq hc19__6).2 (o_iinc X0 hq d23_25 rfl (l' := #[rv a1, iv 46, iv 1, iv 5, iv 46, iv 3]) rfl (o_goto X0 hq (pc' := 7) d23_28 (o_iload X0 hq d23_7 rfl (o_iloadN X0 hq d23_9 rfl (o_icmpNo X0 hq d23_10 (by decide) (o_aloadN X0 hq d23_13 rfl rfl (o_iload X0 hq d23_14 rfl ?_)))))))
   obtain ⟨cl_9, Ar_9, qk_9, Sz_9, Ng_9, Hs_9, Gs_9⟩ := id V_s
   refine own_st (X0.baloadBytes hx (j := (3 : Int32)) (v := (.int (((f (3 : Int32)).toInt8.toInt32).toInt8.toInt32))) (by rw [e0]; exact Ar_9.1) (State.isArrayOf_alike hZ.alike Ar_9.2.1) Ar_9.2.2 (inb_of Sz_9 ⟨by decide, by decide⟩) (Hs_9.at (j := (3 : Int32)) (inb_of Sz_9 ⟨by decide, by decide⟩) (hat (3 : Int32) (by decide) (by decide))) (g := (mkF m 16 #[rv a1, iv 46, iv 1, iv 5, iv 46, iv 3] [(.int 3), (.ref a1)])) rfl rfl (hb hby d23_16)) ?_
   show own_Go _ _ _ _ (s₁.setTop (mkF m 17 #[rv a1, iv 46, iv 1, iv 5, iv 46, iv 3] [(.int (((f (3 : Int32)).toInt8.toInt32).toInt8.toInt32))]))
   refine o_iload X0 hq d23_17 rfl ?_
   by_cases hc19__10 : (((f (3 : Int32)).toInt8.toInt32).toInt8.toInt32) = (46 : Int32)
   ·have hv_11 := hv_8.trans (if_pos hc19__10)
    refine o_icmpNo X0 hq d23_19 (teq hc19__10).2 (o_iload X0 hq d23_22 rfl ?_)
    exact e_I X0 e0 hq hlk hrt d23_24 ⟨(congrArg (fun z => some (Value.int z)) hv_11.symm), (Fr.nil n0), rfl⟩
   ·have hv_12 := hv_8.trans (if_neg hc19__10)
    refine o_icmpYes X0 hq (pc' := 25) d23_19 (feq hc19__10).2 (o_iinc X0 hq d23_25 rfl (l' := #[rv a1, iv 46, iv 1, iv 5, iv 46, iv 4]) rfl (o_goto X0 hq (pc' := 7) d23_28 (o_iload X0 hq d23_7 rfl (o_iloadN X0 hq d23_9 rfl (o_icmpNo X0 hq d23_10 (by decide) (o_aloadN X0 hq d23_13 rfl rfl (o_iload X0 hq d23_14 rfl ?_)))))))
    obtain ⟨cl_13, Ar_13, qk_13, Sz_13, Ng_13, Hs_13, Gs_13⟩ := id V_s
    refine own_st (X0.baloadBytes hx (j := (4 : Int32)) (v := (.int (((f (4 : Int32)).toInt8.toInt32).toInt8.toInt32))) (by rw [e0]; exact Ar_13.1) (State.isArrayOf_alike hZ.alike Ar_13.2.1) Ar_13.2.2 (inb_of Sz_13 ⟨by decide, by decide⟩) (Hs_13.at (j := (4 : Int32)) (inb_of Sz_13 ⟨by decide, by decide⟩) (hat (4 : Int32) (by decide) (by decide))) (g := (mkF m 16 #[rv a1, iv 46, iv 1, iv 5, iv 46, iv 4] [(.int 4), (.ref a1)])) rfl rfl (hb hby d23_16)) ?_
    show own_Go _ _ _ _ (s₁.setTop (mkF m 17 #[rv a1, iv 46, iv 1, iv 5, iv 46, iv 4] [(.int (((f (4 : Int32)).toInt8.toInt32).toInt8.toInt32))]))
    refine o_iload X0 hq d23_17 rfl ?_
    by_cases hc19__14 : (((f (4 : Int32)).toInt8.toInt32).toInt8.toInt32) = (46 : Int32)
    ·have hv_15 := hv_12.trans (if_pos hc19__14)
     refine o_icmpNo X0 hq d23_19 (teq hc19__14).2 (o_iload X0 hq d23_22 rfl ?_)
     exact e_I X0 e0 hq hlk hrt d23_24 ⟨(congrArg (fun z => some (Value.int z)) hv_15.symm), (Fr.nil n0), rfl⟩
    ·have hv_16 := hv_12.trans (if_neg hc19__14)
     refine o_icmpYes X0 hq (pc' := 25) d23_19 (feq hc19__14).2 (o_iinc X0 hq d23_25 rfl (l' := #[rv a1, iv 46, iv 1, iv 5, iv 46, iv 5]) rfl (o_goto X0 hq (pc' := 7) d23_28 (o_iload X0 hq d23_7 rfl (o_iloadN X0 hq d23_9 rfl (o_icmpYes X0 hq (pc' := 31) d23_10 (by decide) (o_iconst X0 hq (-1) d23_31 rfl ?_))))))
     exact e_I X0 e0 hq hlk hrt d23_32 ⟨(congrArg (fun z => some (Value.int z)) hv_16.symm), (Fr.nil n0), rfl⟩
def Q_rmli1_5 (Z : State) (a0 : Array Value) (a1 : Addr) (k1 : ClassId) (vs : List Value) (d1 : Value) (f : Int32 → Int32) (h0 : Heap) (n0 : Nat) (v : Option Value) (h : Heap) (L : List Loc) : Prop := v = some (.int (own_ix_1_5 f)) ∧ Fr n0 L ∧ h = h0
theorem rmli1_5 (hw : HW a0 Z) (a1 : Addr) (k1 : ClassId) (vs : List Value) (d1 : Value) (f : Int32 → Int32) (h0 : Heap) (n0 : Nat) (Z0 : n0 ≤ h0.size) (V_s : Arv Z h0 a1 k1 .byte (5 : Int32) vs d1) (hat : ∀ i : Int32, ¬ i < 0 → i < (5 : Int32) → vs.getD i.toNatClampNeg d1 = .int (((f i).toInt8.toInt32).toInt8.toInt32)) :
  own_Met l y1_ jdk_43_method_22_code 4 (some .int) (R_ 1 0 0 17) #[(.ref a1), (.int (46 : Int32)), (.int (1 : Int32)), (.int (5 : Int32))] Z h0 (Q_rmli1_5 Z a0 a1 k1 vs d1 f h0 n0) := by
 refine own_bd (own := "java/lang/StringLatin1") rfl (plainFor_of_name pn_13) #[rv a1, iv 46, iv 1, iv 5] ?_
 intro p e s m below meth c s₁ hx hby hq hml hown hnm hlk hrt hZ X0 e0
 refine o_iloadN X0 hq d19_0 rfl ?_
 refine c_S1 X0 hq e0 hZ hown hml (k19_88 hw) (rm20 hw   h0 n0 Z0) d19_1 ?_ 0
 rintro T_1 L_1 _ X_1 ⟨⟨⟩, Nq_1, e_1⟩
 have N_1 := Fr.app (Fr.nil n0) Nq_1
 refine o_ifYes X_1 hq (pc' := 9) d19_4 (by decide) (o_iloadN X_1 hq d19_9 rfl (o_iconst X_1 hq 0 d19_10 rfl ?_))
 refine c_S2 X_1 hq e_1 hZ hown hml (k19_92 hw) (rmmax1 hw   h0 n0 Z0) d19_11 ?_ 0
 rintro T_2 L_2 _ X_2 ⟨⟨⟩, Nq_2, e_2⟩
 have N_2 := Fr.app N_1 Nq_2
 refine o_istoreN X_2 hq d19_14 (l' := #[rv a1, iv 46, iv 1, iv 5]) rfl (o_iloadN X_2 hq d19_15 rfl (o_aloadN X_2 hq d19_16 rfl rfl ?_))
 obtain ⟨cl_3, Ar_3, qk_3, Sz_3, Ng_3, Hs_3, Gs_3⟩ := id V_s
 refine own_st (X_2.arraylength hx (by rw [e_2]; exact Ar_3.1) (State.isArrayOf_alike hZ.alike Ar_3.2.1) (g := (mkF m 17 #[rv a1, iv 46, iv 1, iv 5] [(.ref a1), (.int 5)])) rfl rfl (hb hby d19_17)) ?_
 rw [len_of Sz_3 Ng_3]
 show own_Go _ _ _ _ (T_2.setTop (mkF m 18 #[rv a1, iv 46, iv 1, iv 5] [(.int 5), (.int 5)]))
 refine c_S2 X_2 hq e_2 hZ hown hml (k19_38 hw) (rmmin5 hw   h0 n0 Z0) d19_18 ?_ 0
 rintro T_4 L_4 _ X_4 ⟨⟨⟩, Nq_4, e_4⟩
 have N_4 := Fr.app N_2 Nq_4
 refine o_istoreN X_4 hq d19_21 (l' := #[rv a1, iv 46, iv 1, iv 5]) rfl (o_iloadN X_4 hq d19_22 rfl (o_iloadN X_4 hq d19_23 rfl (o_icmpYes X_4 hq (pc' := 29) d19_24 (by decide) (o_aloadN X_4 hq d19_29 rfl rfl (o_iloadN X_4 hq d19_30 rfl (o_iloadN X_4 hq d19_31 rfl (o_iloadN X_4 hq d19_32 rfl ?_)))))))
 refine c_S4 X_4 hq e_4 hZ hown hml (k19_95 hw) (rmix1_5 hw a1 k1 vs d1 f h0 n0 Z0 V_s hat) d19_33 ?_ 0
 rintro T_5 L_5 _ X_5 ⟨⟨⟩, Nq_5, e_5⟩
 have N_5 := Fr.app N_4 Nq_5
 exact e_I X_5 e_5 hq hlk hrt d19_36 ⟨rfl, N_5, rfl⟩
def Q_rmsi1_5 (Z : State) (a0 : Array Value) (a1 b : Addr) (k1 : ClassId) (vs : List Value) (d1 : Value) (w : Int32) (sfv : Value) (f : Int32 → Int32) (h0 : Heap) (n0 : Nat) (v : Option Value) (h : Heap) (L : List Loc) : Prop := v = some (.int (own_ix_1_5 f)) ∧ Fr n0 L ∧ h = h0
theorem rmsi1_5 (hw : HW a0 Z) (a1 b : Addr) (k1 : ClassId) (vs : List Value) (d1 : Value) (w : Int32) (sfv : Value) (f : Int32 → Int32) (h0 : Heap) (n0 : Nat) (Z0 : n0 ≤ h0.size) (E_s : Exa Z h0 a1 "java/lang/String") (F_v : Fld Z h0 a1 "java/lang/String" "value" "[B" (.ref b)) (F_c : Fld Z h0 a1 "java/lang/String" "coder" "B" (.int (0 : Int32))) (V_s : Arv Z h0 b k1 .byte (5 : Int32) vs d1) (S1 : Sta Z h0 "java/lang/String" "COMPACT_STRINGS" "Z" (.int w)) (hw0 : ¬ w = (0 : Int32)) (hat : ∀ i : Int32, ¬ i < 0 → i < (5 : Int32) → vs.getD i.toNatClampNeg d1 = .int (((f i).toInt8.toInt32).toInt8.toInt32)) (hf : ∀ i : Int32, ¬ (255 : Int32) < f i ∧ ¬ f i < 0) (S2 : Sta Z h0 "jdk/internal/util/Preconditions" "SIOOBE_FORMATTER" "Ljava/util/function/BiFunction;" sfv) (hsf : sfv.isRef = true) :
  own_Met l y2_ jdk_42_method_80_code 3 (some .int) (R_ 2 0 0 32) #[(.ref a1), (.int (46 : Int32)), (.int (1 : Int32))] Z h0 (Q_rmsi1_5 Z a0 a1 b k1 vs d1 w sfv f h0 n0) := by
 refine own_bd (own := "java/lang/String") rfl (plainFor_of_name pn_3) #[rv a1, iv 46, iv 1] ?_
 intro p e s m below meth c s₁ hx hby hq hml hown hnm hlk hrt hZ X0 e0
 refine o_aloadN X0 hq d16_0 rfl rfl ?_
 refine c_U0 X0 hq e0 hZ hown hml (k16_492U1 hw) (rm12 hw a1 w h0 n0 Z0 F_c S1 hw0) E_s d16_1 ?_ 0
 rintro T_1 L_1 _ X_1 ⟨⟨⟩, Nq_1, e_1⟩
 have N_1 := Fr.app (Fr.nil n0) Nq_1
 refine o_ifNo X_1 hq d16_4 (by decide) (o_aloadN X_1 hq d16_7 rfl rfl ?_)
 obtain ⟨T_2, X_2, e_2, st_2⟩ := getF X_1 hx hZ hown (host := "") (Or.inl (w_ hw 33 rfl)) Via.refl e_1 F_v (g := (mkF m 8 #[rv a1, iv 46, iv 1] [(.ref a1)])) rfl rfl (hb hby d16_8)
 refine own_st st_2 ?_
 show own_Go _ _ _ _ (T_2.setTop (mkF m 11 #[rv a1, iv 46, iv 1] [(.ref b)]))
 refine o_iloadN X_2 hq d16_11 rfl (o_iloadN X_2 hq d16_12 rfl (o_aloadN X_2 hq d16_13 rfl rfl ?_))
 refine c_U0 X_2 hq e_2 hZ hown hml (k16_505U1 hw) (rmlenN hw a1 b k1 (5 : Int32) vs d1 w h0 n0 Z0 E_s F_v F_c V_s S1 hw0) E_s d16_14 ?_ 3
 rintro T_3 L_3 _ X_3 ⟨⟨⟩, Nq_3, e_3⟩
 have N_3 := Fr.app N_1 Nq_3
 refine c_S4 X_3 hq e_3 hZ hown hml (k16_637 hw) (rmli1_5 hw b k1 vs d1 f h0 n0 Z0 V_s hat) d16_17 ?_ 0
 rintro T_4 L_4 _ X_4 ⟨⟨⟩, Nq_4, e_4⟩
 have N_4 := Fr.app N_3 Nq_4
 refine o_goto X_4 hq (pc' := 36) d16_20 ?_
 exact e_I X_4 e_4 hq hlk hrt d16_36 ⟨rfl, N_4, rfl⟩
abbrev D24 := decode prog_24_method_6_code
theorem d24_0 : D24 0 = .ok (.iload_n 1, 1) := by decide +kernel
theorem d24_1 : D24 1 = .ok (.iload_n 2, 1) := by decide +kernel
theorem d24_2 : D24 2 = .ok (.if_icmp .ge 7, 3) := by decide +kernel
theorem d24_9 : D24 9 = .ok (.iconst 0, 1) := by decide +kernel
theorem d24_10 : D24 10 = .ok (.istore_n 3, 1) := by decide +kernel
theorem d24_11 : D24 11 = .ok (.iload_n 1, 1) := by decide +kernel
theorem d24_12 : D24 12 = .ok (.istore 4, 2) := by decide +kernel
theorem d24_14 : D24 14 = .ok (.iload_n 3, 1) := by decide +kernel
theorem d24_15 : D24 15 = .ok (.ifCond .eq 43, 3) := by decide +kernel
theorem d24_58 : D24 58 = .ok (.iload_n 3, 1) := by decide +kernel
theorem d24_59 : D24 59 = .ok (.ireturn, 1) := by decide +kernel
def Q_rmdg0_0 (Z : State) (a0 : Array Value) (a1 : Addr) (h0 : Heap) (n0 : Nat) (v : Option Value) (h : Heap) (L : List Loc) : Prop := v = some (.int (0 : Int32)) ∧ Fr n0 L ∧ h = h0
theorem rmdg0_0 (hw : HW a0 Z) (a1 : Addr) (h0 : Heap) (n0 : Nat) (Z0 : n0 ≤ h0.size) :
  own_Met l y0_ prog_24_method_6_code 5 (some .boolean) (R_ 0 0 0 0) #[(.ref a1), (.int (0 : Int32)), (.int (0 : Int32))] Z h0 (Q_rmdg0_0 Z a0 a1 h0 n0) := by
 refine own_bd (own := "com/example/nimble_anonymizer/nimbleanonymizer/NumericColumn") rfl (plainFor_of_name pn_9) #[rv a1, iv 0, iv 0, .unset, .unset] ?_
 intro p e s m below meth c s₁ hx hby hq hml hown hnm hlk hrt hZ X0 e0
 refine o_iloadN X0 hq d24_0 rfl (o_iloadN X0 hq d24_1 rfl (o_icmpYes X0 hq (pc' := 9) d24_2 (by decide) (o_iconst X0 hq 0 d24_9 rfl (o_istoreN X0 hq d24_10 (l' := #[rv a1, iv 0, iv 0, iv 0, .unset]) rfl (o_iloadN X0 hq d24_11 rfl (o_istore X0 hq d24_12 (l' := #[rv a1, iv 0, iv 0, iv 0, iv 0]) rfl (o_iloadN X0 hq d24_14 rfl (o_ifYes X0 hq (pc' := 58) d24_15 (by decide) (o_iloadN X0 hq d24_58 rfl ?_)))))))))
 exact e_Z X0 e0 hq hlk hrt d24_59 ⟨rfl, (Fr.nil n0), rfl⟩
def own_dg_0_1 (f : Int32 → Int32) : Int32 := (if (f (0 : Int32)) < (48 : Int32) then (0 : Int32) else (if (57 : Int32) < (f (0 : Int32)) then (0 : Int32) else (1 : Int32)))
theorem d24_5 : D24 5 = .ok (.iconst 1, 1) := by decide +kernel
theorem d24_6 : D24 6 = .ok (.goto 4, 3) := by decide +kernel
theorem d24_18 : D24 18 = .ok (.iload 4, 2) := by decide +kernel
theorem d24_20 : D24 20 = .ok (.iload_n 2, 1) := by decide +kernel
theorem d24_21 : D24 21 = .ok (.if_icmp .ge 37, 3) := by decide +kernel
theorem d24_24 : D24 24 = .ok (.aload_n 0, 1) := by decide +kernel
theorem d24_25 : D24 25 = .ok (.iload 4, 2) := by decide +kernel
theorem d24_27 : D24 27 = .ok (.invokevirtual 100, 3) := by decide +kernel
theorem k24_100U1 {a0 : Array Value} {Z : State} (hw : HW a0 Z) : own_KU a0 Z "com/example/nimble_anonymizer/nimbleanonymizer/NumericColumn" "java/lang/String" 100 y14_ y14_ jdk_42_method_56_code 2 (some .char) 1 := ⟨⟨(w_ hw 47 rfl), ⟨_, _, pd_10, rfl⟩, by decide⟩, (w_ hw 48 rfl), (w_ hw 50 rfl), (w_ hw 49 rfl), (w_ hw 8 rfl), (w_ hw 51 rfl)⟩
theorem d24_30 : D24 30 = .ok (.bipush 48, 2) := by decide +kernel
theorem d24_32 : D24 32 = .ok (.if_icmp .lt 18, 3) := by decide +kernel
theorem d24_50 : D24 50 = .ok (.iconst 0, 1) := by decide +kernel
theorem d24_51 : D24 51 = .ok (.istore_n 3, 1) := by decide +kernel
theorem d24_52 : D24 52 = .ok (.iinc 4 1, 3) := by decide +kernel
theorem d24_55 : D24 55 = .ok (.goto (-41), 3) := by decide +kernel
theorem d24_35 : D24 35 = .ok (.aload_n 0, 1) := by decide +kernel
theorem d24_36 : D24 36 = .ok (.iload 4, 2) := by decide +kernel
theorem d24_38 : D24 38 = .ok (.invokevirtual 100, 3) := by decide +kernel
theorem d24_41 : D24 41 = .ok (.bipush 57, 2) := by decide +kernel
theorem d24_43 : D24 43 = .ok (.if_icmp .gt 7, 3) := by decide +kernel
theorem d24_46 : D24 46 = .ok (.iconst 1, 1) := by decide +kernel
theorem d24_47 : D24 47 = .ok (.goto 4, 3) := by decide +kernel
def Q_rmdg0_1 (Z : State) (a0 : Array Value) (a1 b : Addr) (k1 : ClassId) (N : Int32) (vs : List Value) (d1 : Value) (w : Int32) (sfv : Value) (f : Int32 → Int32) (h0 : Heap) (n0 : Nat) (v : Option Value) (h : Heap) (L : List Loc) : Prop := v = some (.int (own_dg_0_1 f)) ∧ Fr n0 L ∧ h = h0
theorem rmdg0_1 (hw : HW a0 Z) (a1 b : Addr) (k1 : ClassId) (N : Int32) (vs : List Value) (d1 : Value) (w : Int32) (sfv : Value) (f : Int32 → Int32) (h0 : Heap) (n0 : Nat) (Z0 : n0 ≤ h0.size) (E_s : Exa Z h0 a1 "java/lang/String") (F_v : Fld Z h0 a1 "java/lang/String" "value" "[B" (.ref b)) (F_c : Fld Z h0 a1 "java/lang/String" "coder" "B" (.int (0 : Int32))) (V_s : Arv Z h0 b k1 .byte N vs d1) (S1 : Sta Z h0 "java/lang/String" "COMPACT_STRINGS" "Z" (.int w)) (hw0 : ¬ w = (0 : Int32)) (hat : ∀ i : Int32, ¬ i < 0 → i < N → vs.getD i.toNatClampNeg d1 = .int (((f i).toInt8.toInt32).toInt8.toInt32)) (hf : ∀ i : Int32, ¬ (255 : Int32) < f i ∧ ¬ f i < 0) (S2 : Sta Z h0 "jdk/internal/util/Preconditions" "SIOOBE_FORMATTER" "Ljava/util/function/BiFunction;" sfv) (hsf : sfv.isRef = true) (hN : ¬ N < (1 : Int32)) :
  own_Met l y0_ prog_24_method_6_code 5 (some .boolean) (R_ 4 0 0 53) #[(.ref a1), (.int (0 : Int32)), (.int (1 : Int32))] Z h0 (Q_rmdg0_1 Z a0 a1 b k1 N vs d1 w sfv f h0 n0) := by
 refine own_bd (own := "com/example/nimble_anonymizer/nimbleanonymizer/NumericColumn") rfl (plainFor_of_name pn_9) #[rv a1, iv 0, iv 1, .unset, .unset] ?_
 intro p e s m below meth c s₁ hx hby hq hml hown hnm hlk hrt hZ X0 e0
 have hv : own_dg_0_1 f = (if (f (0 : Int32)) < (48 : Int32) then (0 : Int32) else (if (57 : Int32) < (f (0 : Int32)) then (0 : Int32) else (1 : Int32))) := rfl
 show own_Go _ _ _ _ (s₁.setTop (mkF m 0 #[rv a1, iv 0, iv 1, .unset, .unset] []))
 refine o_iloadN X0 hq d24_0 rfl (o_iloadN X0 hq d24_1 rfl (o_icmpNo X0 hq d24_2 (by decide) (o_iconst X0 hq 1 d24_5 rfl (o_goto X0 hq (pc' := 10) d24_6 (o_istoreN X0 hq d24_10 (l' := #[rv a1, iv 0, iv 1, iv 1, .unset]) rfl (o_iloadN X0 hq d24_11 rfl (o_istore X0 hq d24_12 (l' := #[rv a1, iv 0, iv 1, iv 1, iv 0]) rfl (o_iloadN X0 hq d24_14 rfl (o_ifNo X0 hq d24_15 (by decide) (o_iload X0 hq d24_18 rfl (o_iloadN X0 hq d24_20 rfl (o_icmpNo X0 hq d24_21 (by decide) (o_aloadN X0 hq d24_24 rfl rfl (o_iload X0 hq d24_25 rfl ?_))))))))))))))
 refine c_U1 X0 hq e0 hZ hown hml (k24_100U1 hw) (rm11 hw a1 (0 : Int32) b k1 N vs d1 w sfv f h0 n0 Z0 E_s F_v F_c V_s S1 hw0 hat hf S2 hsf (by decide) (own_ltN (e := (1 : Int32)) (by decide) hN)) E_s d24_27 ?_ 0
 rintro T_1 L_1 _ X_1 ⟨⟨⟩, Nq_1, e_1⟩
 have N_1 := Fr.app (Fr.nil n0) Nq_1
 refine o_bipush X_1 hq 48 d24_30 rfl ?_
 by_cases hc32__2 : (f (0 : Int32)) < (48 : Int32)
 ·have hv_3 := hv.trans (if_pos hc32__2)
  refine o_icmpYes X_1 hq (pc' := 50) d24_32 (tlt hc32__2).1 (o_iconst X_1 hq 0 d24_50 rfl (o_istoreN X_1 hq d24_51 (l' := #[rv a1, iv 0, iv 1, iv 0, iv 0]) rfl (o_iinc X_1 hq d24_52 rfl (l' := #[rv a1, iv 0, iv 1, iv 0, iv 1]) rfl (o_goto X_1 hq (pc' := 14) d24_55 (o_iloadN X_1 hq d24_14 rfl (o_ifYes X_1 hq (pc' := 58) d24_15 (by decide) (o_iloadN X_1 hq d24_58 rfl ?_)))))))
  exact e_Z X_1 e_1 hq hlk hrt d24_59 ⟨(congrArg (fun z => some (Value.int z)) hv_3.symm), N_1, rfl⟩
 ·have hv_4 := hv.trans (if_neg hc32__2)
  refine o_icmpNo X_1 hq d24_32 (flt hc32__2).1 (o_aloadN X_1 hq d24_35 rfl rfl (o_iload X_1 hq d24_36 rfl ?_))
  refine c_U1 X_1 hq e_1 hZ hown hml (k24_100U1 hw) (rm11 hw a1 (0 : Int32) b k1 N vs d1 w sfv f h0 n0 Z0 E_s F_v F_c V_s S1 hw0 hat hf S2 hsf (by decide) (own_ltN (e := (1 : Int32)) (by decide) hN)) E_s d24_38 ?_ 0
  rintro T_5 L_5 _ X_5 ⟨⟨⟩, Nq_5, e_5⟩
  have N_5 := Fr.app N_1 Nq_5
  refine o_bipush X_5 hq 57 d24_41 rfl ?_
  by_cases hc43__6 : (57 : Int32) < (f (0 : Int32))
  ·have hv_7 := hv_4.trans (if_pos hc43__6)
   refine o_icmpYes X_5 hq (pc' := 50) d24_43 (tlt hc43__6).2.2.1 (o_iconst X_5 hq 0 d24_50 rfl (o_istoreN X_5 hq d24_51 (l' := #[rv a1, iv 0, iv 1, iv 0, iv 0]) rfl (o_iinc X_5 hq d24_52 rfl (l' := #[rv a1, iv 0, iv 1, iv 0, iv 1]) rfl (o_goto X_5 hq (pc' := 14) d24_55 (o_iloadN X_5 hq d24_14 rfl (o_ifYes X_5 hq (pc' := 58) d24_15 (by decide) (o_iloadN X_5 hq d24_58 rfl ?_)))))))
   exact e_Z X_5 e_5 hq hlk hrt d24_59 ⟨(congrArg (fun z => some (Value.int z)) hv_7.symm), N_5, rfl⟩
  ·have hv_8 := hv_4.trans (if_neg hc43__6)
   refine o_icmpNo X_5 hq d24_43 (flt hc43__6).2.2.1 (o_iconst X_5 hq 1 d24_46 rfl (o_goto X_5 hq (pc' := 51) d24_47 (o_istoreN X_5 hq d24_51 (l' := #[rv a1, iv 0, iv 1, iv 1, iv 0]) rfl (o_iinc X_5 hq d24_52 rfl (l' := #[rv a1, iv 0, iv 1, iv 1, iv 1]) rfl (o_goto X_5 hq (pc' := 14) d24_55 (o_iloadN X_5 hq d24_14 rfl (o_ifNo X_5 hq d24_15 (by decide) (o_iload X_5 hq d24_18 rfl (o_iloadN X_5 hq d24_20 rfl (o_icmpYes X_5 hq (pc' := 58) d24_21 (by decide) (o_iloadN X_5 hq d24_58 rfl ?_)))))))))))
   exact e_Z X_5 e_5 hq hlk hrt d24_59 ⟨(congrArg (fun z => some (Value.int z)) hv_8.symm), N_5, rfl⟩
def Q_rmdg1_1 (Z : State) (a0 : Array Value) (a1 : Addr) (h0 : Heap) (n0 : Nat) (v : Option Value) (h : Heap) (L : List Loc) : Prop := v = some (.int (0 : Int32)) ∧ Fr n0 L ∧ h = h0
theorem rmdg1_1 (hw : HW a0 Z) (a1 : Addr) (h0 : Heap) (n0 : Nat) (Z0 : n0 ≤ h0.size) :
  own_Met l y0_ prog_24_method_6_code 5 (some .boolean) (R_ 0 0 0 0) #[(.ref a1), (.int (1 : Int32)), (.int (1 : Int32))] Z h0 (Q_rmdg1_1 Z a0 a1 h0 n0) := by
 refine own_bd (own := "com/example/nimble_anonymizer/nimbleanonymizer/NumericColumn") rfl (plainFor_of_name pn_9) #[rv a1, iv 1, iv 1, .unset, .unset] ?_
 intro p e s m below meth c s₁ hx hby hq hml hown hnm hlk hrt hZ X0 e0
 refine o_iloadN X0 hq d24_0 rfl (o_iloadN X0 hq d24_1 rfl (o_icmpYes X0 hq (pc' := 9) d24_2 (by decide) (o_iconst X0 hq 0 d24_9 rfl (o_istoreN X0 hq d24_10 (l' := #[rv a1, iv 1, iv 1, iv 0, .unset]) rfl (o_iloadN X0 hq d24_11 rfl (o_istore X0 hq d24_12 (l' := #[rv a1, iv 1, iv 1, iv 0, iv 1]) rfl (o_iloadN X0 hq d24_14 rfl (o_ifYes X0 hq (pc' := 58) d24_15 (by decide) (o_iloadN X0 hq d24_58 rfl ?_)))))))))
 exact e_Z X0 e0 hq hlk hrt d24_59 ⟨rfl, (Fr.nil n0), rfl⟩
def own_dg_0_2 (f : Int32 → Int32) : Int32 := (if (f (0 : Int32)) < (48 : Int32) then (0 : Int32) else (if (57 : Int32) < (f (0 : Int32)) then (0 : Int32) else (if (f (1 : Int32)) < (48 : Int32) then (0 : Int32) else (if (57 : Int32) < (f (1 : Int32)) then (0 : Int32) else (1 : Int32)))))
def Q_rmdg0_2 (Z : State) (a0 : Array Value) (a1 b : Addr) (k1 : ClassId) (N : Int32) (vs : List Value) (d1 : Value) (w : Int32) (sfv : Value) (f : Int32 → Int32) (h0 : Heap) (n0 : Nat) (v : Option Value) (h : Heap) (L : List Loc) : Prop := v = some (.int (own_dg_0_2 f)) ∧ Fr n0 L ∧ h = h0
theorem rmdg0_2 (hw : HW a0 Z) (a1 b : Addr) (k1 : ClassId) (N : Int32) (vs : List Value) (d1 : Value) (w : Int32) (sfv : Value) (f : Int32 → Int32) (h0 : Heap) (n0 : Nat) (Z0 : n0 ≤ h0.size) (E_s : Exa Z h0 a1 "java/lang/String") (F_v : Fld Z h0 a1 "java/lang/String" "value" "[B" (.ref b)) (F_c : Fld Z h0 a1 "java/lang/String" "coder" "B" (.int (0 : Int32))) (V_s : Arv Z h0 b k1 .byte N vs d1) (S1 : Sta Z h0 "java/lang/String" "COMPACT_STRINGS" "Z" (.int w)) (hw0 : ¬ w = (0 : Int32)) (hat : ∀ i : Int32, ¬ i < 0 → i < N → vs.getD i.toNatClampNeg d1 = .int (((f i).toInt8.toInt32).toInt8.toInt32)) (hf : ∀ i : Int32, ¬ (255 : Int32) < f i ∧ ¬ f i < 0) (S2 : Sta Z h0 "jdk/internal/util/Preconditions" "SIOOBE_FORMATTER" "Ljava/util/function/BiFunction;" sfv) (hsf : sfv.isRef = true) (hN : ¬ N < (2 : Int32)) :
  own_Met l y0_ prog_24_method_6_code 5 (some .boolean) (R_ 4 0 0 53) #[(.ref a1), (.int (0 : Int32)), (.int (2 : Int32))] Z h0 (Q_rmdg0_2 Z a0 a1 b k1 N vs d1 w sfv f h0 n0) := by
 refine own_bd (own := "com/example/nimble_anonymizer/nimbleanonymizer/NumericColumn") rfl (plainFor_of_name pn_9) #[rv a1, iv 0, iv 2, .unset, .unset] ?_
 intro p e s m below meth c s₁ hx hby hq hml hown hnm hlk hrt hZ X0 e0
 have hv : own_dg_0_2 f = (if (f (0 : Int32)) < (48 : Int32) then (0 : Int32) else (if (57 : Int32) < (f (0 : Int32)) then (0 : Int32) else (if (f (1 : Int32)) < (48 : Int32) then (0 : Int32) else (if (57 : Int32) < (f (1 : Int32)) then (0 : Int32) else (1 : Int32))))) := rfl
 show own_Go _ _ _ _ (s₁.setTop (mkF m 0 #[rv a1, iv 0, iv 2, .unset, .unset] []))
 refine o_iloadN X0 hq d24_0 rfl (o_iloadN X0 hq d24_1 rfl (o_icmpNo X0 hq d24_2 (by decide) (o_iconst X0 hq 1 d24_5 rfl (o_goto X0 hq (pc' := 10) d24_6 (o_istoreN X0 hq d24_10 (l' := #[rv a1, iv 0, iv 2, iv 1, .unset]) rfl (o_iloadN X0 hq d24_11 rfl (o_istore X0 hq d24_12 (l' := #[rv a1, iv 0, iv 2, iv 1, iv 0]) rfl (o_iloadN X0 hq d24_14 rfl (o_ifNo X0 hq d24_15 (by decide) (o_iload X0 hq d24_18 rfl (o_iloadN X0 hq d24_20 rfl (o_icmpNo X0 hq d24_21 (by decide) (o_aloadN X0 hq d24_24 rfl rfl (o_iload X0 hq d24_25 rfl ?_))))))))))))))
 refine c_U1 X0 hq e0 hZ hown hml (k24_100U1 hw) (rm11 hw a1 (0 : Int32) b k1 N vs d1 w sfv f h0 n0 Z0 E_s F_v F_c V_s S1 hw0 hat hf S2 hsf (by decide) (own_ltN (e := (2 : Int32)) (by decide) hN)) E_s d24_27 ?_ 0
 rintro T_1 L_1 _ X_1 ⟨⟨⟩, Nq_1, e_1⟩
 have N_1 := Fr.app (Fr.nil n0) Nq_1
 refine o_bipush X_1 hq 48 d24_30 rfl ?_
 by_cases hc32__2 : (f (0 : Int32)) < (48 : Int32)
 ·have hv_3 := hv.trans (if_pos hc32__2)
  refine o_icmpYes X_1 hq (pc' := 50) d24_32 (tlt hc32__2).1 (o_iconst X_1 hq 0 d24_50 rfl (o_istoreN X_1 hq d24_51 (l' := #[rv a1, iv 0, iv 2, iv 0, iv 0]) rfl (o_iinc X_1 hq d24_52 rfl (l' := #[rv a1, iv 0, iv 2, iv 0, iv 1]) rfl (o_goto X_1 hq (pc' := 14) d24_55 (o_iloadN X_1 hq d24_14 rfl (o_ifYes X_1 hq (pc' := 58) d24_15 (by decide) (o_iloadN X_1 hq d24_58 rfl ?_)))))))
  exact e_Z X_1 e_1 hq hlk hrt d24_59 ⟨(congrArg (fun z => some (Value.int z)) hv_3.symm), N_1, rfl⟩
 ·have hv_4 := hv.trans (if_neg hc32__2)
  refine o_icmpNo X_1 hq d24_32 (flt hc32__2).1 (o_aloadN X_1 hq d24_35 rfl rfl (o_iload X_1 hq d24_36 rfl ?_))
  refine c_U1 X_1 hq e_1 hZ hown hml (k24_100U1 hw) (rm11 hw a1 (0 : Int32) b k1 N vs d1 w sfv f h0 n0 Z0 E_s F_v F_c V_s S1 hw0 hat hf S2 hsf (by decide) (own_ltN (e := (2 : Int32)) (by decide) hN)) E_s d24_38 ?_ 0
  rintro T_5 L_5 _ X_5 ⟨⟨⟩, Nq_5, e_5⟩
  have N_5 := Fr.app N_1 Nq_5
  refine o_bipush X_5 hq 57 d24_41 rfl ?_
  by_cases hc43__6 : (57 : Int32) < (f (0 : Int32))
  ·have hv_7 := hv_4.trans (if_pos hc43__6)
   refine o_icmpYes X_5 hq (pc' := 50) d24_43 (tlt hc43__6).2.2.1 (o_iconst X_5 hq 0 d24_50 rfl (o_istoreN X_5 hq d24_51 (l' := #[rv a1, iv 0, iv 2, iv 0, iv 0]) rfl (o_iinc X_5 hq d24_52 rfl (l' := #[rv a1, iv 0, iv 2, iv 0, iv 1]) rfl (o_goto X_5 hq (pc' := 14) d24_55 (o_iloadN X_5 hq d24_14 rfl (o_ifYes X_5 hq (pc' := 58) d24_15 (by decide) (o_iloadN X_5 hq d24_58 rfl ?_)))))))
   exact e_Z X_5 e_5 hq hlk hrt d24_59 ⟨(congrArg (fun z => some (Value.int z)) hv_7.symm), N_5, rfl⟩
  ·have hv_8 := hv_4.trans (if_neg hc43__6)
   refine o_icmpNo X_5 hq d24_43 (flt hc43__6).2.2.1 (o_iconst X_5 hq 1 d24_46 rfl (o_goto X_5 hq (pc' := 51) d24_47 (o_istoreN X_5 hq d24_51 (l' := #[rv a1, iv 0, iv 2, iv 1, iv 0]) rfl (o_iinc X_5 hq d24_52 rfl (l' := #[rv a1, iv 0, iv 2, iv 1, iv 1]) rfl (o_goto X_5 hq (pc' := 14) d24_55 (o_iloadN X_5 hq d24_14 rfl (o_ifNo X_5 hq d24_15 (by decide) (o_iload X_5 hq d24_18 rfl (o_iloadN X_5 hq d24_20 rfl (o_icmpNo X_5 hq d24_21 (by decide) (o_aloadN X_5 hq d24_24 rfl rfl (o_iload X_5 hq d24_25 rfl ?_))))))))))))
   refine c_U1 X_5 hq e_5 hZ hown hml (k24_100U1 hw) (rm11 hw a1 (1 : Int32) b k1 N vs d1 w sfv f h0 n0 Z0 E_s F_v F_c V_s S1 hw0 hat hf S2 hsf (by decide) (own_ltN (e := (2 : Int32)) (by decide) hN)) E_s d24_27 ?_ 0
   rintro T_9 L_9 _ X_9 ⟨⟨⟩, Nq_9, e_9⟩
   have N_9 := Fr.app N_5 Nq_9
   refine o_bipush X_9 hq 48 d24_30 rfl ?_
   by_cases hc32__10 : (f (1 : Int32)) < (48 : Int32)
   ·have hv_11 := hv_8.trans (if_pos hc32__10)
    refine o_icmpYes X_9 hq (pc' := 50) d24_32 (tlt hc32__10).1 (o_iconst X_9 hq 0 d24_50 rfl (o_istoreN X_9 hq d24_51 (l' := #[rv a1, iv 0, iv 2, iv 0, iv 1]) rfl (o_iinc X_9 hq d24_52 rfl (l' := #[rv a1, iv 0, iv 2, iv 0, iv 2]) rfl (o_goto X_9 hq (pc' := 14) d24_55 (o_iloadN X_9 hq d24_14 rfl (o_ifYes X_9 hq (pc' := 58) d24_15 (by decide) (o_iloadN X_9 hq d24_58 rfl ?_)))))))
    exact e_Z X_9 e_9 hq hlk hrt d24_59 ⟨(congrArg (fun z => some (Value.int z)) hv_11.symm), N_9, rfl⟩
   ·have hv_12 := hv_8.trans (if_neg hc32__10)
    refine o_icmpNo X_9 hq d24_32 (flt hc32__10).1 (o_aloadN X_9 hq d24_35 rfl rfl (o_iload X_9 hq d24_36 rfl ?_))
    refine c_U1 X_9 hq e_9 hZ hown hml (k24_100U1 hw) (rm11 hw a1 (1 : Int32) b k1 N vs d1 w sfv f h0 n0 Z0 E_s F_v F_c V_s S1 hw0 hat hf S2 hsf (by decide) (own_ltN (e := (2 : Int32)) (by decide) hN)) E_s d24_38 ?_ 0
    rintro T_13 L_13 _ X_13 ⟨⟨⟩, Nq_13, e_13⟩
    have N_13 := Fr.app N_9 Nq_13
    refine o_bipush X_13 hq 57 d24_41 rfl ?_
    by_cases hc43__14 : (57 : Int32) < (f (1 : Int32))
    ·have hv_15 := hv_12.trans (if_pos hc43__14)
     refine o_icmpYes X_13 hq (pc' := 50) d24_43 (tlt hc43__14).2.2.1 (o_iconst X_13 hq 0 d24_50 rfl (o_istoreN X_13 hq d24_51 (l' := #[rv a1, iv 0, iv 2, iv 0, iv 1]) rfl (o_iinc X_13 hq d24_52 rfl (l' := #[rv a1, iv 0, iv 2, iv 0, iv 2]) rfl (o_goto X_13 hq (pc' := 14) d24_55 (o_iloadN X_13 hq d24_14 rfl (o_ifYes X_13 hq (pc' := 58) d24_15 (by decide) (o_iloadN X_13 hq d24_58 rfl ?_)))))))
     exact e_Z X_13 e_13 hq hlk hrt d24_59 ⟨(congrArg (fun z => some (Value.int z)) hv_15.symm), N_13, rfl⟩
    ·have hv_16 := hv_12.trans (if_neg hc43__14)
     refine o_icmpNo X_13 hq d24_43 (flt hc43__14).2.2.1 (o_iconst X_13 hq 1 d24_46 rfl (o_goto X_13 hq (pc' := 51) d24_47 (o_istoreN X_13 hq d24_51 (l' := #[rv a1, iv 0, iv 2, iv 1, iv 1]) rfl (o_iinc X_13 hq d24_52 rfl (l' := #[rv a1, iv 0, iv 2, iv 1, iv 2]) rfl (o_goto X_13 hq (pc' := 14) d24_55 (o_iloadN X_13 hq d24_14 rfl (o_ifNo X_13 hq d24_15 (by decide) (o_iload X_13 hq d24_18 rfl (o_iloadN X_13 hq d24_20 rfl (o_icmpYes X_13 hq (pc' := 58) d24_21 (by decide) (o_iloadN X_13 hq d24_58 rfl ?_)))))))))))
     exact e_Z X_13 e_13 hq hlk hrt d24_59 ⟨(congrArg (fun z => some (Value.int z)) hv_16.symm), N_13, rfl⟩
def own_dg_1_2 (f : Int32 → Int32) : Int32 := (if (f (1 : Int32)) < (48 : Int32) then (0 : Int32) else (if (57 : Int32) < (f (1 : Int32)) then (0 : Int32) else (1 : Int32)))
def Q_rmdg1_2 (Z : State) (a0 : Array Value) (a1 b : Addr) (k1 : ClassId) (N : Int32) (vs : List Value) (d1 : Value) (w : Int32) (sfv : Value) (f : Int32 → Int32) (h0 : Heap) (n0 : Nat) (v : Option Value) (h : Heap) (L : List Loc) : Prop := v = some (.int (own_dg_1_2 f)) ∧ Fr n0 L ∧ h = h0
theorem rmdg1_2 (hw : HW a0 Z) (a1 b : Addr) (k1 : ClassId) (N : Int32) (vs : List Value) (d1 : Value) (w : Int32) (sfv : Value) (f : Int32 → Int32) (h0 : Heap) (n0 : Nat) (Z0 : n0 ≤ h0.size) (E_s : Exa Z h0 a1 "java/lang/String") (F_v : Fld Z h0 a1 "java/lang/String" "value" "[B" (.ref b)) (F_c : Fld Z h0 a1 "java/lang/String" "coder" "B" (.int (0 : Int32))) (V_s : Arv Z h0 b k1 .byte N vs d1) (S1 : Sta Z h0 "java/lang/String" "COMPACT_STRINGS" "Z" (.int w)) (hw0 : ¬ w = (0 : Int32)) (hat : ∀ i : Int32, ¬ i < 0 → i < N → vs.getD i.toNatClampNeg d1 = .int (((f i).toInt8.toInt32).toInt8.toInt32)) (hf : ∀ i : Int32, ¬ (255 : Int32) < f i ∧ ¬ f i < 0) (S2 : Sta Z h0 "jdk/internal/util/Preconditions" "SIOOBE_FORMATTER" "Ljava/util/function/BiFunction;" sfv) (hsf : sfv.isRef = true) (hN : ¬ N < (2 : Int32)) :
  own_Met l y0_ prog_24_method_6_code 5 (some .boolean) (R_ 4 0 0 53) #[(.ref a1), (.int (1 : Int32)), (.int (2 : Int32))] Z h0 (Q_rmdg1_2 Z a0 a1 b k1 N vs d1 w sfv f h0 n0) := by
 refine own_bd (own := "com/example/nimble_anonymizer/nimbleanonymizer/NumericColumn") rfl (plainFor_of_name pn_9) #[rv a1, iv 1, iv 2, .unset, .unset] ?_
 intro p e s m below meth c s₁ hx hby hq hml hown hnm hlk hrt hZ X0 e0
 have hv : own_dg_1_2 f = (if (f (1 : Int32)) < (48 : Int32) then (0 : Int32) else (if (57 : Int32) < (f (1 : Int32)) then (0 : Int32) else (1 : Int32))) := rfl
 show own_Go _ _ _ _ (s₁.setTop (mkF m 0 #[rv a1, iv 1, iv 2, .unset, .unset] []))
 refine o_iloadN X0 hq d24_0 rfl (o_iloadN X0 hq d24_1 rfl (o_icmpNo X0 hq d24_2 (by decide) (o_iconst X0 hq 1 d24_5 rfl (o_goto X0 hq (pc' := 10) d24_6 (o_istoreN X0 hq d24_10 (l' := #[rv a1, iv 1, iv 2, iv 1, .unset]) rfl (o_iloadN X0 hq d24_11 rfl (o_istore X0 hq d24_12 (l' := #[rv a1, iv 1, iv 2, iv 1, iv 1]) rfl (o_iloadN X0 hq d24_14 rfl (o_ifNo X0 hq d24_15 (by decide) (o_iload X0 hq d24_18 rfl (o_iloadN X0 hq d24_20 rfl (o_icmpNo X0 hq d24_21 (by decide) (o_aloadN X0 hq d24_24 rfl rfl (o_iload X0 hq d24_25 rfl ?_))))))))))))))
 refine c_U1 X0 hq e0 hZ hown hml (k24_100U1 hw) (rm11 hw a1 (1 : Int32) b k1 N vs d1 w sfv f h0 n0 Z0 E_s F_v F_c V_s S1 hw0 hat hf S2 hsf (by decide) (own_ltN (e := (2 : Int32)) (by decide) hN)) E_s d24_27 ?_ 0
 rintro T_1 L_1 _ X_1 ⟨⟨⟩, Nq_1, e_1⟩
 have N_1 := Fr.app (Fr.nil n0) Nq_1
 refine o_bipush X_1 hq 48 d24_30 rfl ?_
 by_cases hc32__2 : (f (1 : Int32)) < (48 : Int32)
 ·have hv_3 := hv.trans (if_pos hc32__2)
  refine o_icmpYes X_1 hq (pc' := 50) d24_32 (tlt hc32__2).1 (o_iconst X_1 hq 0 d24_50 rfl (o_istoreN X_1 hq d24_51 (l' := #[rv a1, iv 1, iv 2, iv 0, iv 1]) rfl (o_iinc X_1 hq d24_52 rfl (l' := #[rv a1, iv 1, iv 2, iv 0, iv 2]) rfl (o_goto X_1 hq (pc' := 14) d24_55 (o_iloadN X_1 hq d24_14 rfl (o_ifYes X_1 hq (pc' := 58) d24_15 (by decide) (o_iloadN X_1 hq d24_58 rfl ?_)))))))
  exact e_Z X_1 e_1 hq hlk hrt d24_59 ⟨(congrArg (fun z => some (Value.int z)) hv_3.symm), N_1, rfl⟩
 ·have hv_4 := hv.trans (if_neg hc32__2)
  refine o_icmpNo X_1 hq d24_32 (flt hc32__2).1 (o_aloadN X_1 hq d24_35 rfl rfl (o_iload X_1 hq d24_36 rfl ?_))
  refine c_U1 X_1 hq e_1 hZ hown hml (k24_100U1 hw) (rm11 hw a1 (1 : Int32) b k1 N vs d1 w sfv f h0 n0 Z0 E_s F_v F_c V_s S1 hw0 hat hf S2 hsf (by decide) (own_ltN (e := (2 : Int32)) (by decide) hN)) E_s d24_38 ?_ 0
  rintro T_5 L_5 _ X_5 ⟨⟨⟩, Nq_5, e_5⟩
  have N_5 := Fr.app N_1 Nq_5
  refine o_bipush X_5 hq 57 d24_41 rfl ?_
  by_cases hc43__6 : (57 : Int32) < (f (1 : Int32))
  ·have hv_7 := hv_4.trans (if_pos hc43__6)
   refine o_icmpYes X_5 hq (pc' := 50) d24_43 (tlt hc43__6).2.2.1 (o_iconst X_5 hq 0 d24_50 rfl (o_istoreN X_5 hq d24_51 (l' := #[rv a1, iv 1, iv 2, iv 0, iv 1]) rfl (o_iinc X_5 hq d24_52 rfl (l' := #[rv a1, iv 1, iv 2, iv 0, iv 2]) rfl (o_goto X_5 hq (pc' := 14) d24_55 (o_iloadN X_5 hq d24_14 rfl (o_ifYes X_5 hq (pc' := 58) d24_15 (by decide) (o_iloadN X_5 hq d24_58 rfl ?_)))))))
   exact e_Z X_5 e_5 hq hlk hrt d24_59 ⟨(congrArg (fun z => some (Value.int z)) hv_7.symm), N_5, rfl⟩
  ·have hv_8 := hv_4.trans (if_neg hc43__6)
   refine o_icmpNo X_5 hq d24_43 (flt hc43__6).2.2.1 (o_iconst X_5 hq 1 d24_46 rfl (o_goto X_5 hq (pc' := 51) d24_47 (o_istoreN X_5 hq d24_51 (l' := #[rv a1, iv 1, iv 2, iv 1, iv 1]) rfl (o_iinc X_5 hq d24_52 rfl (l' := #[rv a1, iv 1, iv 2, iv 1, iv 2]) rfl (o_goto X_5 hq (pc' := 14) d24_55 (o_iloadN X_5 hq d24_14 rfl (o_ifNo X_5 hq d24_15 (by decide) (o_iload X_5 hq d24_18 rfl (o_iloadN X_5 hq d24_20 rfl (o_icmpYes X_5 hq (pc' := 58) d24_21 (by decide) (o_iloadN X_5 hq d24_58 rfl ?_)))))))))))
   exact e_Z X_5 e_5 hq hlk hrt d24_59 ⟨(congrArg (fun z => some (Value.int z)) hv_8.symm), N_5, rfl⟩
def Q_rmdg2_2 (Z : State) (a0 : Array Value) (a1 : Addr) (h0 : Heap) (n0 : Nat) (v : Option Value) (h : Heap) (L : List Loc) : Prop := v = some (.int (0 : Int32)) ∧ Fr n0 L ∧ h = h0
theorem rmdg2_2 (hw : HW a0 Z) (a1 : Addr) (h0 : Heap) (n0 : Nat) (Z0 : n0 ≤ h0.size) :
  own_Met l y0_ prog_24_method_6_code 5 (some .boolean) (R_ 0 0 0 0) #[(.ref a1), (.int (2 : Int32)), (.int (2 : Int32))] Z h0 (Q_rmdg2_2 Z a0 a1 h0 n0) := by
 refine own_bd (own := "com/example/nimble_anonymizer/nimbleanonymizer/NumericColumn") rfl (plainFor_of_name pn_9) #[rv a1, iv 2, iv 2, .unset, .unset] ?_
 intro p e s m below meth c s₁ hx hby hq hml hown hnm hlk hrt hZ X0 e0
 refine o_iloadN X0 hq d24_0 rfl (o_iloadN X0 hq d24_1 rfl (o_icmpYes X0 hq (pc' := 9) d24_2 (by decide) (o_iconst X0 hq 0 d24_9 rfl (o_istoreN X0 hq d24_10 (l' := #[rv a1, iv 2, iv 2, iv 0, .unset]) rfl (o_iloadN X0 hq d24_11 rfl (o_istore X0 hq d24_12 (l' := #[rv a1, iv 2, iv 2, iv 0, iv 2]) rfl (o_iloadN X0 hq d24_14 rfl (o_ifYes X0 hq (pc' := 58) d24_15 (by decide) (o_iloadN X0 hq d24_58 rfl ?_)))))))))
 exact e_Z X0 e0 hq hlk hrt d24_59 ⟨rfl, (Fr.nil n0), rfl⟩
def own_dg_0_3 (f : Int32 → Int32) : Int32 := (if (f (0 : Int32)) < (48 : Int32) then (0 : Int32) else (if (57 : Int32) < (f (0 : Int32)) then (0 : Int32) else (if (f (1 : Int32)) < (48 : Int32) then (0 : Int32) else (if (57 : Int32) < (f (1 : Int32)) then (0 : Int32) else (if (f (2 : Int32)) < (48 : Int32) then (0 : Int32) else (if (57 : Int32) < (f (2 : Int32)) then (0 : Int32) else (1 : Int32)))))))
def Q_rmdg0_3 (Z : State) (a0 : Array Value) (a1 b : Addr) (k1 : ClassId) (N : Int32) (vs : List Value) (d1 : Value) (w : Int32) (sfv : Value) (f : Int32 → Int32) (h0 : Heap) (n0 : Nat) (v : Option Value) (h : Heap) (L : List Loc) : Prop := v = some (.int (own_dg_0_3 f)) ∧ Fr n0 L ∧ h = h0
theorem rmdg0_3 (hw : HW a0 Z) (a1 b : Addr) (k1 : ClassId) (N : Int32) (vs : List Value) (d1 : Value) (w : Int32) (sfv : Value) (f : Int32 → Int32) (h0 : Heap) (n0 : Nat) (Z0 : n0 ≤ h0.size) (E_s : Exa Z h0 a1 "java/lang/String") (F_v : Fld Z h0 a1 "java/lang/String" "value" "[B" (.ref b)) (F_c : Fld Z h0 a1 "java/lang/String" "coder" "B" (.int (0 : Int32))) (V_s : Arv Z h0 b k1 .byte N vs d1) (S1 : Sta Z h0 "java/lang/String" "COMPACT_STRINGS" "Z" (.int w)) (hw0 : ¬ w = (0 : Int32)) (hat : ∀ i : Int32, ¬ i < 0 → i < N → vs.getD i.toNatClampNeg d1 = .int (((f i).toInt8.toInt32).toInt8.toInt32)) (hf : ∀ i : Int32, ¬ (255 : Int32) < f i ∧ ¬ f i < 0) (S2 : Sta Z h0 "jdk/internal/util/Preconditions" "SIOOBE_FORMATTER" "Ljava/util/function/BiFunction;" sfv) (hsf : sfv.isRef = true) (hN : ¬ N < (3 : Int32)) :
  own_Met l y0_ prog_24_method_6_code 5 (some .boolean) (R_ 4 0 0 53) #[(.ref a1), (.int (0 : Int32)), (.int (3 : Int32))] Z h0 (Q_rmdg0_3 Z a0 a1 b k1 N vs d1 w sfv f h0 n0) := by
 refine own_bd (own := "com/example/nimble_anonymizer/nimbleanonymizer/NumericColumn") rfl (plainFor_of_name pn_9) #[rv a1, iv 0, iv 3, .unset, .unset] ?_
 intro p e s m below meth c s₁ hx hby hq hml hown hnm hlk hrt hZ X0 e0
 have hv : own_dg_0_3 f = (if (f (0 : Int32)) < (48 : Int32) then (0 : Int32) else (if (57 : Int32) < (f (0 : Int32)) then (0 : Int32) else (if (f (1 : Int32)) < (48 : Int32) then (0 : Int32) else (if (57 : Int32) < (f (1 : Int32)) then (0 : Int32) else (if (f (2 : Int32)) < (48 : Int32) then (0 : Int32) else (if (57 : Int32) < (f (2 : Int32)) then (0 : Int32) else (1 : Int32))))))) := rfl
 show own_Go _ _ _ _ (s₁.setTop (mkF m 0 #[rv a1, iv 0, iv 3, .unset, .unset] []))
 refine o_iloadN X0 hq d24_0 rfl (o_iloadN X0 hq d24_1 rfl (o_icmpNo X0 hq d24_2 (by decide) (o_iconst X0 hq 1 d24_5 rfl (o_goto X0 hq (pc' := 10) d24_6 (o_istoreN X0 hq d24_10 (l' := #[rv a1, iv 0, iv 3, iv 1, .unset]) rfl (o_iloadN X0 hq d24_11 rfl (o_istore X0 hq d24_12 (l' := #[rv a1, iv 0, iv 3, iv 1, iv 0]) rfl (o_iloadN X0 hq d24_14 rfl (o_ifNo X0 hq d24_15 (by decide) (o_iload X0 hq d24_18 rfl (o_iloadN X0 hq d24_20 rfl (o_icmpNo X0 hq d24_21 (by decide) (o_aloadN X0 hq d24_24 rfl rfl (o_iload X0 hq d24_25 rfl ?_))))))))))))))
 refine c_U1 X0 hq e0 hZ hown hml (k24_100U1 hw) (rm11 hw a1 (0 : Int32) b k1 N vs d1 w sfv f h0 n0 Z0 E_s F_v F_c V_s S1 hw0 hat hf S2 hsf (by decide) (own_ltN (e := (3 : Int32)) (by decide) hN)) E_s d24_27 ?_ 0
 rintro T_1 L_1 _ X_1 ⟨⟨⟩, Nq_1, e_1⟩
 have N_1 := Fr.app (Fr.nil n0) Nq_1
 refine o_bipush X_1 hq 48 d24_30 rfl ?_
 by_cases hc32__2 : (f (0 : Int32)) < (48 : Int32)
 ·have hv_3 := hv.trans (if_pos hc32__2)
  refine o_icmpYes X_1 hq (pc' := 50) d24_32 (tlt hc32__2).1 (o_iconst X_1 hq 0 d24_50 rfl (o_istoreN X_1 hq d24_51 (l' := #[rv a1, iv 0, iv 3, iv 0, iv 0]) rfl (o_iinc X_1 hq d24_52 rfl (l' := #[rv a1, iv 0, iv 3, iv 0, iv 1]) rfl (o_goto X_1 hq (pc' := 14) d24_55 (o_iloadN X_1 hq d24_14 rfl (o_ifYes X_1 hq (pc' := 58) d24_15 (by decide) (o_iloadN X_1 hq d24_58 rfl ?_)))))))
  exact e_Z X_1 e_1 hq hlk hrt d24_59 ⟨(congrArg (fun z => some (Value.int z)) hv_3.symm), N_1, rfl⟩
 ·have hv_4 := hv.trans (if_neg hc32__2)
  refine o_icmpNo X_1 hq d24_32 (flt hc32__2).1 (o_aloadN X_1 hq d24_35 rfl rfl (o_iload X_1 hq d24_36 rfl ?_))
  refine c_U1 X_1 hq e_1 hZ hown hml (k24_100U1 hw) (rm11 hw a1 (0 : Int32) b k1 N vs d1 w sfv f h0 n0 Z0 E_s F_v F_c V_s S1 hw0 hat hf S2 hsf (by decide) (own_ltN (e := (3 : Int32)) (by decide) hN)) E_s d24_38 ?_ 0
  rintro T_5 L_5 _ X_5 ⟨⟨⟩, Nq_5, e_5⟩
  have N_5 := Fr.app N_1 Nq_5
  refine o_bipush X_5 hq 57 d24_41 rfl ?_
  by_cases hc43__6 : (57 : Int32) < (f (0 : Int32))
  ·have hv_7 := hv_4.trans (if_pos hc43__6)
   refine o_icmpYes X_5 hq (pc' := 50) d24_43 (tlt hc43__6).2.2.1 (o_iconst X_5 hq 0 d24_50 rfl (o_istoreN X_5 hq d24_51 (l' := #[rv a1, iv 0, iv 3, iv 0, iv 0]) rfl (o_iinc X_5 hq d24_52 rfl (l' := #[rv a1, iv 0, iv 3, iv 0, iv 1]) rfl (o_goto X_5 hq (pc' := 14) d24_55 (o_iloadN X_5 hq d24_14 rfl (o_ifYes X_5 hq (pc' := 58) d24_15 (by decide) (o_iloadN X_5 hq d24_58 rfl ?_)))))))
   exact e_Z X_5 e_5 hq hlk hrt d24_59 ⟨(congrArg (fun z => some (Value.int z)) hv_7.symm), N_5, rfl⟩
  ·have hv_8 := hv_4.trans (if_neg hc43__6)
   refine o_icmpNo X_5 hq d24_43 (flt hc43__6).2.2.1 (o_iconst X_5 hq 1 d24_46 rfl (o_goto X_5 hq (pc' := 51) d24_47 (o_istoreN X_5 hq d24_51 (l' := #[rv a1, iv 0, iv 3, iv 1, iv 0]) rfl (o_iinc X_5 hq d24_52 rfl (l' := #[rv a1, iv 0, iv 3, iv 1, iv 1]) rfl (o_goto X_5 hq (pc' := 14) d24_55 (o_iloadN X_5 hq d24_14 rfl (o_ifNo X_5 hq d24_15 (by decide) (o_iload X_5 hq d24_18 rfl (o_iloadN X_5 hq d24_20 rfl (o_icmpNo X_5 hq d24_21 (by decide) (o_aloadN X_5 hq d24_24 rfl rfl (o_iload X_5 hq d24_25 rfl ?_))))))))))))
   refine c_U1 X_5 hq e_5 hZ hown hml (k24_100U1 hw) (rm11 hw a1 (1 : Int32) b k1 N vs d1 w sfv f h0 n0 Z0 E_s F_v F_c V_s S1 hw0 hat hf S2 hsf (by decide) (own_ltN (e := (3 : Int32)) (by decide) hN)) E_s d24_27 ?_ 0
   rintro T_9 L_9 _ X_9 ⟨⟨⟩, Nq_9, e_9⟩
   have N_9 := Fr.app N_5 Nq_9
   refine o_bipush X_9 hq 48 d24_30 rfl ?_
   by_cases hc32__10 : (f (1 : Int32)) < (48 : Int32)
   ·have hv_11 := hv_8.trans (if_pos hc32__10)
    refine o_icmpYes X_9 hq (pc' := 50) d24_32 (tlt hc32__10).1 (o_iconst X_9 hq 0 d24_50 rfl (o_istoreN X_9 hq d24_51 (l' := #[rv a1, iv 0, iv 3, iv 0, iv 1]) rfl (o_iinc X_9 hq d24_52 rfl (l' := #[rv a1, iv 0, iv 3, iv 0, iv 2]) rfl (o_goto X_9 hq (pc' := 14) d24_55 (o_iloadN X_9 hq d24_14 rfl (o_ifYes X_9 hq (pc' := 58) d24_15 (by decide) (o_iloadN X_9 hq d24_58 rfl ?_)))))))
    exact e_Z X_9 e_9 hq hlk hrt d24_59 ⟨(congrArg (fun z => some (Value.int z)) hv_11.symm), N_9, rfl⟩
   ·have hv_12 := hv_8.trans (if_neg hc32__10)
    refine o_icmpNo X_9 hq d24_32 (flt hc32__10).1 (o_aloadN X_9 hq d24_35 rfl rfl (o_iload X_9 hq d24_36 rfl ?_))
    refine c_U1 X_9 hq e_9 hZ hown hml (k24_100U1 hw) (rm11 hw a1 (1 : Int32) b k1 N vs d1 w sfv f h0 n0 Z0 E_s F_v F_c V_s S1 hw0 hat hf S2 hsf (by decide) (own_ltN (e := (3 : Int32)) (by decide) hN)) E_s d24_38 ?_ 0
    rintro T_13 L_13 _ X_13 ⟨⟨⟩, Nq_13, e_13⟩
    have N_13 := Fr.app N_9 Nq_13
    refine o_bipush X_13 hq 57 d24_41 rfl ?_
    by_cases hc43__14 : (57 : Int32) < (f (1 : Int32))
    ·have hv_15 := hv_12.trans (if_pos hc43__14)
     refine o_icmpYes X_13 hq (pc' := 50) d24_43 (tlt hc43__14).2.2.1 (o_iconst X_13 hq 0 d24_50 rfl (o_istoreN X_13 hq d24_51 (l' := #[rv a1, iv 0, iv 3, iv 0, iv 1]) rfl (o_iinc X_13 hq d24_52 rfl (l' := #[rv a1, iv 0, iv 3, iv 0, iv 2]) rfl (o_goto X_13 hq (pc' := 14) d24_55 (o_iloadN X_13 hq d24_14 rfl (o_ifYes X_13 hq (pc' := 58) d24_15 (by decide) (o_iloadN X_13 hq d24_58 rfl ?_)))))))
     exact e_Z X_13 e_13 hq hlk hrt d24_59 ⟨(congrArg (fun z => some (Value.int z)) hv_15.symm), N_13, rfl⟩
    ·have hv_16 := hv_12.trans (if_neg hc43__14)
     refine o_icmpNo X_13 hq d24_43 (flt hc43__14).2.2.1 (o_iconst X_13 hq 1 d24_46 rfl (o_goto X_13 hq (pc' := 51) d24_47 (o_istoreN X_13 hq d24_51 (l' := #[rv a1, iv 0, iv 3, iv 1, iv 1]) rfl (o_iinc X_13 hq d24_52 rfl (l' := #[rv a1, iv 0, iv 3, iv 1, iv 2]) rfl (o_goto X_13 hq (pc' := 14) d24_55 (o_iloadN X_13 hq d24_14 rfl (o_ifNo X_13 hq d24_15 (by decide) (o_iload X_13 hq d24_18 rfl (o_iloadN X_13 hq d24_20 rfl (o_icmpNo X_13 hq d24_21 (by decide) (o_aloadN X_13 hq d24_24 rfl rfl (o_iload X_13 hq d24_25 rfl ?_))))))))))))
     refine c_U1 X_13 hq e_13 hZ hown hml (k24_100U1 hw) (rm11 hw a1 (2 : Int32) b k1 N vs d1 w sfv f h0 n0 Z0 E_s F_v F_c V_s S1 hw0 hat hf S2 hsf (by decide) (own_ltN (e := (3 : Int32)) (by decide) hN)) E_s d24_27 ?_ 0
     rintro T_17 L_17 _ X_17 ⟨⟨⟩, Nq_17, e_17⟩
     have N_17 := Fr.app N_13 Nq_17
     refine o_bipush X_17 hq 48 d24_30 rfl ?_
     by_cases hc32__18 : (f (2 : Int32)) < (48 : Int32)
     ·have hv_19 := hv_16.trans (if_pos hc32__18)
      refine o_icmpYes X_17 hq (pc' := 50) d24_32 (tlt hc32__18).1 (o_iconst X_17 hq 0 d24_50 rfl (o_istoreN X_17 hq d24_51 (l' := #[rv a1, iv 0, iv 3, iv 0, iv 2]) rfl (o_iinc X_17 hq d24_52 rfl (l' := #[rv a1, iv 0, iv 3, iv 0, iv 3]) rfl (o_goto X_17 hq (pc' := 14) d24_55 (o_iloadN X_17 hq d24_14 rfl (o_ifYes X_17 hq (pc' := 58) d24_15 (by decide) (o_iloadN X_17 hq d24_58 rfl ?_)))))))
      exact e_Z X_17 e_17 hq hlk hrt d24_59 ⟨(congrArg (fun z => some (Value.int z)) hv_19.symm), N_17, rfl⟩
     ·have hv_20 := hv_16.trans (if_neg hc32__18)
      refine o_icmpNo X_17 hq d24_32 (flt hc32__18).1 (o_aloadN X_17 hq d24_35 rfl rfl (o_iload X_17 hq d24_36 rfl ?_))
      refine c_U1 X_17 hq e_17 hZ hown hml (k24_100U1 hw) (rm11 hw a1 (2 : Int32) b k1 N vs d1 w sfv f h0 n0 Z0 E_s F_v F_c V_s S1 hw0 hat hf S2 hsf (by decide) (own_ltN (e := (3 : Int32)) (by decide) hN)) E_s d24_38 ?_ 0
      rintro T_21 L_21 _ X_21 ⟨⟨⟩, Nq_21, e_21⟩
      have N_21 := Fr.app N_17 Nq_21
      refine o_bipush X_21 hq 57 d24_41 rfl ?_
      by_cases hc43__22 : (57 : Int32) < (f (2 : Int32))
      ·have hv_23 := hv_20.trans (if_pos hc43__22)
       refine o_icmpYes X_21 hq (pc' := 50) d24_43 (tlt hc43__22).2.2.1 (o_iconst X_21 hq 0 d24_50 rfl (o_istoreN X_21 hq d24_51 (l' := #[rv a1, iv 0, iv 3, iv 0, iv 2]) rfl (o_iinc X_21 hq d24_52 rfl (l' := #[rv a1, iv 0, iv 3, iv 0, iv 3]) rfl (o_goto X_21 hq (pc' := 14) d24_55 (o_iloadN X_21 hq d24_14 rfl (o_ifYes X_21 hq (pc' := 58) d24_15 (by decide) (o_iloadN X_21 hq d24_58 rfl ?_)))))))
       exact e_Z X_21 e_21 hq hlk hrt d24_59 ⟨(congrArg (fun z => some (Value.int z)) hv_23.symm), N_21, rfl⟩
      ·have hv_24 := hv_20.trans (if_neg hc43__22)
       refine o_icmpNo X_21 hq d24_43 (flt hc43__22).2.2.1 (o_iconst X_21 hq 1 d24_46 rfl (o_goto X_21 hq (pc' := 51) d24_47 (o_istoreN X_21 hq d24_51 (l' := #[rv a1, iv 0, iv 3, iv 1, iv 2]) rfl (o_iinc X_21 hq d24_52 rfl (l' := #[rv a1, iv 0, iv 3, iv 1, iv 3]) rfl (o_goto X_21 hq (pc' := 14) d24_55 (o_iloadN X_21 hq d24_14 rfl (o_ifNo X_21 hq d24_15 (by decide) (o_iload X_21 hq d24_18 rfl (o_iloadN X_21 hq d24_20 rfl (o_icmpYes X_21 hq (pc' := 58) d24_21 (by decide) (o_iloadN X_21 hq d24_58 rfl ?_)))))))))))
       exact e_Z X_21 e_21 hq hlk hrt d24_59 ⟨(congrArg (fun z => some (Value.int z)) hv_24.symm), N_21, rfl⟩
def own_dg_1_3 (f : Int32 → Int32) : Int32 := (if (f (1 : Int32)) < (48 : Int32) then (0 : Int32) else (if (57 : Int32) < (f (1 : Int32)) then (0 : Int32) else (if (f (2 : Int32)) < (48 : Int32) then (0 : Int32) else (if (57 : Int32) < (f (2 : Int32)) then (0 : Int32) else (1 : Int32)))))
def Q_rmdg1_3 (Z : State) (a0 : Array Value) (a1 b : Addr) (k1 : ClassId) (N : Int32) (vs : List Value) (d1 : Value) (w : Int32) (sfv : Value) (f : Int32 → Int32) (h0 : Heap) (n0 : Nat) (v : Option Value) (h : Heap) (L : List Loc) : Prop := v = some (.int (own_dg_1_3 f)) ∧ Fr n0 L ∧ h = h0
theorem rmdg1_3 (hw : HW a0 Z) (a1 b : Addr) (k1 : ClassId) (N : Int32) (vs : List Value) (d1 : Value) (w : Int32) (sfv : Value) (f : Int32 → Int32) (h0 : Heap) (n0 : Nat) (Z0 : n0 ≤ h0.size) (E_s : Exa Z h0 a1 "java/lang/String") (F_v : Fld Z h0 a1 "java/lang/String" "value" "[B" (.ref b)) (F_c : Fld Z h0 a1 "java/lang/String" "coder" "B" (.int (0 : Int32))) (V_s : Arv Z h0 b k1 .byte N vs d1) (S1 : Sta Z h0 "java/lang/String" "COMPACT_STRINGS" "Z" (.int w)) (hw0 : ¬ w = (0 : Int32)) (hat : ∀ i : Int32, ¬ i < 0 → i < N → vs.getD i.toNatClampNeg d1 = .int (((f i).toInt8.toInt32).toInt8.toInt32)) (hf : ∀ i : Int32, ¬ (255 : Int32) < f i ∧ ¬ f i < 0) (S2 : Sta Z h0 "jdk/internal/util/Preconditions" "SIOOBE_FORMATTER" "Ljava/util/function/BiFunction;" sfv) (hsf : sfv.isRef = true) (hN : ¬ N < (3 : Int32)) :
  own_Met l y0_ prog_24_method_6_code 5 (some .boolean) (R_ 4 0 0 53) #[(.ref a1), (.int (1 : Int32)), (.int (3 : Int32))] Z h0 (Q_rmdg1_3 Z a0 a1 b k1 N vs d1 w sfv f h0 n0) := by
 refine own_bd (own := "com/example/nimble_anonymizer/nimbleanonymizer/NumericColumn") rfl (plainFor_of_name pn_9) #[rv a1, iv 1, iv 3, .unset, .unset] ?_
 intro p e s m below meth c s₁ hx hby hq hml hown hnm hlk hrt hZ X0 e0
 have hv : own_dg_1_3 f = (if (f (1 : Int32)) < (48 : Int32) then (0 : Int32) else (if (57 : Int32) < (f (1 : Int32)) then (0 : Int32) else (if (f (2 : Int32)) < (48 : Int32) then (0 : Int32) else (if (57 : Int32) < (f (2 : Int32)) then (0 : Int32) else (1 : Int32))))) := rfl
 show own_Go _ _ _ _ (s₁.setTop (mkF m 0 #[rv a1, iv 1, iv 3, .unset, .unset] []))
 refine o_iloadN X0 hq d24_0 rfl (o_iloadN X0 hq d24_1 rfl (o_icmpNo X0 hq d24_2 (by decide) (o_iconst X0 hq 1 d24_5 rfl (o_goto X0 hq (pc' := 10) d24_6 (o_istoreN X0 hq d24_10 (l' := #[rv a1, iv 1, iv 3, iv 1, .unset]) rfl (o_iloadN X0 hq d24_11 rfl (o_istore X0 hq d24_12 (l' := #[rv a1, iv 1, iv 3, iv 1, iv 1]) rfl (o_iloadN X0 hq d24_14 rfl (o_ifNo X0 hq d24_15 (by decide) (o_iload X0 hq d24_18 rfl (o_iloadN X0 hq d24_20 rfl (o_icmpNo X0 hq d24_21 (by decide) (o_aloadN X0 hq d24_24 rfl rfl (o_iload X0 hq d24_25 rfl ?_))))))))))))))
 refine c_U1 X0 hq e0 hZ hown hml (k24_100U1 hw) (rm11 hw a1 (1 : Int32) b k1 N vs d1 w sfv f h0 n0 Z0 E_s F_v F_c V_s S1 hw0 hat hf S2 hsf (by decide) (own_ltN (e := (3 : Int32)) (by decide) hN)) E_s d24_27 ?_ 0
 rintro T_1 L_1 _ X_1 ⟨⟨⟩, Nq_1, e_1⟩
 have N_1 := Fr.app (Fr.nil n0) Nq_1
 refine o_bipush X_1 hq 48 d24_30 rfl ?_
 by_cases hc32__2 : (f (1 : Int32)) < (48 : Int32)
 ·have hv_3 := hv.trans (if_pos hc32__2)
  refine o_icmpYes X_1 hq (pc' := 50) d24_32 (tlt hc32__2).1 (o_iconst X_1 hq 0 d24_50 rfl (o_istoreN X_1 hq d24_51 (l' := #[rv a1, iv 1, iv 3, iv 0, iv 1]) rfl (o_iinc X_1 hq d24_52 rfl (l' := #[rv a1, iv 1, iv 3, iv 0, iv 2]) rfl (o_goto X_1 hq (pc' := 14) d24_55 (o_iloadN X_1 hq d24_14 rfl (o_ifYes X_1 hq (pc' := 58) d24_15 (by decide) (o_iloadN X_1 hq d24_58 rfl ?_)))))))
  exact e_Z X_1 e_1 hq hlk hrt d24_59 ⟨(congrArg (fun z => some (Value.int z)) hv_3.symm), N_1, rfl⟩
 ·have hv_4 := hv.trans (if_neg hc32__2)
  refine o_icmpNo X_1 hq d24_32 (flt hc32__2).1 (o_aloadN X_1 hq d24_35 rfl rfl (o_iload X_1 hq d24_36 rfl ?_))
  refine c_U1 X_1 hq e_1 hZ hown hml (k24_100U1 hw) (rm11 hw a1 (1 : Int32) b k1 N vs d1 w sfv f h0 n0 Z0 E_s F_v F_c V_s S1 hw0 hat hf S2 hsf (by decide) (own_ltN (e := (3 : Int32)) (by decide) hN)) E_s d24_38 ?_ 0
  rintro T_5 L_5 _ X_5 ⟨⟨⟩, Nq_5, e_5⟩
  have N_5 := Fr.app N_1 Nq_5
  refine o_bipush X_5 hq 57 d24_41 rfl ?_
  by_cases hc43__6 : (57 : Int32) < (f (1 : Int32))
  ·have hv_7 := hv_4.trans (if_pos hc43__6)
   refine o_icmpYes X_5 hq (pc' := 50) d24_43 (tlt hc43__6).2.2.1 (o_iconst X_5 hq 0 d24_50 rfl (o_istoreN X_5 hq d24_51 (l' := #[rv a1, iv 1, iv 3, iv 0, iv 1]) rfl (o_iinc X_5 hq d24_52 rfl (l' := #[rv a1, iv 1, iv 3, iv 0, iv 2]) rfl (o_goto X_5 hq (pc' := 14) d24_55 (o_iloadN X_5 hq d24_14 rfl (o_ifYes X_5 hq (pc' := 58) d24_15 (by decide) (o_iloadN X_5 hq d24_58 rfl ?_)))))))
   exact e_Z X_5 e_5 hq hlk hrt d24_59 ⟨(congrArg (fun z => some (Value.int z)) hv_7.symm), N_5, rfl⟩
  ·have hv_8 := hv_4.trans (if_neg hc43__6)
   refine o_icmpNo X_5 hq d24_43 (flt hc43__6).2.2.1 (o_iconst X_5 hq 1 d24_46 rfl (o_goto X_5 hq (pc' := 51) d24_47 (o_istoreN X_5 hq d24_51 (l' := #[rv a1, iv 1, iv 3, iv 1, iv 1]) rfl (o_iinc X_5 hq d24_52 rfl (l' := #[rv a1, iv 1, iv 3, iv 1, iv 2]) rfl (o_goto X_5 hq (pc' := 14) d24_55 (o_iloadN X_5 hq d24_14 rfl (o_ifNo X_5 hq d24_15 (by decide) (o_iload X_5 hq d24_18 rfl (o_iloadN X_5 hq d24_20 rfl (o_icmpNo X_5 hq d24_21 (by decide) (o_aloadN X_5 hq d24_24 rfl rfl (o_iload X_5 hq d24_25 rfl ?_))))))))))))
   refine c_U1 X_5 hq e_5 hZ hown hml (k24_100U1 hw) (rm11 hw a1 (2 : Int32) b k1 N vs d1 w sfv f h0 n0 Z0 E_s F_v F_c V_s S1 hw0 hat hf S2 hsf (by decide) (own_ltN (e := (3 : Int32)) (by decide) hN)) E_s d24_27 ?_ 0
   rintro T_9 L_9 _ X_9 ⟨⟨⟩, Nq_9, e_9⟩
   have N_9 := Fr.app N_5 Nq_9
   refine o_bipush X_9 hq 48 d24_30 rfl ?_
   by_cases hc32__10 : (f (2 : Int32)) < (48 : Int32)
   ·have hv_11 := hv_8.trans (if_pos hc32__10)
    refine o_icmpYes X_9 hq (pc' := 50) d24_32 (tlt hc32__10).1 (o_iconst X_9 hq 0 d24_50 rfl (o_istoreN X_9 hq d24_51 (l' := #[rv a1, iv 1, iv 3, iv 0, iv 2]) rfl (o_iinc X_9 hq d24_52 rfl (l' := #[rv a1, iv 1, iv 3, iv 0, iv 3]) rfl (o_goto X_9 hq (pc' := 14) d24_55 (o_iloadN X_9 hq d24_14 rfl (o_ifYes X_9 hq (pc' := 58) d24_15 (by decide) (o_iloadN X_9 hq d24_58 rfl ?_)))))))
    exact e_Z X_9 e_9 hq hlk hrt d24_59 ⟨(congrArg (fun z => some (Value.int z)) hv_11.symm), N_9, rfl⟩
   ·have hv_12 := hv_8.trans (if_neg hc32__10)
    refine o_icmpNo X_9 hq d24_32 (flt hc32__10).1 (o_aloadN X_9 hq d24_35 rfl rfl (o_iload X_9 hq d24_36 rfl ?_))
    refine c_U1 X_9 hq e_9 hZ hown hml (k24_100U1 hw) (rm11 hw a1 (2 : Int32) b k1 N vs d1 w sfv f h0 n0 Z0 E_s F_v F_c V_s S1 hw0 hat hf S2 hsf (by decide) (own_ltN (e := (3 : Int32)) (by decide) hN)) E_s d24_38 ?_ 0
    rintro T_13 L_13 _ X_13 ⟨⟨⟩, Nq_13, e_13⟩
    have N_13 := Fr.app N_9 Nq_13
    refine o_bipush X_13 hq 57 d24_41 rfl ?_
    by_cases hc43__14 : (57 : Int32) < (f (2 : Int32))
    ·have hv_15 := hv_12.trans (if_pos hc43__14)
     refine o_icmpYes X_13 hq (pc' := 50) d24_43 (tlt hc43__14).2.2.1 (o_iconst X_13 hq 0 d24_50 rfl (o_istoreN X_13 hq d24_51 (l' := #[rv a1, iv 1, iv 3, iv 0, iv 2]) rfl (o_iinc X_13 hq d24_52 rfl (l' := #[rv a1, iv 1, iv 3, iv 0, iv 3]) rfl (o_goto X_13 hq (pc' := 14) d24_55 (o_iloadN X_13 hq d24_14 rfl (o_ifYes X_13 hq (pc' := 58) d24_15 (by decide) (o_iloadN X_13 hq d24_58 rfl ?_)))))))
     exact e_Z X_13 e_13 hq hlk hrt d24_59 ⟨(congrArg (fun z => some (Value.int z)) hv_15.symm), N_13, rfl⟩
    ·have hv_16 := hv_12.trans (if_neg hc43__14)
     refine o_icmpNo X_13 hq d24_43 (flt hc43__14).2.2.1 (o_iconst X_13 hq 1 d24_46 rfl (o_goto X_13 hq (pc' := 51) d24_47 (o_istoreN X_13 hq d24_51 (l' := #[rv a1, iv 1, iv 3, iv 1, iv 2]) rfl (o_iinc X_13 hq d24_52 rfl (l' := #[rv a1, iv 1, iv 3, iv 1, iv 3]) rfl (o_goto X_13 hq (pc' := 14) d24_55 (o_iloadN X_13 hq d24_14 rfl (o_ifNo X_13 hq d24_15 (by decide) (o_iload X_13 hq d24_18 rfl (o_iloadN X_13 hq d24_20 rfl (o_icmpYes X_13 hq (pc' := 58) d24_21 (by decide) (o_iloadN X_13 hq d24_58 rfl ?_)))))))))))
     exact e_Z X_13 e_13 hq hlk hrt d24_59 ⟨(congrArg (fun z => some (Value.int z)) hv_16.symm), N_13, rfl⟩
def own_dg_2_3 (f : Int32 → Int32) : Int32 := (if (f (2 : Int32)) < (48 : Int32) then (0 : Int32) else (if (57 : Int32) < (f (2 : Int32)) then (0 : Int32) else (1 : Int32)))
def Q_rmdg2_3 (Z : State) (a0 : Array Value) (a1 b : Addr) (k1 : ClassId) (N : Int32) (vs : List Value) (d1 : Value) (w : Int32) (sfv : Value) (f : Int32 → Int32) (h0 : Heap) (n0 : Nat) (v : Option Value) (h : Heap) (L : List Loc) : Prop := v = some (.int (own_dg_2_3 f)) ∧ Fr n0 L ∧ h = h0
theorem rmdg2_3 (hw : HW a0 Z) (a1 b : Addr) (k1 : ClassId) (N : Int32) (vs : List Value) (d1 : Value) (w : Int32) (sfv : Value) (f : Int32 → Int32) (h0 : Heap) (n0 : Nat) (Z0 : n0 ≤ h0.size) (E_s : Exa Z h0 a1 "java/lang/String") (F_v : Fld Z h0 a1 "java/lang/String" "value" "[B" (.ref b)) (F_c : Fld Z h0 a1 "java/lang/String" "coder" "B" (.int (0 : Int32))) (V_s : Arv Z h0 b k1 .byte N vs d1) (S1 : Sta Z h0 "java/lang/String" "COMPACT_STRINGS" "Z" (.int w)) (hw0 : ¬ w = (0 : Int32)) (hat : ∀ i : Int32, ¬ i < 0 → i < N → vs.getD i.toNatClampNeg d1 = .int (((f i).toInt8.toInt32).toInt8.toInt32)) (hf : ∀ i : Int32, ¬ (255 : Int32) < f i ∧ ¬ f i < 0) (S2 : Sta Z h0 "jdk/internal/util/Preconditions" "SIOOBE_FORMATTER" "Ljava/util/function/BiFunction;" sfv) (hsf : sfv.isRef = true) (hN : ¬ N < (3 : Int32)) :
  own_Met l y0_ prog_24_method_6_code 5 (some .boolean) (R_ 4 0 0 53) #[(.ref a1), (.int (2 : Int32)), (.int (3 : Int32))] Z h0 (Q_rmdg2_3 Z a0 a1 b k1 N vs d1 w sfv f h0 n0) := by
 refine own_bd (own := "com/example/nimble_anonymizer/nimbleanonymizer/NumericColumn") rfl (plainFor_of_name pn_9) #[rv a1, iv 2, iv 3, .unset, .unset] ?_
 intro p e s m below meth c s₁ hx hby hq hml hown hnm hlk hrt hZ X0 e0
 have hv : own_dg_2_3 f = (if (f (2 : Int32)) < (48 : Int32) then (0 : Int32) else (if (57 : Int32) < (f (2 : Int32)) then (0 : Int32) else (1 : Int32))) := rfl
 show own_Go _ _ _ _ (s₁.setTop (mkF m 0 #[rv a1, iv 2, iv 3, .unset, .unset] []))
 refine o_iloadN X0 hq d24_0 rfl (o_iloadN X0 hq d24_1 rfl (o_icmpNo X0 hq d24_2 (by decide) (o_iconst X0 hq 1 d24_5 rfl (o_goto X0 hq (pc' := 10) d24_6 (o_istoreN X0 hq d24_10 (l' := #[rv a1, iv 2, iv 3, iv 1, .unset]) rfl (o_iloadN X0 hq d24_11 rfl (o_istore X0 hq d24_12 (l' := #[rv a1, iv 2, iv 3, iv 1, iv 2]) rfl (o_iloadN X0 hq d24_14 rfl (o_ifNo X0 hq d24_15 (by decide) (o_iload X0 hq d24_18 rfl (o_iloadN X0 hq d24_20 rfl (o_icmpNo X0 hq d24_21 (by decide) (o_aloadN X0 hq d24_24 rfl rfl (o_iload X0 hq d24_25 rfl ?_))))))))))))))
 refine c_U1 X0 hq e0 hZ hown hml (k24_100U1 hw) (rm11 hw a1 (2 : Int32) b k1 N vs d1 w sfv f h0 n0 Z0 E_s F_v F_c V_s S1 hw0 hat hf S2 hsf (by decide) (own_ltN (e := (3 : Int32)) (by decide) hN)) E_s d24_27 ?_ 0
 rintro T_1 L_1 _ X_1 ⟨⟨⟩, Nq_1, e_1⟩
 have N_1 := Fr.app (Fr.nil n0) Nq_1
 refine o_bipush X_1 hq 48 d24_30 rfl ?_
 by_cases hc32__2 : (f (2 : Int32)) < (48 : Int32)
 ·have hv_3 := hv.trans (if_pos hc32__2)
  refine o_icmpYes X_1 hq (pc' := 50) d24_32 (tlt hc32__2).1 (o_iconst X_1 hq 0 d24_50 rfl (o_istoreN X_1 hq d24_51 (l' := #[rv a1, iv 2, iv 3, iv 0, iv 2]) rfl (o_iinc X_1 hq d24_52 rfl (l' := #[rv a1, iv 2, iv 3, iv 0, iv 3]) rfl (o_goto X_1 hq (pc' := 14) d24_55 (o_iloadN X_1 hq d24_14 rfl (o_ifYes X_1 hq (pc' := 58) d24_15 (by decide) (o_iloadN X_1 hq d24_58 rfl ?_)))))))
  exact e_Z X_1 e_1 hq hlk hrt d24_59 ⟨(congrArg (fun z => some (Value.int z)) hv_3.symm), N_1, rfl⟩
 ·have hv_4 := hv.trans (if_neg hc32__2)
  refine o_icmpNo X_1 hq d24_32 (flt hc32__2).1 (o_aloadN X_1 hq d24_35 rfl rfl (o_iload X_1 hq d24_36 rfl ?_))
  refine c_U1 X_1 hq e_1 hZ hown hml (k24_100U1 hw) (rm11 hw a1 (2 : Int32) b k1 N vs d1 w sfv f h0 n0 Z0 E_s F_v F_c V_s S1 hw0 hat hf S2 hsf (by decide) (own_ltN (e := (3 : Int32)) (by decide) hN)) E_s d24_38 ?_ 0
  rintro T_5 L_5 _ X_5 ⟨⟨⟩, Nq_5, e_5⟩
  have N_5 := Fr.app N_1 Nq_5
  refine o_bipush X_5 hq 57 d24_41 rfl ?_
  by_cases hc43__6 : (57 : Int32) < (f (2 : Int32))
  ·have hv_7 := hv_4.trans (if_pos hc43__6)
   refine o_icmpYes X_5 hq (pc' := 50) d24_43 (tlt hc43__6).2.2.1 (o_iconst X_5 hq 0 d24_50 rfl (o_istoreN X_5 hq d24_51 (l' := #[rv a1, iv 2, iv 3, iv 0, iv 2]) rfl (o_iinc X_5 hq d24_52 rfl (l' := #[rv a1, iv 2, iv 3, iv 0, iv 3]) rfl (o_goto X_5 hq (pc' := 14) d24_55 (o_iloadN X_5 hq d24_14 rfl (o_ifYes X_5 hq (pc' := 58) d24_15 (by decide) (o_iloadN X_5 hq d24_58 rfl ?_)))))))
   exact e_Z X_5 e_5 hq hlk hrt d24_59 ⟨(congrArg (fun z => some (Value.int z)) hv_7.symm), N_5, rfl⟩
  ·have hv_8 := hv_4.trans (if_neg hc43__6)
   refine o_icmpNo X_5 hq d24_43 (flt hc43__6).2.2.1 (o_iconst X_5 hq 1 d24_46 rfl (o_goto X_5 hq (pc' := 51) d24_47 (o_istoreN X_5 hq d24_51 (l' := #[rv a1, iv 2, iv 3, iv 1, iv 2]) rfl (o_iinc X_5 hq d24_52 rfl (l' := #[rv a1, iv 2, iv 3, iv 1, iv 3]) rfl (o_goto X_5 hq (pc' := 14) d24_55 (o_iloadN X_5 hq d24_14 rfl (o_ifNo X_5 hq d24_15 (by decide) (o_iload X_5 hq d24_18 rfl (o_iloadN X_5 hq d24_20 rfl (o_icmpYes X_5 hq (pc' := 58) d24_21 (by decide) (o_iloadN X_5 hq d24_58 rfl ?_)))))))))))
   exact e_Z X_5 e_5 hq hlk hrt d24_59 ⟨(congrArg (fun z => some (Value.int z)) hv_8.symm), N_5, rfl⟩
def Q_rmdg3_3 (Z : State) (a0 : Array Value) (a1 : Addr) (h0 : Heap) (n0 : Nat) (v : Option Value) (h : Heap) (L : List Loc) : Prop := v = some (.int (0 : Int32)) ∧ Fr n0 L ∧ h = h0
theorem rmdg3_3 (hw : HW a0 Z) (a1 : Addr) (h0 : Heap) (n0 : Nat) (Z0 : n0 ≤ h0.size) :
  own_Met l y0_ prog_24_method_6_code 5 (some .boolean) (R_ 0 0 0 0) #[(.ref a1), (.int (3 : Int32)), (.int (3 : Int32))] Z h0 (Q_rmdg3_3 Z a0 a1 h0 n0) := by
 refine own_bd (own := "com/example/nimble_anonymizer/nimbleanonymizer/NumericColumn") rfl (plainFor_of_name pn_9) #[rv a1, iv 3, iv 3, .unset, .unset] ?_
 intro p e s m below meth c s₁ hx hby hq hml hown hnm hlk hrt hZ X0 e0
 refine o_iloadN X0 hq d24_0 rfl (o_iloadN X0 hq d24_1 rfl (o_icmpYes X0 hq (pc' := 9) d24_2 (by decide) (o_iconst X0 hq 0 d24_9 rfl (o_istoreN X0 hq d24_10 (l' := #[rv a1, iv 3, iv 3, iv 0, .unset]) rfl (o_iloadN X0 hq d24_11 rfl (o_istore X0 hq d24_12 (l' := #[rv a1, iv 3, iv 3, iv 0, iv 3]) rfl (o_iloadN X0 hq d24_14 rfl (o_ifYes X0 hq (pc' := 58) d24_15 (by decide) (o_iloadN X0 hq d24_58 rfl ?_)))))))))
 exact e_Z X0 e0 hq hlk hrt d24_59 ⟨rfl, (Fr.nil n0), rfl⟩
def own_dg_0_4 (f : Int32 → Int32) : Int32 := (if (f (0 : Int32)) < (48 : Int32) then (0 : Int32) else (if (57 : Int32) < (f (0 : Int32)) then (0 : Int32) else (if (f (1 : Int32)) < (48 : Int32) then (0 : Int32) else (if (57 : Int32) < (f (1 : Int32)) then (0 : Int32) else (if (f (2 : Int32)) < (48 : Int32) then (0 : Int32) else (if (57 : Int32) < (f (2 : Int32)) then (0 : Int32) else (if (f (3 : Int32)) < (48 : Int32) then (0 : Int32) else (if (57 : Int32) < (f (3 : Int32)) then (0 : Int32) else (1 : Int32)))))))))
def Q_rmdg0_4 (Z : State) (a0 : Array Value) (a1 b : Addr) (k1 : ClassId) (N : Int32) (vs : List Value) (d1 : Value) (w : Int32) (sfv : Value) (f : Int32 → Int32) (h0 : Heap) (n0 : Nat) (v : Option Value) (h : Heap) (L : List Loc) : Prop := v = some (.int (own_dg_0_4 f)) ∧ Fr n0 L ∧ h = h0
theorem rmdg0_4 (hw : HW a0 Z) (a1 b : Addr) (k1 : ClassId) (N : Int32) (vs : List Value) (d1 : Value) (w : Int32) (sfv : Value) (f : Int32 → Int32) (h0 : Heap) (n0 : Nat) (Z0 : n0 ≤ h0.size) (E_s : Exa Z h0 a1 "java/lang/String") (F_v : Fld Z h0 a1 "java/lang/String" "value" "[B" (.ref b)) (F_c : Fld Z h0 a1 "java/lang/String" "coder" "B" (.int (0 : Int32))) (V_s : Arv Z h0 b k1 .byte N vs d1) (S1 : Sta Z h0 "java/lang/String" "COMPACT_STRINGS" "Z" (.int w)) (hw0 : ¬ w = (0 : Int32)) (hat : ∀ i : Int32, ¬ i < 0 → i < N → vs.getD i.toNatClampNeg d1 = .int (((f i).toInt8.toInt32).toInt8.toInt32)) (hf : ∀ i : Int32, ¬ (255 : Int32) < f i ∧ ¬ f i < 0) (S2 : Sta Z h0 "jdk/internal/util/Preconditions" "SIOOBE_FORMATTER" "Ljava/util/function/BiFunction;" sfv) (hsf : sfv.isRef = true) (hN : ¬ N < (4 : Int32)) :
  own_Met l y0_ prog_24_method_6_code 5 (some .boolean) (R_ 4 0 0 53) #[(.ref a1), (.int (0 : Int32)), (.int (4 : Int32))] Z h0 (Q_rmdg0_4 Z a0 a1 b k1 N vs d1 w sfv f h0 n0) := by
 refine own_bd (own := "com/example/nimble_anonymizer/nimbleanonymizer/NumericColumn") rfl (plainFor_of_name pn_9) #[rv a1, iv 0, iv 4, .unset, .unset] ?_
 intro p e s m below meth c s₁ hx hby hq hml hown hnm hlk hrt hZ X0 e0
 have hv : own_dg_0_4 f = (if (f (0 : Int32)) < (48 : Int32) then (0 : Int32) else (if (57 : Int32) < (f (0 : Int32)) then (0 : Int32) else (if (f (1 : Int32)) < (48 : Int32) then (0 : Int32) else (if (57 : Int32) < (f (1 : Int32)) then (0 : Int32) else (if (f (2 : Int32)) < (48 : Int32) then (0 : Int32) else (if (57 : Int32) < (f (2 : Int32)) then (0 : Int32) else (if (f (3 : Int32)) < (48 : Int32) then (0 : Int32) else (if (57 : Int32) < (f (3 : Int32)) then (0 : Int32) else (1 : Int32))))))))) := rfl
 show own_Go _ _ _ _ (s₁.setTop (mkF m 0 #[rv a1, iv 0, iv 4, .unset, .unset] []))
 refine o_iloadN X0 hq d24_0 rfl (o_iloadN X0 hq d24_1 rfl (o_icmpNo X0 hq d24_2 (by decide) (o_iconst X0 hq 1 d24_5 rfl (o_goto X0 hq (pc' := 10) d24_6 (o_istoreN X0 hq d24_10 (l' := #[rv a1, iv 0, iv 4, iv 1, .unset]) rfl (o_iloadN X0 hq d24_11 rfl (o_istore X0 hq d24_12 (l' := #[rv a1, iv 0, iv 4, iv 1, iv 0]) rfl (o_iloadN X0 hq d24_14 rfl (o_ifNo X0 hq d24_15 (by decide) (o_iload X0 hq d24_18 rfl (o_iloadN X0 hq d24_20 rfl (o_icmpNo X0 hq d24_21 (by decide) (o_aloadN X0 hq d24_24 rfl rfl (o_iload X0 hq d24_25 rfl ?_))))))))))))))
 refine c_U1 X0 hq e0 hZ hown hml (k24_100U1 hw) (rm11 hw a1 (0 : Int32) b k1 N vs d1 w sfv f h0 n0 Z0 E_s F_v F_c V_s S1 hw0 hat hf S2 hsf (by decide) (own_ltN (e := (4 : Int32)) (by decide) hN)) E_s d24_27 ?_ 0
 rintro T_1 L_1 _ X_1 ⟨⟨⟩, Nq_1, e_1⟩
 have N_1 := Fr.app (Fr.nil n0) Nq_1
 refine o_bipush X_1 hq 48 d24_30 rfl ?_
 by_cases hc32__2 : (f (0 : Int32)) < (48 : Int32)
 ·have hv_3 := hv.trans (if_pos hc32__2)
  refine o_icmpYes X_1 hq (pc' := 50) d24_32 (tlt hc32__2).1 (o_iconst X_1 hq 0 d24_50 rfl (o_istoreN X_1 hq d24_51 (l' := #[rv a1, iv 0, iv 4, iv 0, iv 0]) rfl (o_iinc X_1 hq d24_52 rfl (l' := #[rv a1, iv 0, iv 4, iv 0, iv 1]) rfl (o_goto X_1 hq (pc' := 14) d24_55 (o_iloadN X_1 hq d24_14 rfl (o_ifYes X_1 hq (pc' := 58) d24_15 (by decide) (o_iloadN X_1 hq d24_58 rfl ?_)))))))
  exact e_Z X_1 e_1 hq hlk hrt d24_59 ⟨(congrArg (fun z => some (Value.int z)) hv_3.symm), N_1, rfl⟩
 ·have hv_4 := hv.trans (if_neg hc32__2)
  refine o_icmpNo X_1 hq d24_32 (flt hc32__2).1 (o_aloadN X_1 hq d24_35 rfl rfl (o_iload X_1 hq d24_36 rfl ?_))
  refine c_U1 X_1 hq e_1 hZ hown hml (k24_100U1 hw) (rm11 hw a1 (0 : Int32) b k1 N vs d1 w sfv f h0 n0 Z0 E_s F_v F_c V_s S1 hw0 hat hf S2 hsf (by decide) (own_ltN (e := (4 : Int32)) (by decide) hN)) E_s d24_38 ?_ 0
  rintro T_5 L_5 _ X_5 ⟨⟨⟩, Nq_5, e_5⟩
  have N_5 := Fr.app N_1 Nq_5
  refine o_bipush X_5 hq 57 d24_41 rfl ?_
  by_cases hc43__6 : (57 : Int32) < (f (0 : Int32))
  ·have hv_7 := hv_4.trans (if_pos hc43__6)
   refine o_icmpYes X_5 hq (pc' := 50) d24_43 (tlt hc43__6).2.2.1 (o_iconst X_5 hq 0 d24_50 rfl (o_istoreN X_5 hq d24_51 (l' := #[rv a1, iv 0, iv 4, iv 0, iv 0]) rfl (o_iinc X_5 hq d24_52 rfl (l' := #[rv a1, iv 0, iv 4, iv 0, iv 1]) rfl (o_goto X_5 hq (pc' := 14) d24_55 (o_iloadN X_5 hq d24_14 rfl (o_ifYes X_5 hq (pc' := 58) d24_15 (by decide) (o_iloadN X_5 hq d24_58 rfl ?_)))))))
   exact e_Z X_5 e_5 hq hlk hrt d24_59 ⟨(congrArg (fun z => some (Value.int z)) hv_7.symm), N_5, rfl⟩
  ·have hv_8 := hv_4.trans (if_neg hc43__6)
   refine o_icmpNo X_5 hq d24_43 (flt hc43__6).2.2.1 (o_iconst X_5 hq 1 d24_46 rfl (o_goto X_5 hq (pc' := 51) d24_47 (o_istoreN X_5 hq d24_51 (l' := #[rv a1, iv 0, iv 4, iv 1, iv 0]) rfl (o_iinc X_5 hq d24_52 rfl (l' := #[rv a1, iv 0, iv 4, iv 1, iv 1]) rfl (o_goto X_5 hq (pc' := 14) d24_55 (o_iloadN X_5 hq d24_14 rfl (o_ifNo X_5 hq d24_15 (by decide) (o_iload X_5 hq d24_18 rfl (o_iloadN X_5 hq d24_20 rfl (o_icmpNo X_5 hq d24_21 (by decide) (o_aloadN X_5 hq d24_24 rfl rfl (o_iload X_5 hq d24_25 rfl ?_))))))))))))
   refine c_U1 X_5 hq e_5 hZ hown hml (k24_100U1 hw) (rm11 hw a1 (1 : Int32) b k1 N vs d1 w sfv f h0 n0 Z0 E_s F_v F_c V_s S1 hw0 hat hf S2 hsf (by decide) (own_ltN (e := (4 : Int32)) (by decide) hN)) E_s d24_27 ?_ 0
   rintro T_9 L_9 _ X_9 ⟨⟨⟩, Nq_9, e_9⟩
   have N_9 := Fr.app N_5 Nq_9
   refine o_bipush X_9 hq 48 d24_30 rfl ?_
   by_cases hc32__10 : (f (1 : Int32)) < (48 : Int32)
   ·have hv_11 := hv_8.trans (if_pos hc32__10)
    refine o_icmpYes X_9 hq (pc' := 50) d24_32 (tlt hc32__10).1 (o_iconst X_9 hq 0 d24_50 rfl (o_istoreN X_9 hq d24_51 (l' := #[rv a1, iv 0, iv 4, iv 0, iv 1]) rfl (o_iinc X_9 hq d24_52 rfl (l' := #[rv a1, iv 0, iv 4, iv 0, iv 2]) rfl (o_goto X_9 hq (pc' := 14) d24_55 (o_iloadN X_9 hq d24_14 rfl (o_ifYes X_9 hq (pc' := 58) d24_15 (by decide) (o_iloadN X_9 hq d24_58 rfl ?_)))))))
    exact e_Z X_9 e_9 hq hlk hrt d24_59 ⟨(congrArg (fun z => some (Value.int z)) hv_11.symm), N_9, rfl⟩
   ·have hv_12 := hv_8.trans (if_neg hc32__10)
    refine o_icmpNo X_9 hq d24_32 (flt hc32__10).1 (o_aloadN X_9 hq d24_35 rfl rfl (o_iload X_9 hq d24_36 rfl ?_))
    refine c_U1 X_9 hq e_9 hZ hown hml (k24_100U1 hw) (rm11 hw a1 (1 : Int32) b k1 N vs d1 w sfv f h0 n0 Z0 E_s F_v F_c V_s S1 hw0 hat hf S2 hsf (by decide) (own_ltN (e := (4 : Int32)) (by decide) hN)) E_s d24_38 ?_ 0
    rintro T_13 L_13 _ X_13 ⟨⟨⟩, Nq_13, e_13⟩
    have N_13 := Fr.app N_9 Nq_13
    refine o_bipush X_13 hq 57 d24_41 rfl ?_
    by_cases hc43__14 : (57 : Int32) < (f (1 : Int32))
    ·have hv_15 := hv_12.trans (if_pos hc43__14)
     refine o_icmpYes X_13 hq (pc' := 50) d24_43 (tlt hc43__14).2.2.1 (o_iconst X_13 hq 0 d24_50 rfl (o_istoreN X_13 hq d24_51 (l' := #[rv a1, iv 0, iv 4, iv 0, iv 1]) rfl (o_iinc X_13 hq d24_52 rfl (l' := #[rv a1, iv 0, iv 4, iv 0, iv 2]) rfl (o_goto X_13 hq (pc' := 14) d24_55 (o_iloadN X_13 hq d24_14 rfl (o_ifYes X_13 hq (pc' := 58) d24_15 (by decide) (o_iloadN X_13 hq d24_58 rfl ?_)))))))
     exact e_Z X_13 e_13 hq hlk hrt d24_59 ⟨(congrArg (fun z => some (Value.int z)) hv_15.symm), N_13, rfl⟩
    ·have hv_16 := hv_12.trans (if_neg hc43__14)
     refine o_icmpNo X_13 hq d24_43 (flt hc43__14).2.2.1 (o_iconst X_13 hq 1 d24_46 rfl (o_goto X_13 hq (pc' := 51) d24_47 (o_istoreN X_13 hq d24_51 (l' := #[rv a1, iv 0, iv 4, iv 1, iv 1]) rfl (o_iinc X_13 hq d24_52 rfl (l' := #[rv a1, iv 0, iv 4, iv 1, iv 2]) rfl (o_goto X_13 hq (pc' := 14) d24_55 (o_iloadN X_13 hq d24_14 rfl (o_ifNo X_13 hq d24_15 (by decide) (o_iload X_13 hq d24_18 rfl (o_iloadN X_13 hq d24_20 rfl (o_icmpNo X_13 hq d24_21 (by decide) (o_aloadN X_13 hq d24_24 rfl rfl (o_iload X_13 hq d24_25 rfl ?_))))))))))))
     refine c_U1 X_13 hq e_13 hZ hown hml (k24_100U1 hw) (rm11 hw a1 (2 : Int32) b k1 N vs d1 w sfv f h0 n0 Z0 E_s F_v F_c V_s S1 hw0 hat hf S2 hsf (by decide) (own_ltN (e := (4 : Int32)) (by decide) hN)) E_s d24_27 ?_ 0
     rintro T_17 L_17 _ X_17 ⟨⟨⟩, Nq_17, e_17⟩
     have N_17 := Fr.app N_13 Nq_17
     refine o_bipush X_17 hq 48 d24_30 rfl ?_
     by_cases hc32__18 : (f (2 : Int32)) < (48 : Int32)
     ·have hv_19 := hv_16.trans (if_pos hc32__18)
      refine o_icmpYes X_17 hq (pc' := 50) d24_32 (tlt hc32__18).1 (o_iconst X_17 hq 0 d24_50 rfl (o_istoreN X_17 hq d24_51 (l' := #[rv a1, iv 0, iv 4, iv 0, iv 2]) rfl (o_iinc X_17 hq d24_52 rfl (l' := #[rv a1, iv 0, iv 4, iv 0, iv 3]) rfl (o_goto X_17 hq (pc' := 14) d24_55 (o_iloadN X_17 hq d24_14 rfl (o_ifYes X_17 hq (pc' := 58) d24_15 (by decide) (o_iloadN X_17 hq d24_58 rfl ?_)))))))
      exact e_Z X_17 e_17 hq hlk hrt d24_59 ⟨(congrArg (fun z => some (Value.int z)) hv_19.symm), N_17, rfl⟩
     ·have hv_20 := hv_16.trans (if_neg hc32__18)
      refine o_icmpNo X_17 hq d24_32 (flt hc32__18).1 (o_aloadN X_17 hq d24_35 rfl rfl (o_iload X_17 hq d24_36 rfl ?_))
      refine c_U1 X_17 hq e_17 hZ hown hml (k24_100U1 hw) (rm11 hw a1 (2 : Int32) b k1 N vs d1 w sfv f h0 n0 Z0 E_s F_v F_c V_s S1 hw0 hat hf S2 hsf (by decide) (own_ltN (e := (4 : Int32)) (by decide) hN)) E_s d24_38 ?_ 0
      rintro T_21 L_21 _ X_21 ⟨⟨⟩, Nq_21, e_21⟩
      have N_21 := Fr.app N_17 Nq_21
      refine o_bipush X_21 hq 57 d24_41 rfl ?_
      by_cases hc43__22 : (57 : Int32) < (f (2 : Int32))
      ·have hv_23 := hv_20.trans (if_pos hc43__22)
       refine o_icmpYes X_21 hq (pc' := 50) d24_43 (tlt hc43__22).2.2.1 (o_iconst X_21 hq 0 d24_50 rfl (o_istoreN X_21 hq d24_51 (l' := #[rv a1, iv 0, iv 4, iv 0, iv 2]) rfl (o_iinc X_21 hq d24_52 rfl (l' := #[rv a1, iv 0, iv 4, iv 0, iv 3]) rfl (o_goto X_21 hq (pc' := 14) d24_55 (o_iloadN X_21 hq d24_14 rfl (o_ifYes X_21 hq (pc' := 58) d24_15 (by decide) (o_iloadN X_21 hq d24_58 rfl ?_)))))))
       exact e_Z X_21 e_21 hq hlk hrt d24_59 ⟨(congrArg (fun z => some (Value.int z)) hv_23.symm), N_21, rfl⟩
      ·have hv_24 := hv_20.trans (if_neg hc43__22)
       refine o_icmpNo X_21 hq d24_43 (flt hc43__22).2.2.1 (o_iconst X_21 hq 1 d24_46 rfl (o_goto X_21 hq (pc' := 51) d24_47 (o_istoreN X_21 hq d24_51 (l' := #[rv a1, iv 0, iv 4, iv 1, iv 2]) rfl (o_iinc X_21 hq d24_52 rfl (l' := #[rv a1, iv 0, iv 4, iv 1, iv 3]) rfl (o_goto X_21 hq (pc' := 14) d24_55 (o_iloadN X_21 hq d24_14 rfl (o_ifNo X_21 hq d24_15 (by decide) (o_iload X_21 hq d24_18 rfl (o_iloadN X_21 hq d24_20 rfl (o_icmpNo X_21 hq d24_21 (by decide) (o_aloadN X_21 hq d24_24 rfl rfl (o_iload X_21 hq d24_25 rfl ?_))))))))))))
       refine c_U1 X_21 hq e_21 hZ hown hml (k24_100U1 hw) (rm11 hw a1 (3 : Int32) b k1 N vs d1 w sfv f h0 n0 Z0 E_s F_v F_c V_s S1 hw0 hat hf S2 hsf (by decide) (own_ltN (e := (4 : Int32)) (by decide) hN)) E_s d24_27 ?_ 0
       rintro T_25 L_25 _ X_25 ⟨⟨⟩, Nq_25, e_25⟩
       have N_25 := Fr.app N_21 Nq_25
       refine o_bipush X_25 hq 48 d24_30 rfl ?_
       by_cases hc32__26 : (f (3 : Int32)) < (48 : Int32)
       ·have hv_27 := hv_24.trans (if_pos hc32__26)
        refine o_icmpYes X_25 hq (pc' := 50) d24_32 (tlt hc32__26).1 (o_iconst X_25 hq 0 d24_50 rfl (o_istoreN X_25 hq d24_51 (l' := #[rv a1, iv 0, iv 4, iv 0, iv 3]) rfl (o_iinc X_25 hq d24_52 rfl (l' := #[rv a1, iv 0, iv 4, iv 0, iv 4]) rfl (o_goto X_25 hq (pc' := 14) d24_55 (o_iloadN X_25 hq d24_14 rfl (o_ifYes X_25 hq (pc' := 58) d24_15 (by decide) (o_iloadN X_25 hq d24_58 rfl ?_)))))))
        exact e_Z X_25 e_25 hq hlk hrt d24_59 ⟨(congrArg (fun z => some (Value.int z)) hv_27.symm), N_25, rfl⟩
       ·have hv_28 := hv_24.trans (if_neg hc32__26)
        refine o_icmpNo X_25 hq d24_32 (flt hc32__26).1 (o_aloadN X_25 hq d24_35 rfl rfl (o_iload X_25 hq d24_36 rfl ?_))
        refine c_U1 X_25 hq e_25 hZ hown hml (k24_100U1 hw) (rm11 hw a1 (3 : Int32) b k1 N vs d1 w sfv f h0 n0 Z0 E_s F_v F_c V_s S1 hw0 hat hf S2 hsf (by decide) (own_ltN (e := (4 : Int32)) (by decide) hN)) E_s d24_38 ?_ 0
        rintro T_29 L_29 _ X_29 ⟨⟨⟩, Nq_29, e_29⟩
        have N_29 := Fr.app N_25 Nq_29
        refine o_bipush X_29 hq 57 d24_41 rfl ?_
        by_cases hc43__30 : (57 : Int32) < (f (3 : Int32))
        ·have hv_31 := hv_28.trans (if_pos hc43__30)
         refine o_icmpYes X_29 hq (pc' := 50) d24_43 (tlt hc43__30).2.2.1 (o_iconst X_29 hq 0 d24_50 rfl (o_istoreN X_29 hq d24_51 (l' := #[rv a1, iv 0, iv 4, iv 0, iv 3]) rfl (o_iinc X_29 hq d24_52 rfl (l' := #[rv a1, iv 0, iv 4, iv 0, iv 4]) rfl (o_goto X_29 hq (pc' := 14) d24_55 (o_iloadN X_29 hq d24_14 rfl (o_ifYes X_29 hq (pc' := 58) d24_15 (by decide) (o_iloadN X_29 hq d24_58 rfl ?_)))))))
         exact e_Z X_29 e_29 hq hlk hrt d24_59 ⟨(congrArg (fun z => some (Value.int z)) hv_31.symm), N_29, rfl⟩
        ·have hv_32 := hv_28.trans (if_neg hc43__30)
         refine o_icmpNo X_29 hq d24_43 (flt hc43__30).2.2.1 (o_iconst X_29 hq 1 d24_46 rfl (o_goto X_29 hq (pc' := 51) d24_47 (o_istoreN X_29 hq d24_51 (l' := #[rv a1, iv 0, iv 4, iv 1, iv 3]) rfl (o_iinc X_29 hq d24_52 rfl (l' := #[rv a1, iv 0, iv 4, iv 1, iv 4]) rfl (o_goto X_29 hq (pc' := 14) d24_55 (o_iloadN X_29 hq d24_14 rfl (o_ifNo X_29 hq d24_15 (by decide) (o_iload X_29 hq d24_18 rfl (o_iloadN X_29 hq d24_20 rfl (o_icmpYes X_29 hq (pc' := 58) d24_21 (by decide) (o_iloadN X_29 hq d24_58 rfl ?_)))))))))))
         exact e_Z X_29 e_29 hq hlk hrt d24_59 ⟨(congrArg (fun z => some (Value.int z)) hv_32.symm), N_29, rfl⟩
def own_dg_1_4 (f : Int32 → Int32) : Int32 := (if (f (1 : Int32)) < (48 : Int32) then (0 : Int32) else (if (57 : Int32) < (f (1 : Int32)) then (0 : Int32) else (if (f (2 : Int32)) < (48 : Int32) then (0 : Int32) else (if (57 : Int32) < (f (2 : Int32)) then (0 : Int32) else (if (f (3 : Int32)) < (48 : Int32) then (0 : Int32) else (if (57 : Int32) < (f (3 : Int32)) then (0 : Int32) else (1 : Int32)))))))
def Q_rmdg1_4 (Z : State) (a0 : Array Value) (a1 b : Addr) (k1 : ClassId) (N : Int32) (vs : List Value) (d1 : Value) (w : Int32) (sfv : Value) (f : Int32 → Int32) (h0 : Heap) (n0 : Nat) (v : Option Value) (h : Heap) (L : List Loc) : Prop := v = some (.int (own_dg_1_4 f)) ∧ Fr n0 L ∧ h = h0
theorem rmdg1_4 (hw : HW a0 Z) (a1 b : Addr) (k1 : ClassId) (N : Int32) (vs : List Value) (d1 : Value) (w : Int32) (sfv : Value) (f : Int32 → Int32) (h0 : Heap) (n0 : Nat) (Z0 : n0 ≤ h0.size) (E_s : Exa Z h0 a1 "java/lang/String") (F_v : Fld Z h0 a1 "java/lang/String" "value" "[B" (.ref b)) (F_c : Fld Z h0 a1 "java/lang/String" "coder" "B" (.int (0 : Int32))) (V_s : Arv Z h0 b k1 .byte N vs d1) (S1 : Sta Z h0 "java/lang/String" "COMPACT_STRINGS" "Z" (.int w)) (hw0 : ¬ w = (0 : Int32)) (hat : ∀ i : Int32, ¬ i < 0 → i < N → vs.getD i.toNatClampNeg d1 = .int (((f i).toInt8.toInt32).toInt8.toInt32)) (hf : ∀ i : Int32, ¬ (255 : Int32) < f i ∧ ¬ f i < 0) (S2 : Sta Z h0 "jdk/internal/util/Preconditions" "SIOOBE_FORMATTER" "Ljava/util/function/BiFunction;" sfv) (hsf : sfv.isRef = true) (hN : ¬ N < (4 : Int32)) :
  own_Met l y0_ prog_24_method_6_code 5 (some .boolean) (R_ 4 0 0 53) #[(.ref a1), (.int (1 : Int32)), (.int (4 : Int32))] Z h0 (Q_rmdg1_4 Z a0 a1 b k1 N vs d1 w sfv f h0 n0) := by
 refine own_bd (own := "com/example/nimble_anonymizer/nimbleanonymizer/NumericColumn") rfl (plainFor_of_name pn_9) #[rv a1, iv 1, iv 4, .unset, .unset] ?_
 intro p e s m below meth c s₁ hx hby hq hml hown hnm hlk hrt hZ X0 e0
 have hv : own_dg_1_4 f = (if (f (1 : Int32)) < (48 : Int32) then (0 : Int32) else (if (57 : Int32) < (f (1 : Int32)) then (0 : Int32) else (if (f (2 : Int32)) < (48 : Int32) then (0 : Int32) else (if (57 : Int32) < (f (2 : Int32)) then (0 : Int32) else (if (f (3 : Int32)) < (48 : Int32) then (0 : Int32) else (if (57 : Int32) < (f (3 : Int32)) then (0 : Int32) else (1 : Int32))))))) := rfl
 show own_Go _ _ _ _ (s₁.setTop (mkF m 0 #[rv a1, iv 1, iv 4, .unset, .unset] []))
 refine o_iloadN X0 hq d24_0 rfl (o_iloadN X0 hq d24_1 rfl (o_icmpNo X0 hq d24_2 (by decide) (o_iconst X0 hq 1 d24_5 rfl (o_goto X0 hq (pc' := 10) d24_6 (o_istoreN X0 hq d24_10 (l' := #[rv a1, iv 1, iv 4, iv 1, .unset]) rfl (o_iloadN X0 hq d24_11 rfl (o_istore X0 hq d24_12 (l' := #[rv a1, iv 1, iv 4, iv 1, iv 1]) rfl (o_iloadN X0 hq d24_14 rfl (o_ifNo X0 hq d24_15 (by decide) (o_iload X0 hq d24_18 rfl (o_iloadN X0 hq d24_20 rfl (o_icmpNo X0 hq d24_21 (by decide) (o_aloadN X0 hq d24_24 rfl rfl (o_iload X0 hq d24_25 rfl ?_))))))))))))))
 refine c_U1 X0 hq e0 hZ hown hml (k24_100U1 hw) (rm11 hw a1 (1 : Int32) b k1 N vs d1 w sfv f h0 n0 Z0 E_s F_v F_c V_s S1 hw0 hat hf S2 hsf (by decide) (own_ltN (e := (4 : Int32)) (by decide) hN)) E_s d24_27 ?_ 0
 rintro T_1 L_1 _ X_1 ⟨⟨⟩, Nq_1, e_1⟩
 have N_1 := Fr.app (Fr.nil n0) Nq_1
 refine o_bipush X_1 hq 48 d24_30 rfl ?_
 by_cases hc32__2 : (f (1 : Int32)) < (48 : Int32)
 ·have hv_3 := hv.trans (if_pos hc32__2)
  refine o_icmpYes X_1 hq (pc' := 50) d24_32 (tlt hc32__2).1 (o_iconst X_1 hq 0 d24_50 rfl (o_istoreN X_1 hq d24_51 (l' := #[rv a1, iv 1, iv 4, iv 0, iv 1]) rfl (o_iinc X_1 hq d24_52 rfl (l' := #[rv a1, iv 1, iv 4, iv 0, iv 2]) rfl (o_goto X_1 hq (pc' := 14) d24_55 (o_iloadN X_1 hq d24_14 rfl (o_ifYes X_1 hq (pc' := 58) d24_15 (by decide) (o_iloadN X_1 hq d24_58 rfl ?_)))))))
  exact e_Z X_1 e_1 hq hlk hrt d24_59 ⟨(congrArg (fun z => some (Value.int z)) hv_3.symm), N_1, rfl⟩
 ·have hv_4 := hv.trans (if_neg hc32__2)
  refine o_icmpNo X_1 hq d24_32 (flt hc32__2).1 (o_aloadN X_1 hq d24_35 rfl rfl (o_iload X_1 hq d24_36 rfl ?_))
  refine c_U1 X_1 hq e_1 hZ hown hml (k24_100U1 hw) (rm11 hw a1 (1 : Int32) b k1 N vs d1 w sfv f h0 n0 Z0 E_s F_v F_c V_s S1 hw0 hat hf S2 hsf (by decide) (own_ltN (e := (4 : Int32)) (by decide) hN)) E_s d24_38 ?_ 0
  rintro T_5 L_5 _ X_5 ⟨⟨⟩, Nq_5, e_5⟩
  have N_5 := Fr.app N_1 Nq_5
  refine o_bipush X_5 hq 57 d24_41 rfl ?_
  by_cases hc43__6 : (57 : Int32) < (f (1 : Int32))
  ·have hv_7 := hv_4.trans (if_pos hc43__6)
   refine o_icmpYes X_5 hq (pc' := 50) d24_43 (tlt hc43__6).2.2.1 (o_iconst X_5 hq 0 d24_50 rfl (o_istoreN X_5 hq d24_51 (l' := #[rv a1, iv 1, iv 4, iv 0, iv 1]) rfl (o_iinc X_5 hq d24_52 rfl (l' := #[rv a1, iv 1, iv 4, iv 0, iv 2]) rfl (o_goto X_5 hq (pc' := 14) d24_55 (o_iloadN X_5 hq d24_14 rfl (o_ifYes X_5 hq (pc' := 58) d24_15 (by decide) (o_iloadN X_5 hq d24_58 rfl ?_)))))))
   exact e_Z X_5 e_5 hq hlk hrt d24_59 ⟨(congrArg (fun z => some (Value.int z)) hv_7.symm), N_5, rfl⟩
  ·have hv_8 := hv_4.trans (if_neg hc43__6)
   refine o_icmpNo X_5 hq d24_43 (flt hc43__6).2.2.1 (o_iconst X_5 hq 1 d24_46 rfl (o_goto X_5 hq (pc' := 51) d24_47 (o_istoreN X_5 hq d24_51 (l' := #[rv a1, iv 1, iv 4, iv 1, iv 1]) rfl (o_iinc X_5 hq d24_52 rfl (l' := #[rv a1, iv 1, iv 4, iv 1, iv 2]) rfl (o_goto X_5 hq (pc' := 14) d24_55 (o_iloadN X_5 hq d24_14 rfl (o_ifNo X_5 hq d24_15 (by decide) (o_iload X_5 hq d24_18 rfl (o_iloadN X_5 hq d24_20 rfl (o_icmpNo X_5 hq d24_21 (by decide) (o_aloadN X_5 hq d24_24 rfl rfl (o_iload X_5 hq d24_25 rfl ?_))))))))))))
   refine c_U1 X_5 hq e_5 hZ hown hml (k24_100U1 hw) (rm11 hw a1 (2 : Int32) b k1 N vs d1 w sfv f h0 n0 Z0 E_s F_v F_c V_s S1 hw0 hat hf S2 hsf (by decide) (own_ltN (e := (4 : Int32)) (by decide) hN)) E_s d24_27 ?_ 0
   rintro T_9 L_9 _ X_9 ⟨⟨⟩, Nq_9, e_9⟩
   have N_9 := Fr.app N_5 Nq_9
   refine o_bipush X_9 hq 48 d24_30 rfl ?_
   by_cases hc32__10 : (f (2 : Int32)) < (48 : Int32)
   ·have hv_11 := hv_8.trans (if_pos hc32__10)
    refine o_icmpYes X_9 hq (pc' := 50) d24_32 (tlt hc32__10).1 (o_iconst X_9 hq 0 d24_50 rfl (o_istoreN X_9 hq d24_51 (l' := #[rv a1, iv 1, iv 4, iv 0, iv 2]) rfl (o_iinc X_9 hq d24_52 rfl (l' := #[rv a1, iv 1, iv 4, iv 0, iv 3]) rfl (o_goto X_9 hq (pc' := 14) d24_55 (o_iloadN X_9 hq d24_14 rfl (o_ifYes X_9 hq (pc' := 58) d24_15 (by decide) (o_iloadN X_9 hq d24_58 rfl ?_)))))))
    exact e_Z X_9 e_9 hq hlk hrt d24_59 ⟨(congrArg (fun z => some (Value.int z)) hv_11.symm), N_9, rfl⟩
   ·have hv_12 := hv_8.trans (if_neg hc32__10)
    refine o_icmpNo X_9 hq d24_32 (flt hc32__10).1 (o_aloadN X_9 hq d24_35 rfl rfl (o_iload X_9 hq d24_36 rfl ?_))
    refine c_U1 X_9 hq e_9 hZ hown hml (k24_100U1 hw) (rm11 hw a1 (2 : Int32) b k1 N vs d1 w sfv f h0 n0 Z0 E_s F_v F_c V_s S1 hw0 hat hf S2 hsf (by decide) (own_ltN (e := (4 : Int32)) (by decide) hN)) E_s d24_38 ?_ 0
    rintro T_13 L_13 _ X_13 ⟨⟨⟩, Nq_13, e_13⟩
    have N_13 := Fr.app N_9 Nq_13
    refine o_bipush X_13 hq 57 d24_41 rfl ?_
    by_cases hc43__14 : (57 : Int32) < (f (2 : Int32))
    ·have hv_15 := hv_12.trans (if_pos hc43__14)
     refine o_icmpYes X_13 hq (pc' := 50) d24_43 (tlt hc43__14).2.2.1 (o_iconst X_13 hq 0 d24_50 rfl (o_istoreN X_13 hq d24_51 (l' := #[rv a1, iv 1, iv 4, iv 0, iv 2]) rfl (o_iinc X_13 hq d24_52 rfl (l' := #[rv a1, iv 1, iv 4, iv 0, iv 3]) rfl (o_goto X_13 hq (pc' := 14) d24_55 (o_iloadN X_13 hq d24_14 rfl (o_ifYes X_13 hq (pc' := 58) d24_15 (by decide) (o_iloadN X_13 hq d24_58 rfl ?_)))))))
     exact e_Z X_13 e_13 hq hlk hrt d24_59 ⟨(congrArg (fun z => some (Value.int z)) hv_15.symm), N_13, rfl⟩
    ·have hv_16 := hv_12.trans (if_neg hc43__14)
     refine o_icmpNo X_13 hq d24_43 (flt hc43__14).2.2.1 (o_iconst X_13 hq 1 d24_46 rfl (o_goto X_13 hq (pc' := 51) d24_47 (o_istoreN X_13 hq d24_51 (l' := #[rv a1, iv 1, iv 4, iv 1, iv 2]) rfl (o_iinc X_13 hq d24_52 rfl (l' := #[rv a1, iv 1, iv 4, iv 1, iv 3]) rfl (o_goto X_13 hq (pc' := 14) d24_55 (o_iloadN X_13 hq d24_14 rfl (o_ifNo X_13 hq d24_15 (by decide) (o_iload X_13 hq d24_18 rfl (o_iloadN X_13 hq d24_20 rfl (o_icmpNo X_13 hq d24_21 (by decide) (o_aloadN X_13 hq d24_24 rfl rfl (o_iload X_13 hq d24_25 rfl ?_))))))))))))
     refine c_U1 X_13 hq e_13 hZ hown hml (k24_100U1 hw) (rm11 hw a1 (3 : Int32) b k1 N vs d1 w sfv f h0 n0 Z0 E_s F_v F_c V_s S1 hw0 hat hf S2 hsf (by decide) (own_ltN (e := (4 : Int32)) (by decide) hN)) E_s d24_27 ?_ 0
     rintro T_17 L_17 _ X_17 ⟨⟨⟩, Nq_17, e_17⟩
     have N_17 := Fr.app N_13 Nq_17
     refine o_bipush X_17 hq 48 d24_30 rfl ?_
     by_cases hc32__18 : (f (3 : Int32)) < (48 : Int32)
     ·have hv_19 := hv_16.trans (if_pos hc32__18)
      refine o_icmpYes X_17 hq (pc' := 50) d24_32 (tlt hc32__18).1 (o_iconst X_17 hq 0 d24_50 rfl (o_istoreN X_17 hq d24_51 (l' := #[rv a1, iv 1, iv 4, iv 0, iv 3]) rfl (o_iinc X_17 hq d24_52 rfl (l' := #[rv a1, iv 1, iv 4, iv 0, iv 4]) rfl (o_goto X_17 hq (pc' := 14) d24_55 (o_iloadN X_17 hq d24_14 rfl (o_ifYes X_17 hq (pc' := 58) d24_15 (by decide) (o_iloadN X_17 hq d24_58 rfl ?_)))))))
      exact e_Z X_17 e_17 hq hlk hrt d24_59 ⟨(congrArg (fun z => some (Value.int z)) hv_19.symm), N_17, rfl⟩
     ·have hv_20 := hv_16.trans (if_neg hc32__18)
      refine o_icmpNo X_17 hq d24_32 (flt hc32__18).1 (o_aloadN X_17 hq d24_35 rfl rfl (o_iload X_17 hq d24_36 rfl ?_))
      refine c_U1 X_17 hq e_17 hZ hown hml (k24_100U1 hw) (rm11 hw a1 (3 : Int32) b k1 N vs d1 w sfv f h0 n0 Z0 E_s F_v F_c V_s S1 hw0 hat hf S2 hsf (by decide) (own_ltN (e := (4 : Int32)) (by decide) hN)) E_s d24_38 ?_ 0
      rintro T_21 L_21 _ X_21 ⟨⟨⟩, Nq_21, e_21⟩
      have N_21 := Fr.app N_17 Nq_21
      refine o_bipush X_21 hq 57 d24_41 rfl ?_
      by_cases hc43__22 : (57 : Int32) < (f (3 : Int32))
      ·have hv_23 := hv_20.trans (if_pos hc43__22)
       refine o_icmpYes X_21 hq (pc' := 50) d24_43 (tlt hc43__22).2.2.1 (o_iconst X_21 hq 0 d24_50 rfl (o_istoreN X_21 hq d24_51 (l' := #[rv a1, iv 1, iv 4, iv 0, iv 3]) rfl (o_iinc X_21 hq d24_52 rfl (l' := #[rv a1, iv 1, iv 4, iv 0, iv 4]) rfl (o_goto X_21 hq (pc' := 14) d24_55 (o_iloadN X_21 hq d24_14 rfl (o_ifYes X_21 hq (pc' := 58) d24_15 (by decide) (o_iloadN X_21 hq d24_58 rfl ?_)))))))
       exact e_Z X_21 e_21 hq hlk hrt d24_59 ⟨(congrArg (fun z => some (Value.int z)) hv_23.symm), N_21, rfl⟩
      ·have hv_24 := hv_20.trans (if_neg hc43__22)
       refine o_icmpNo X_21 hq d24_43 (flt hc43__22).2.2.1 (o_iconst X_21 hq 1 d24_46 rfl (o_goto X_21 hq (pc' := 51) d24_47 (o_istoreN X_21 hq d24_51 (l' := #[rv a1, iv 1, iv 4, iv 1, iv 3]) rfl (o_iinc X_21 hq d24_52 rfl (l' := #[rv a1, iv 1, iv 4, iv 1, iv 4]) rfl (o_goto X_21 hq (pc' := 14) d24_55 (o_iloadN X_21 hq d24_14 rfl (o_ifNo X_21 hq d24_15 (by decide) (o_iload X_21 hq d24_18 rfl (o_iloadN X_21 hq d24_20 rfl (o_icmpYes X_21 hq (pc' := 58) d24_21 (by decide) (o_iloadN X_21 hq d24_58 rfl ?_)))))))))))
       exact e_Z X_21 e_21 hq hlk hrt d24_59 ⟨(congrArg (fun z => some (Value.int z)) hv_24.symm), N_21, rfl⟩
def own_dg_2_4 (f : Int32 → Int32) : Int32 := (if (f (2 : Int32)) < (48 : Int32) then (0 : Int32) else (if (57 : Int32) < (f (2 : Int32)) then (0 : Int32) else (if (f (3 : Int32)) < (48 : Int32) then (0 : Int32) else (if (57 : Int32) < (f (3 : Int32)) then (0 : Int32) else (1 : Int32)))))
def Q_rmdg2_4 (Z : State) (a0 : Array Value) (a1 b : Addr) (k1 : ClassId) (N : Int32) (vs : List Value) (d1 : Value) (w : Int32) (sfv : Value) (f : Int32 → Int32) (h0 : Heap) (n0 : Nat) (v : Option Value) (h : Heap) (L : List Loc) : Prop := v = some (.int (own_dg_2_4 f)) ∧ Fr n0 L ∧ h = h0
theorem rmdg2_4 (hw : HW a0 Z) (a1 b : Addr) (k1 : ClassId) (N : Int32) (vs : List Value) (d1 : Value) (w : Int32) (sfv : Value) (f : Int32 → Int32) (h0 : Heap) (n0 : Nat) (Z0 : n0 ≤ h0.size) (E_s : Exa Z h0 a1 "java/lang/String") (F_v : Fld Z h0 a1 "java/lang/String" "value" "[B" (.ref b)) (F_c : Fld Z h0 a1 "java/lang/String" "coder" "B" (.int (0 : Int32))) (V_s : Arv Z h0 b k1 .byte N vs d1) (S1 : Sta Z h0 "java/lang/String" "COMPACT_STRINGS" "Z" (.int w)) (hw0 : ¬ w = (0 : Int32)) (hat : ∀ i : Int32, ¬ i < 0 → i < N → vs.getD i.toNatClampNeg d1 = .int (((f i).toInt8.toInt32).toInt8.toInt32)) (hf : ∀ i : Int32, ¬ (255 : Int32) < f i ∧ ¬ f i < 0) (S2 : Sta Z h0 "jdk/internal/util/Preconditions" "SIOOBE_FORMATTER" "Ljava/util/function/BiFunction;" sfv) (hsf : sfv.isRef = true) (hN : ¬ N < (4 : Int32)) :
  own_Met l y0_ prog_24_method_6_code 5 (some .boolean) (R_ 4 0 0 53) #[(.ref a1), (.int (2 : Int32)), (.int (4 : Int32))] Z h0 (Q_rmdg2_4 Z a0 a1 b k1 N vs d1 w sfv f h0 n0) := by
 refine own_bd (own := "com/example/nimble_anonymizer/nimbleanonymizer/NumericColumn") rfl (plainFor_of_name pn_9) #[rv a1, iv 2, iv 4, .unset, .unset] ?_
 intro p e s m below meth c s₁ hx hby hq hml hown hnm hlk hrt hZ X0 e0
 have hv : own_dg_2_4 f = (if (f (2 : Int32)) < (48 : Int32) then (0 : Int32) else (if (57 : Int32) < (f (2 : Int32)) then (0 : Int32) else (if (f (3 : Int32)) < (48 : Int32) then (0 : Int32) else (if (57 : Int32) < (f (3 : Int32)) then (0 : Int32) else (1 : Int32))))) := rfl
 show own_Go _ _ _ _ (s₁.setTop (mkF m 0 #[rv a1, iv 2, iv 4, .unset, .unset] []))
 refine o_iloadN X0 hq d24_0 rfl (o_iloadN X0 hq d24_1 rfl (o_icmpNo X0 hq d24_2 (by decide) (o_iconst X0 hq 1 d24_5 rfl (o_goto X0 hq (pc' := 10) d24_6 (o_istoreN X0 hq d24_10 (l' := #[rv a1, iv 2, iv 4, iv 1, .unset]) rfl (o_iloadN X0 hq d24_11 rfl (o_istore X0 hq d24_12 (l' := #[rv a1, iv 2, iv 4, iv 1, iv 2]) rfl (o_iloadN X0 hq d24_14 rfl (o_ifNo X0 hq d24_15 (by decide) (o_iload X0 hq d24_18 rfl (o_iloadN X0 hq d24_20 rfl (o_icmpNo X0 hq d24_21 (by decide) (o_aloadN X0 hq d24_24 rfl rfl (o_iload X0 hq d24_25 rfl ?_))))))))))))))
 refine c_U1 X0 hq e0 hZ hown hml (k24_100U1 hw) (rm11 hw a1 (2 : Int32) b k1 N vs d1 w sfv f h0 n0 Z0 E_s F_v F_c V_s S1 hw0 hat hf S2 hsf (by decide) (own_ltN (e := (4 : Int32)) (by decide) hN)) E_s d24_27 ?_ 0
 rintro T_1 L_1 _ X_1 ⟨⟨⟩, Nq_1, e_1⟩
 have N_1 := Fr.app (Fr.nil n0) Nq_1
 refine o_bipush X_1 hq 48 d24_30 rfl ?_
 by_cases hc32__2 : (f (2 : Int32)) < (48 : Int32)
 ·have hv_3 := hv.trans (if_pos hc32__2)
  refine o_icmpYes X_1 hq (pc' := 50) d24_32 (tlt hc32__2).1 (o_iconst X_1 hq 0 d24_50 rfl (o_istoreN X_1 hq d24_51 (l' := #[rv a1, iv 2, iv 4, iv 0, iv 2]) rfl (o_iinc X_1 hq d24_52 rfl (l' := #[rv a1, iv 2, iv 4, iv 0, iv 3]) rfl (o_goto X_1 hq (pc' := 14) d24_55 (o_iloadN X_1 hq d24_14 rfl (o_ifYes X_1 hq (pc' := 58) d24_15 (by decide) (o_iloadN X_1 hq d24_58 rfl ?_)))))))
  exact e_Z X_1 e_1 hq hlk hrt d24_59 ⟨(congrArg (fun z => some (Value.int z)) hv_3.symm), N_1, rfl⟩
 ·have hv_4 := hv.trans (if_neg hc32__2)
  refine o_icmpNo X_1 hq d24_32 (flt hc32__2).1 (o_aloadN X_1 hq d24_35 rfl rfl (o_iload X_1 hq d24_36 rfl ?_))
  refine c_U1 X_1 hq e_1 hZ hown hml (k24_100U1 hw) (rm11 hw a1 (2 : Int32) b k1 N vs d1 w sfv f h0 n0 Z0 E_s F_v F_c V_s S1 hw0 hat hf S2 hsf (by decide) (own_ltN (e := (4 : Int32)) (by decide) hN)) E_s d24_38 ?_ 0
  rintro T_5 L_5 _ X_5 ⟨⟨⟩, Nq_5, e_5⟩
  have N_5 := Fr.app N_1 Nq_5
  refine o_bipush X_5 hq 57 d24_41 rfl ?_
  by_cases hc43__6 : (57 : Int32) < (f (2 : Int32))
  ·have hv_7 := hv_4.trans (if_pos hc43__6)
   refine o_icmpYes X_5 hq (pc' := 50) d24_43 (tlt hc43__6).2.2.1 (o_iconst X_5 hq 0 d24_50 rfl (o_istoreN X_5 hq d24_51 (l' := #[rv a1, iv 2, iv 4, iv 0, iv 2]) rfl (o_iinc X_5 hq d24_52 rfl (l' := #[rv a1, iv 2, iv 4, iv 0, iv 3]) rfl (o_goto X_5 hq (pc' := 14) d24_55 (o_iloadN X_5 hq d24_14 rfl (o_ifYes X_5 hq (pc' := 58) d24_15 (by decide) (o_iloadN X_5 hq d24_58 rfl ?_)))))))
   exact e_Z X_5 e_5 hq hlk hrt d24_59 ⟨(congrArg (fun z => some (Value.int z)) hv_7.symm), N_5, rfl⟩
  ·have hv_8 := hv_4.trans (if_neg hc43__6)
   refine o_icmpNo X_5 hq d24_43 (flt hc43__6).2.2.1 (o_iconst X_5 hq 1 d24_46 rfl (o_goto X_5 hq (pc' := 51) d24_47 (o_istoreN X_5 hq d24_51 (l' := #[rv a1, iv 2, iv 4, iv 1, iv 2]) rfl (o_iinc X_5 hq d24_52 rfl (l' := #[rv a1, iv 2, iv 4, iv 1, iv 3]) rfl (o_goto X_5 hq (pc' := 14) d24_55 (o_iloadN X_5 hq d24_14 rfl (o_ifNo X_5 hq d24_15 (by decide) (o_iload X_5 hq d24_18 rfl (o_iloadN X_5 hq d24_20 rfl (o_icmpNo X_5 hq d24_21 (by decide) (o_aloadN X_5 hq d24_24 rfl rfl (o_iload X_5 hq d24_25 rfl ?_))))))))))))
   refine c_U1 X_5 hq e_5 hZ hown hml (k24_100U1 hw) (rm11 hw a1 (3 : Int32) b k1 N vs d1 w sfv f h0 n0 Z0 E_s F_v F_c V_s S1 hw0 hat hf S2 hsf (by decide) (own_ltN (e := (4 : Int32)) (by decide) hN)) E_s d24_27 ?_ 0
   rintro T_9 L_9 _ X_9 ⟨⟨⟩, Nq_9, e_9⟩
   have N_9 := Fr.app N_5 Nq_9
   refine o_bipush X_9 hq 48 d24_30 rfl ?_
   by_cases hc32__10 : (f (3 : Int32)) < (48 : Int32)
   ·have hv_11 := hv_8.trans (if_pos hc32__10)
    refine o_icmpYes X_9 hq (pc' := 50) d24_32 (tlt hc32__10).1 (o_iconst X_9 hq 0 d24_50 rfl (o_istoreN X_9 hq d24_51 (l' := #[rv a1, iv 2, iv 4, iv 0, iv 3]) rfl (o_iinc X_9 hq d24_52 rfl (l' := #[rv a1, iv 2, iv 4, iv 0, iv 4]) rfl (o_goto X_9 hq (pc' := 14) d24_55 (o_iloadN X_9 hq d24_14 rfl (o_ifYes X_9 hq (pc' := 58) d24_15 (by decide) (o_iloadN X_9 hq d24_58 rfl ?_)))))))
    exact e_Z X_9 e_9 hq hlk hrt d24_59 ⟨(congrArg (fun z => some (Value.int z)) hv_11.symm), N_9, rfl⟩
   ·have hv_12 := hv_8.trans (if_neg hc32__10)
    refine o_icmpNo X_9 hq d24_32 (flt hc32__10).1 (o_aloadN X_9 hq d24_35 rfl rfl (o_iload X_9 hq d24_36 rfl ?_))
    refine c_U1 X_9 hq e_9 hZ hown hml (k24_100U1 hw) (rm11 hw a1 (3 : Int32) b k1 N vs d1 w sfv f h0 n0 Z0 E_s F_v F_c V_s S1 hw0 hat hf S2 hsf (by decide) (own_ltN (e := (4 : Int32)) (by decide) hN)) E_s d24_38 ?_ 0
    rintro T_13 L_13 _ X_13 ⟨⟨⟩, Nq_13, e_13⟩
    have N_13 := Fr.app N_9 Nq_13
    refine o_bipush X_13 hq 57 d24_41 rfl ?_
    by_cases hc43__14 : (57 : Int32) < (f (3 : Int32))
    ·have hv_15 := hv_12.trans (if_pos hc43__14)
     refine o_icmpYes X_13 hq (pc' := 50) d24_43 (tlt hc43__14).2.2.1 (o_iconst X_13 hq 0 d24_50 rfl (o_istoreN X_13 hq d24_51 (l' := #[rv a1, iv 2, iv 4, iv 0, iv 3]) rfl (o_iinc X_13 hq d24_52 rfl (l' := #[rv a1, iv 2, iv 4, iv 0, iv 4]) rfl (o_goto X_13 hq (pc' := 14) d24_55 (o_iloadN X_13 hq d24_14 rfl (o_ifYes X_13 hq (pc' := 58) d24_15 (by decide) (o_iloadN X_13 hq d24_58 rfl ?_)))))))
     exact e_Z X_13 e_13 hq hlk hrt d24_59 ⟨(congrArg (fun z => some (Value.int z)) hv_15.symm), N_13, rfl⟩
    ·have hv_16 := hv_12.trans (if_neg hc43__14)
     refine o_icmpNo X_13 hq d24_43 (flt hc43__14).2.2.1 (o_iconst X_13 hq 1 d24_46 rfl (o_goto X_13 hq (pc' := 51) d24_47 (o_istoreN X_13 hq d24_51 (l' := #[rv a1, iv 2, iv 4, iv 1, iv 3]) rfl (o_iinc X_13 hq d24_52 rfl (l' := #[rv a1, iv 2, iv 4, iv 1, iv 4]) rfl (o_goto X_13 hq (pc' := 14) d24_55 (o_iloadN X_13 hq d24_14 rfl (o_ifNo X_13 hq d24_15 (by decide) (o_iload X_13 hq d24_18 rfl (o_iloadN X_13 hq d24_20 rfl (o_icmpYes X_13 hq (pc' := 58) d24_21 (by decide) (o_iloadN X_13 hq d24_58 rfl ?_)))))))))))
     exact e_Z X_13 e_13 hq hlk hrt d24_59 ⟨(congrArg (fun z => some (Value.int z)) hv_16.symm), N_13, rfl⟩
def own_dg_3_4 (f : Int32 → Int32) : Int32 := (if (f (3 : Int32)) < (48 : Int32) then (0 : Int32) else (if (57 : Int32) < (f (3 : Int32)) then (0 : Int32) else (1 : Int32)))
def Q_rmdg3_4 (Z : State) (a0 : Array Value) (a1 b : Addr) (k1 : ClassId) (N : Int32) (vs : List Value) (d1 : Value) (w : Int32) (sfv : Value) (f : Int32 → Int32) (h0 : Heap) (n0 : Nat) (v : Option Value) (h : Heap) (L : List Loc) : Prop := v = some (.int (own_dg_3_4 f)) ∧ Fr n0 L ∧ h = h0
theorem rmdg3_4 (hw : HW a0 Z) (a1 b : Addr) (k1 : ClassId) (N : Int32) (vs : List Value) (d1 : Value) (w : Int32) (sfv : Value) (f : Int32 → Int32) (h0 : Heap) (n0 : Nat) (Z0 : n0 ≤ h0.size) (E_s : Exa Z h0 a1 "java/lang/String") (F_v : Fld Z h0 a1 "java/lang/String" "value" "[B" (.ref b)) (F_c : Fld Z h0 a1 "java/lang/String" "coder" "B" (.int (0 : Int32))) (V_s : Arv Z h0 b k1 .byte N vs d1) (S1 : Sta Z h0 "java/lang/String" "COMPACT_STRINGS" "Z" (.int w)) (hw0 : ¬ w = (0 : Int32)) (hat : ∀ i : Int32, ¬ i < 0 → i < N → vs.getD i.toNatClampNeg d1 = .int (((f i).toInt8.toInt32).toInt8.toInt32)) (hf : ∀ i : Int32, ¬ (255 : Int32) < f i ∧ ¬ f i < 0) (S2 : Sta Z h0 "jdk/internal/util/Preconditions" "SIOOBE_FORMATTER" "Ljava/util/function/BiFunction;" sfv) (hsf : sfv.isRef = true) (hN : ¬ N < (4 : Int32)) :
  own_Met l y0_ prog_24_method_6_code 5 (some .boolean) (R_ 4 0 0 53) #[(.ref a1), (.int (3 : Int32)), (.int (4 : Int32))] Z h0 (Q_rmdg3_4 Z a0 a1 b k1 N vs d1 w sfv f h0 n0) := by
 refine own_bd (own := "com/example/nimble_anonymizer/nimbleanonymizer/NumericColumn") rfl (plainFor_of_name pn_9) #[rv a1, iv 3, iv 4, .unset, .unset] ?_
 intro p e s m below meth c s₁ hx hby hq hml hown hnm hlk hrt hZ X0 e0
 have hv : own_dg_3_4 f = (if (f (3 : Int32)) < (48 : Int32) then (0 : Int32) else (if (57 : Int32) < (f (3 : Int32)) then (0 : Int32) else (1 : Int32))) := rfl
 show own_Go _ _ _ _ (s₁.setTop (mkF m 0 #[rv a1, iv 3, iv 4, .unset, .unset] []))
 refine o_iloadN X0 hq d24_0 rfl (o_iloadN X0 hq d24_1 rfl (o_icmpNo X0 hq d24_2 (by decide) (o_iconst X0 hq 1 d24_5 rfl (o_goto X0 hq (pc' := 10) d24_6 (o_istoreN X0 hq d24_10 (l' := #[rv a1, iv 3, iv 4, iv 1, .unset]) rfl (o_iloadN X0 hq d24_11 rfl (o_istore X0 hq d24_12 (l' := #[rv a1, iv 3, iv 4, iv 1, iv 3]) rfl (o_iloadN X0 hq d24_14 rfl (o_ifNo X0 hq d24_15 (by decide) (o_iload X0 hq d24_18 rfl (o_iloadN X0 hq d24_20 rfl (o_icmpNo X0 hq d24_21 (by decide) (o_aloadN X0 hq d24_24 rfl rfl (o_iload X0 hq d24_25 rfl ?_))))))))))))))
 refine c_U1 X0 hq e0 hZ hown hml (k24_100U1 hw) (rm11 hw a1 (3 : Int32) b k1 N vs d1 w sfv f h0 n0 Z0 E_s F_v F_c V_s S1 hw0 hat hf S2 hsf (by decide) (own_ltN (e := (4 : Int32)) (by decide) hN)) E_s d24_27 ?_ 0
 rintro T_1 L_1 _ X_1 ⟨⟨⟩, Nq_1, e_1⟩
 have N_1 := Fr.app (Fr.nil n0) Nq_1
 refine o_bipush X_1 hq 48 d24_30 rfl ?_
 by_cases hc32__2 : (f (3 : Int32)) < (48 : Int32)
 ·have hv_3 := hv.trans (if_pos hc32__2)
  refine o_icmpYes X_1 hq (pc' := 50) d24_32 (tlt hc32__2).1 (o_iconst X_1 hq 0 d24_50 rfl (o_istoreN X_1 hq d24_51 (l' := #[rv a1, iv 3, iv 4, iv 0, iv 3]) rfl (o_iinc X_1 hq d24_52 rfl (l' := #[rv a1, iv 3, iv 4, iv 0, iv 4]) rfl (o_goto X_1 hq (pc' := 14) d24_55 (o_iloadN X_1 hq d24_14 rfl (o_ifYes X_1 hq (pc' := 58) d24_15 (by decide) (o_iloadN X_1 hq d24_58 rfl ?_)))))))
  exact e_Z X_1 e_1 hq hlk hrt d24_59 ⟨(congrArg (fun z => some (Value.int z)) hv_3.symm), N_1, rfl⟩
 ·have hv_4 := hv.trans (if_neg hc32__2)
  refine o_icmpNo X_1 hq d24_32 (flt hc32__2).1 (o_aloadN X_1 hq d24_35 rfl rfl (o_iload X_1 hq d24_36 rfl ?_))
  refine c_U1 X_1 hq e_1 hZ hown hml (k24_100U1 hw) (rm11 hw a1 (3 : Int32) b k1 N vs d1 w sfv f h0 n0 Z0 E_s F_v F_c V_s S1 hw0 hat hf S2 hsf (by decide) (own_ltN (e := (4 : Int32)) (by decide) hN)) E_s d24_38 ?_ 0
  rintro T_5 L_5 _ X_5 ⟨⟨⟩, Nq_5, e_5⟩
  have N_5 := Fr.app N_1 Nq_5
  refine o_bipush X_5 hq 57 d24_41 rfl ?_
  by_cases hc43__6 : (57 : Int32) < (f (3 : Int32))
  ·have hv_7 := hv_4.trans (if_pos hc43__6)
   refine o_icmpYes X_5 hq (pc' := 50) d24_43 (tlt hc43__6).2.2.1 (o_iconst X_5 hq 0 d24_50 rfl (o_istoreN X_5 hq d24_51 (l' := #[rv a1, iv 3, iv 4, iv 0, iv 3]) rfl (o_iinc X_5 hq d24_52 rfl (l' := #[rv a1, iv 3, iv 4, iv 0, iv 4]) rfl (o_goto X_5 hq (pc' := 14) d24_55 (o_iloadN X_5 hq d24_14 rfl (o_ifYes X_5 hq (pc' := 58) d24_15 (by decide) (o_iloadN X_5 hq d24_58 rfl ?_)))))))
   exact e_Z X_5 e_5 hq hlk hrt d24_59 ⟨(congrArg (fun z => some (Value.int z)) hv_7.symm), N_5, rfl⟩
  ·have hv_8 := hv_4.trans (if_neg hc43__6)
   refine o_icmpNo X_5 hq d24_43 (flt hc43__6).2.2.1 (o_iconst X_5 hq 1 d24_46 rfl (o_goto X_5 hq (pc' := 51) d24_47 (o_istoreN X_5 hq d24_51 (l' := #[rv a1, iv 3, iv 4, iv 1, iv 3]) rfl (o_iinc X_5 hq d24_52 rfl (l' := #[rv a1, iv 3, iv 4, iv 1, iv 4]) rfl (o_goto X_5 hq (pc' := 14) d24_55 (o_iloadN X_5 hq d24_14 rfl (o_ifNo X_5 hq d24_15 (by decide) (o_iload X_5 hq d24_18 rfl (o_iloadN X_5 hq d24_20 rfl (o_icmpYes X_5 hq (pc' := 58) d24_21 (by decide) (o_iloadN X_5 hq d24_58 rfl ?_)))))))))))
   exact e_Z X_5 e_5 hq hlk hrt d24_59 ⟨(congrArg (fun z => some (Value.int z)) hv_8.symm), N_5, rfl⟩
def Q_rmdg4_4 (Z : State) (a0 : Array Value) (a1 : Addr) (h0 : Heap) (n0 : Nat) (v : Option Value) (h : Heap) (L : List Loc) : Prop := v = some (.int (0 : Int32)) ∧ Fr n0 L ∧ h = h0
theorem rmdg4_4 (hw : HW a0 Z) (a1 : Addr) (h0 : Heap) (n0 : Nat) (Z0 : n0 ≤ h0.size) :
  own_Met l y0_ prog_24_method_6_code 5 (some .boolean) (R_ 0 0 0 0) #[(.ref a1), (.int (4 : Int32)), (.int (4 : Int32))] Z h0 (Q_rmdg4_4 Z a0 a1 h0 n0) := by
 refine own_bd (own := "com/example/nimble_anonymizer/nimbleanonymizer/NumericColumn") rfl (plainFor_of_name pn_9) #[rv a1, iv 4, iv 4, .unset, .unset] ?_
 intro p e s m below meth c s₁ hx hby hq hml hown hnm hlk hrt hZ X0 e0
 refine o_iloadN X0 hq d24_0 rfl (o_iloadN X0 hq d24_1 rfl (o_icmpYes X0 hq (pc' := 9) d24_2 (by decide) (o_iconst X0 hq 0 d24_9 rfl (o_istoreN X0 hq d24_10 (l' := #[rv a1, iv 4, iv 4, iv 0, .unset]) rfl (o_iloadN X0 hq d24_11 rfl (o_istore X0 hq d24_12 (l' := #[rv a1, iv 4, iv 4, iv 0, iv 4]) rfl (o_iloadN X0 hq d24_14 rfl (o_ifYes X0 hq (pc' := 58) d24_15 (by decide) (o_iloadN X0 hq d24_58 rfl ?_)))))))))
 exact e_Z X0 e0 hq hlk hrt d24_59 ⟨rfl, (Fr.nil n0), rfl⟩
def own_dg_0_5 (f : Int32 → Int32) : Int32 := (if (f (0 : Int32)) < (48 : Int32) then (0 : Int32) else (if (57 : Int32) < (f (0 : Int32)) then (0 : Int32) else (if (f (1 : Int32)) < (48 : Int32) then (0 : Int32) else (if (57 : Int32) < (f (1 : Int32)) then (0 : Int32) else (if (f (2 : Int32)) < (48 : Int32) then (0 : Int32) else (if (57 : Int32) < (f (2 : Int32)) then (0 : Int32) else (if (f (3 : Int32)) < (48 : Int32) then (0 : Int32) else (if (57 : Int32) < (f (3 : Int32)) then (0 : Int32) else (if (f (4 : Int32)) < (48 : Int32) then (0 : Int32) else (if (57 : Int32) < (f (4 : Int32)) then (0 : Int32) else (1 : Int32)))))))))))
def Q_rmdg0_5 (Z : State) (a0 : Array Value) (a1 b : Addr) (k1 : ClassId) (N : Int32) (vs : List Value) (d1 : Value) (w : Int32) (sfv : Value) (f : Int32 → Int32) (h0 : Heap) (n0 : Nat) (v : Option Value) (h : Heap) (L : List Loc) : Prop := v = some (.int (own_dg_0_5 f)) ∧ Fr n0 L ∧ h = h0
theorem rmdg0_5 (hw : HW a0 Z) (a1 b : Addr) (k1 : ClassId) (N : Int32) (vs : List Value) (d1 : Value) (w : Int32) (sfv : Value) (f : Int32 → Int32) (h0 : Heap) (n0 : Nat) (Z0 : n0 ≤ h0.size) (E_s : Exa Z h0 a1 "java/lang/String") (F_v : Fld Z h0 a1 "java/lang/String" "value" "[B" (.ref b)) (F_c : Fld Z h0 a1 "java/lang/String" "coder" "B" (.int (0 : Int32))) (V_s : Arv Z h0 b k1 .byte N vs d1) (S1 : Sta Z h0 "java/lang/String" "COMPACT_STRINGS" "Z" (.int w)) (hw0 : ¬ w = (0 : Int32)) (hat : ∀ i : Int32, ¬ i < 0 → i < N → vs.getD i.toNatClampNeg d1 = .int (((f i).toInt8.toInt32).toInt8.toInt32)) (hf : ∀ i : Int32, ¬ (255 : Int32) < f i ∧ ¬ f i < 0) (S2 : Sta Z h0 "jdk/internal/util/Preconditions" "SIOOBE_FORMATTER" "Ljava/util/function/BiFunction;" sfv) (hsf : sfv.isRef = true) (hN : ¬ N < (5 : Int32)) :
  own_Met l y0_ prog_24_method_6_code 5 (some .boolean) (R_ 4 0 0 53) #[(.ref a1), (.int (0 : Int32)), (.int (5 : Int32))] Z h0 (Q_rmdg0_5 Z a0 a1 b k1 N vs d1 w sfv f h0 n0) := by
 refine own_bd (own := "com/example/nimble_anonymizer/nimbleanonymizer/NumericColumn") rfl (plainFor_of_name pn_9) #[rv a1, iv 0, iv 5, .unset, .unset] ?_
 intro p e s m below meth c s₁ hx hby hq hml hown hnm hlk hrt hZ X0 e0
 have hv : own_dg_0_5 f = (if (f (0 : Int32)) < (48 : Int32) then (0 : Int32) else (if (57 : Int32) < (f (0 : Int32)) then (0 : Int32) else (if (f (1 : Int32)) < (48 : Int32) then (0 : Int32) else (if (57 : Int32) < (f (1 : Int32)) then (0 : Int32) else (if (f (2 : Int32)) < (48 : Int32) then (0 : Int32) else (if (57 : Int32) < (f (2 : Int32)) then (0 : Int32) else (if (f (3 : Int32)) < (48 : Int32) then (0 : Int32) else (if (57 : Int32) < (f (3 : Int32)) then (0 : Int32) else (if (f (4 : Int32)) < (48 : Int32) then (0 : Int32) else (if (57 : Int32) < (f (4 : Int32)) then (0 : Int32) else (1 : Int32))))))))))) := rfl
 show own_Go _ _ _ _ (s₁.setTop (mkF m 0 #[rv a1, iv 0, iv 5, .unset, .unset] []))
 refine o_iloadN X0 hq d24_0 rfl (o_iloadN X0 hq d24_1 rfl (o_icmpNo X0 hq d24_2 (by decide) (o_iconst X0 hq 1 d24_5 rfl (o_goto X0 hq (pc' := 10) d24_6 (o_istoreN X0 hq d24_10 (l' := #[rv a1, iv 0, iv 5, iv 1, .unset]) rfl (o_iloadN X0 hq d24_11 rfl (o_istore X0 hq d24_12 (l' := #[rv a1, iv 0, iv 5, iv 1, iv 0]) rfl (o_iloadN X0 hq d24_14 rfl (o_ifNo X0 hq d24_15 (by decide) (o_iload X0 hq d24_18 rfl (o_iloadN X0 hq d24_20 rfl (o_icmpNo X0 hq d24_21 (by decide) (o_aloadN X0 hq d24_24 rfl rfl (o_iload X0 hq d24_25 rfl ?_))))))))))))))
 refine c_U1 X0 hq e0 hZ hown hml (k24_100U1 hw) (rm11 hw a1 (0 : Int32) b k1 N vs d1 w sfv f h0 n0 Z0 E_s F_v F_c V_s S1 hw0 hat hf S2 hsf (by decide) (own_ltN (e := (5 : Int32)) (by decide) hN)) E_s d24_27 ?_ 0
 rintro T_1 L_1 _ X_1 ⟨⟨⟩, Nq_1, e_1⟩
 have N_1 := Fr.app (Fr.nil n0) Nq_1
 refine o_bipush X_1 hq 48 d24_30 rfl ?_
 by_cases hc32__2 : (f (0 : Int32)) < (48 : Int32)
 ·have hv_3 := hv.trans (if_pos hc32__2)
  refine o_icmpYes X_1 hq (pc' := 50) d24_32 (tlt hc32__2).1 (o_iconst X_1 hq 0 d24_50 rfl (o_istoreN X_1 hq d24_51 (l' := #[rv a1, iv 0, iv 5, iv 0, iv 0]) rfl (o_iinc X_1 hq d24_52 rfl (l' := #[rv a1, iv 0, iv 5, iv 0, iv 1]) rfl (o_goto X_1 hq (pc' := 14) d24_55 (o_iloadN X_1 hq d24_14 rfl (o_ifYes X_1 hq (pc' := 58) d24_15 (by decide) (o_iloadN X_1 hq d24_58 rfl ?_)))))))
  exact e_Z X_1 e_1 hq hlk hrt d24_59 ⟨(congrArg (fun z => some (Value.int z)) hv_3.symm), N_1, rfl⟩
 ·have hv_4 := hv.trans (if_neg hc32__2)
  refine o_icmpNo X_1 hq d24_32 (flt hc32__2).1 (o_aloadN X_1 hq d24_35 rfl rfl (o_iload X_1 hq d24_36 rfl ?_))
  refine c_U1 X_1 hq e_1 hZ hown hml (k24_100U1 hw) (rm11 hw a1 (0 : Int32) b k1 N vs d1 w sfv f h0 n0 Z0 E_s F_v F_c V_s S1 hw0 hat hf S2 hsf (by decide) (own_ltN (e := (5 : Int32)) (by decide) hN)) E_s d24_38 ?_ 0
  rintro T_5 L_5 _ X_5 ⟨⟨⟩, Nq_5, e_5⟩
  have N_5 := Fr.app N_1 Nq_5
  refine o_bipush X_5 hq 57 d24_41 rfl ?_
  by_cases hc43__6 : (57 : Int32) < (f (0 : Int32))
  ·have hv_7 := hv_4.trans (if_pos hc43__6)
   refine o_icmpYes X_5 hq (pc' := 50) d24_43 (tlt hc43__6).2.2.1 (o_iconst X_5 hq 0 d24_50 rfl (o_istoreN X_5 hq d24_51 (l' := #[rv a1, iv 0, iv 5, iv 0, iv 0]) rfl (o_iinc X_5 hq d24_52 rfl (l' := #[rv a1, iv 0, iv 5, iv 0, iv 1]) rfl (o_goto X_5 hq (pc' := 14) d24_55 (o_iloadN X_5 hq d24_14 rfl (o_ifYes X_5 hq (pc' := 58) d24_15 (by decide) (o_iloadN X_5 hq d24_58 rfl ?_)))))))
   exact e_Z X_5 e_5 hq hlk hrt d24_59 ⟨(congrArg (fun z => some (Value.int z)) hv_7.symm), N_5, rfl⟩
  ·have hv_8 := hv_4.trans (if_neg hc43__6)
   refine o_icmpNo X_5 hq d24_43 (flt hc43__6).2.2.1 (o_iconst X_5 hq 1 d24_46 rfl (o_goto X_5 hq (pc' := 51) d24_47 (o_istoreN X_5 hq d24_51 (l' := #[rv a1, iv 0, iv 5, iv 1, iv 0]) rfl (o_iinc X_5 hq d24_52 rfl (l' := #[rv a1, iv 0, iv 5, iv 1, iv 1]) rfl (o_goto X_5 hq (pc' := 14) d24_55 (o_iloadN X_5 hq d24_14 rfl (o_ifNo X_5 hq d24_15 (by decide) (o_iload X_5 hq d24_18 rfl (o_iloadN X_5 hq d24_20 rfl (o_icmpNo X_5 hq d24_21 (by decide) (o_aloadN X_5 hq d24_24 rfl rfl (o_iload X_5 hq d24_25 rfl ?_))))))))))))
   refine c_U1 X_5 hq e_5 hZ hown hml (k24_100U1 hw) (rm11 hw a1 (1 : Int32) b k1 N vs d1 w sfv f h0 n0 Z0 E_s F_v F_c V_s S1 hw0 hat hf S2 hsf (by decide) (own_ltN (e := (5 : Int32)) (by decide) hN)) E_s d24_27 ?_ 0
   rintro T_9 L_9 _ X_9 ⟨⟨⟩, Nq_9, e_9⟩
   have N_9 := Fr.app N_5 Nq_9
   refine o_bipush X_9 hq 48 d24_30 rfl ?_
   by_cases hc32__10 : (f (1 : Int32)) < (48 : Int32)
   ·have hv_11 := hv_8.trans (if_pos hc32__10)
    refine o_icmpYes X_9 hq (pc' := 50) d24_32 (tlt hc32__10).1 (o_iconst X_9 hq 0 d24_50 rfl (o_istoreN X_9 hq d24_51 (l' := #[rv a1, iv 0, iv 5, iv 0, iv 1]) rfl (o_iinc X_9 hq d24_52 rfl (l' := #[rv a1, iv 0, iv 5, iv 0, iv 2]) rfl (o_goto X_9 hq (pc' := 14) d24_55 (o_iloadN X_9 hq d24_14 rfl (o_ifYes X_9 hq (pc' := 58) d24_15 (by decide) (o_iloadN X_9 hq d24_58 rfl ?_)))))))
    exact e_Z X_9 e_9 hq hlk hrt d24_59 ⟨(congrArg (fun z => some (Value.int z)) hv_11.symm), N_9, rfl⟩
   ·have hv_12 := hv_8.trans (if_neg hc32__10)
    refine o_icmpNo X_9 hq d24_32 (flt hc32__10).1 (o_aloadN X_9 hq d24_35 rfl rfl (o_iload X_9 hq d24_36 rfl ?_))
    refine c_U1 X_9 hq e_9 hZ hown hml (k24_100U1 hw) (rm11 hw a1 (1 : Int32) b k1 N vs d1 w sfv f h0 n0 Z0 E_s F_v F_c V_s S1 hw0 hat hf S2 hsf (by decide) (own_ltN (e := (5 : Int32)) (by decide) hN)) E_s d24_38 ?_ 0
    rintro T_13 L_13 _ X_13 ⟨⟨⟩, Nq_13, e_13⟩
    have N_13 := Fr.app N_9 Nq_13
    refine o_bipush X_13 hq 57 d24_41 rfl ?_
    by_cases hc43__14 : (57 : Int32) < (f (1 : Int32))
    ·have hv_15 := hv_12.trans (if_pos hc43__14)
     refine o_icmpYes X_13 hq (pc' := 50) d24_43 (tlt hc43__14).2.2.1 (o_iconst X_13 hq 0 d24_50 rfl (o_istoreN X_13 hq d24_51 (l' := #[rv a1, iv 0, iv 5, iv 0, iv 1]) rfl (o_iinc X_13 hq d24_52 rfl (l' := #[rv a1, iv 0, iv 5, iv 0, iv 2]) rfl (o_goto X_13 hq (pc' := 14) d24_55 (o_iloadN X_13 hq d24_14 rfl (o_ifYes X_13 hq (pc' := 58) d24_15 (by decide) (o_iloadN X_13 hq d24_58 rfl ?_)))))))
     exact e_Z X_13 e_13 hq hlk hrt d24_59 ⟨(congrArg (fun z => some (Value.int z)) hv_15.symm), N_13, rfl⟩
    ·have hv_16 := hv_12.trans (if_neg hc43__14)
     refine o_icmpNo X_13 hq d24_43 (flt hc43__14).2.2.1 (o_iconst X_13 hq 1 d24_46 rfl (o_goto X_13 hq (pc' := 51) d24_47 (o_istoreN X_13 hq d24_51 (l' := #[rv a1, iv 0, iv 5, iv 1, iv 1]) rfl (o_iinc X_13 hq d24_52 rfl (l' := #[rv a1, iv 0, iv 5, iv 1, iv 2]) rfl (o_goto X_13 hq (pc' := 14) d24_55 (o_iloadN X_13 hq d24_14 rfl (o_ifNo X_13 hq d24_15 (by decide) (o_iload X_13 hq d24_18 rfl (o_iloadN X_13 hq d24_20 rfl (o_icmpNo X_13 hq d24_21 (by decide) (o_aloadN X_13 hq d24_24 rfl rfl (o_iload X_13 hq d24_25 rfl ?_))))))))))))
     refine c_U1 X_13 hq e_13 hZ hown hml (k24_100U1 hw) (rm11 hw a1 (2 : Int32) b k1 N vs d1 w sfv f h0 n0 Z0 E_s F_v F_c V_s S1 hw0 hat hf S2 hsf (by decide) (own_ltN (e := (5 : Int32)) (by decide) hN)) E_s d24_27 ?_ 0
     rintro T_17 L_17 _ X_17 ⟨⟨⟩, Nq_17, e_17⟩
     have N_17 := Fr.app N_13 Nq_17
     refine o_bipush X_17 hq 48 d24_30 rfl ?_
     by_cases hc32__18 : (f (2 : Int32)) < (48 : Int32)
     ·have hv_19 := hv_16.trans (if_pos hc32__18)
      refine o_icmpYes X_17 hq (pc' := 50) d24_32 (tlt hc32__18).1 (o_iconst X_17 hq 0 d24_50 rfl (o_istoreN X_17 hq d24_51 (l' := #[rv a1, iv 0, iv 5, iv 0, iv 2]) rfl (o_iinc X_17 hq d24_52 rfl (l' := #[rv a1, iv 0, iv 5, iv 0, iv 3]) rfl (o_goto X_17 hq (pc' := 14) d24_55 (o_iloadN X_17 hq d24_14 rfl (o_ifYes X_17 hq (pc' := 58) d24_15 (by decide) (o_iloadN X_17 hq d24_58 rfl ?_)))))))
      exact e_Z X_17 e_17 hq hlk hrt d24_59 ⟨(congrArg (fun z => some (Value.int z)) hv_19.symm), N_17, rfl⟩
     ·have hv_20 := hv_16.trans (if_neg hc32__18)
      refine o_icmpNo X_17 hq d24_32 (flt hc32__18).1 (o_aloadN X_17 hq d24_35 rfl rfl (o_iload X_17 hq d24_36 rfl ?_))
      refine c_U1 X_17 hq e_17 hZ hown hml (k24_100U1 hw) (rm11 hw a1 (2 : Int32) b k1 N vs d1 w sfv f h0 n0 Z0 E_s F_v F_c V_s S1 hw0 hat hf S2 hsf (by decide) (own_ltN (e := (5 : Int32)) (by decide) hN)) E_s d24_38 ?_ 0
      rintro T_21 L_21 _ X_21 ⟨⟨⟩, Nq_21, e_21⟩
      have N_21 := Fr.app N_17 Nq_21
      refine o_bipush X_21 hq 57 d24_41 rfl ?_
      by_cases hc43__22 : (57 : Int32) < (f (2 : Int32))
      ·have hv_23 := hv_20.trans (if_pos hc43__22)
       refine o_icmpYes X_21 hq (pc' := 50) d24_43 (tlt hc43__22).2.2.1 (o_iconst X_21 hq 0 d24_50 rfl (o_istoreN X_21 hq d24_51 (l' := #[rv a1, iv 0, iv 5, iv 0, iv 2]) rfl (o_iinc X_21 hq d24_52 rfl (l' := #[rv a1, iv 0, iv 5, iv 0, iv 3]) rfl (o_goto X_21 hq (pc' := 14) d24_55 (o_iloadN X_21 hq d24_14 rfl (o_ifYes X_21 hq (pc' := 58) d24_15 (by decide) (o_iloadN X_21 hq d24_58 rfl ?_)))))))
       exact e_Z X_21 e_21 hq hlk hrt d24_59 ⟨(congrArg (fun z => some (Value.int z)) hv_23.symm), N_21, rfl⟩
      ·have hv_24 := hv_20.trans (if_neg hc43__22)
       refine o_icmpNo X_21 hq d24_43 (flt hc43__22).2.2.1 (o_iconst X_21 hq 1 d24_46 rfl (o_goto X_21 hq (pc' := 51) d24_47 (o_istoreN X_21 hq d24_51 (l' := #[rv a1, iv 0, iv 5, iv 1, iv 2]) rfl (o_iinc X_21 hq d24_52 rfl (l' := #[rv a1, iv 0, iv 5, iv 1, iv 3]) rfl (o_goto X_21 hq (pc' := 14) d24_55 (o_iloadN X_21 hq d24_14 rfl (o_ifNo X_21 hq d24_15 (by decide) (o_iload X_21 hq d24_18 rfl (o_iloadN X_21 hq d24_20 rfl (o_icmpNo X_21 hq d24_21 (by decide) (o_aloadN X_21 hq d24_24 rfl rfl (o_iload X_21 hq d24_25 rfl ?_))))))))))))
       refine c_U1 X_21 hq e_21 hZ hown hml (k24_100U1 hw) (rm11 hw a1 (3 : Int32) b k1 N vs d1 w sfv f h0 n0 Z0 E_s F_v F_c V_s S1 hw0 hat hf S2 hsf (by decide) (own_ltN (e := (5 : Int32)) (by decide) hN)) E_s d24_27 ?_ 0
       rintro T_25 L_25 _ X_25 ⟨⟨⟩, Nq_25, e_25⟩
       have N_25 := Fr.app N_21 Nq_25
       refine o_bipush X_25 hq 48 d24_30 rfl ?_
       by_cases hc32__26 : (f (3 : Int32)) < (48 : Int32)
       ·have hv_27 := hv_24.trans (if_pos hc32__26)
        refine o_icmpYes X_25 hq (pc' := 50) d24_32 (tlt hc32__26).1 (o_iconst X_25 hq 0 d24_50 rfl (o_istoreN X_25 hq d24_51 (l' := #[rv a1, iv 0, iv 5, iv 0, iv 3]) rfl (o_iinc X_25 hq d24_52 rfl (l' := #[rv a1, iv 0, iv 5, iv 0, iv 4]) rfl (o_goto X_25 hq (pc' := 14) d24_55 (o_iloadN X_25 hq d24_14 rfl (o_ifYes X_25 hq (pc' := 58) d24_15 (by decide) (o_iloadN X_25 hq d24_58 rfl ?_)))))))
        exact e_Z X_25 e_25 hq hlk hrt d24_59 ⟨(congrArg (fun z => some (Value.int z)) hv_27.symm), N_25, rfl⟩
       ·have hv_28 := hv_24.trans (if_neg hc32__26)
        refine o_icmpNo X_25 hq d24_32 (flt hc32__26).1 (o_aloadN X_25 hq d24_35 rfl rfl (o_iload X_25 hq d24_36 rfl ?_))
        refine c_U1 X_25 hq e_25 hZ hown hml (k24_100U1 hw) (rm11 hw a1 (3 : Int32) b k1 N vs d1 w sfv f h0 n0 Z0 E_s F_v F_c V_s S1 hw0 hat hf S2 hsf (by decide) (own_ltN (e := (5 : Int32)) (by decide) hN)) E_s d24_38 ?_ 0
        rintro T_29 L_29 _ X_29 ⟨⟨⟩, Nq_29, e_29⟩
        have N_29 := Fr.app N_25 Nq_29
        refine o_bipush X_29 hq 57 d24_41 rfl ?_
        by_cases hc43__30 : (57 : Int32) < (f (3 : Int32))
        ·have hv_31 := hv_28.trans (if_pos hc43__30)
         refine o_icmpYes X_29 hq (pc' := 50) d24_43 (tlt hc43__30).2.2.1 (o_iconst X_29 hq 0 d24_50 rfl (o_istoreN X_29 hq d24_51 (l' := #[rv a1, iv 0, iv 5, iv 0, iv 3]) rfl (o_iinc X_29 hq d24_52 rfl (l' := #[rv a1, iv 0, iv 5, iv 0, iv 4]) rfl (o_goto X_29 hq (pc' := 14) d24_55 (o_iloadN X_29 hq d24_14 rfl (o_ifYes X_29 hq (pc' := 58) d24_15 (by decide) (o_iloadN X_29 hq d24_58 rfl ?_)))))))
         exact e_Z X_29 e_29 hq hlk hrt d24_59 ⟨(congrArg (fun z => some (Value.int z)) hv_31.symm), N_29, rfl⟩
        ·have hv_32 := hv_28.trans (if_neg hc43__30)
         refine o_icmpNo X_29 hq d24_43 (flt hc43__30).2.2.1 (o_iconst X_29 hq 1 d24_46 rfl (o_goto X_29 hq (pc' := 51) d24_47 (o_istoreN X_29 hq d24_51 (l' := #[rv a1, iv 0, iv 5, iv 1, iv 3]) rfl (o_iinc X_29 hq d24_52 rfl (l' := #[rv a1, iv 0, iv 5, iv 1, iv 4]) rfl (o_goto X_29 hq (pc' := 14) d24_55 (o_iloadN X_29 hq d24_14 rfl (o_ifNo X_29 hq d24_15 (by decide) (o_iload X_29 hq d24_18 rfl (o_iloadN X_29 hq d24_20 rfl (o_icmpNo X_29 hq d24_21 (by decide) (o_aloadN X_29 hq d24_24 rfl rfl (o_iload X_29 hq d24_25 rfl ?_))))))))))))
         refine c_U1 X_29 hq e_29 hZ hown hml (k24_100U1 hw) (rm11 hw a1 (4 : Int32) b k1 N vs d1 w sfv f h0 n0 Z0 E_s F_v F_c V_s S1 hw0 hat hf S2 hsf (by decide) (own_ltN (e := (5 : Int32)) (by decide) hN)) E_s d24_27 ?_ 0
         rintro T_33 L_33 _ X_33 ⟨⟨⟩, Nq_33, e_33⟩
         have N_33 := Fr.app N_29 Nq_33
         refine o_bipush X_33 hq 48 d24_30 rfl ?_
         by_cases hc32__34 : (f (4 : Int32)) < (48 : Int32)
         ·have hv_35 := hv_32.trans (if_pos hc32__34)
          refine o_icmpYes X_33 hq (pc' := 50) d24_32 (tlt hc32__34).1 (o_iconst X_33 hq 0 d24_50 rfl (o_istoreN X_33 hq d24_51 (l' := #[rv a1, iv 0, iv 5, iv 0, iv 4]) rfl (o_iinc X_33 hq d24_52 rfl (l' := #[rv a1, iv 0, iv 5, iv 0, iv 5]) rfl (o_goto X_33 hq (pc' := 14) d24_55 (o_iloadN X_33 hq d24_14 rfl (o_ifYes X_33 hq (pc' := 58) d24_15 (by decide) (o_iloadN X_33 hq d24_58 rfl ?_)))))))
          exact e_Z X_33 e_33 hq hlk hrt d24_59 ⟨(congrArg (fun z => some (Value.int z)) hv_35.symm), N_33, rfl⟩
         ·have hv_36 := hv_32.trans (if_neg hc32__34)
          refine o_icmpNo X_33 hq d24_32 (flt hc32__34).1 (o_aloadN X_33 hq d24_35 rfl rfl (o_iload X_33 hq d24_36 rfl ?_))
          refine c_U1 X_33 hq e_33 hZ hown hml (k24_100U1 hw) (rm11 hw a1 (4 : Int32) b k1 N vs d1 w sfv f h0 n0 Z0 E_s F_v F_c V_s S1 hw0 hat hf S2 hsf (by decide) (own_ltN (e := (5 : Int32)) (by decide) hN)) E_s d24_38 ?_ 0
          rintro T_37 L_37 _ X_37 ⟨⟨⟩, Nq_37, e_37⟩
          have N_37 := Fr.app N_33 Nq_37
          refine o_bipush X_37 hq 57 d24_41 rfl ?_
          by_cases hc43__38 : (57 : Int32) < (f (4 : Int32))
          ·have hv_39 := hv_36.trans (if_pos hc43__38)
           refine o_icmpYes X_37 hq (pc' := 50) d24_43 (tlt hc43__38).2.2.1 (o_iconst X_37 hq 0 d24_50 rfl (o_istoreN X_37 hq d24_51 (l' := #[rv a1, iv 0, iv 5, iv 0, iv 4]) rfl (o_iinc X_37 hq d24_52 rfl (l' := #[rv a1, iv 0, iv 5, iv 0, iv 5]) rfl (o_goto X_37 hq (pc' := 14) d24_55 (o_iloadN X_37 hq d24_14 rfl (o_ifYes X_37 hq (pc' := 58) d24_15 (by decide) (o_iloadN X_37 hq d24_58 rfl ?_)))))))
           exact e_Z X_37 e_37 hq hlk hrt d24_59 ⟨(congrArg (fun z => some (Value.int z)) hv_39.symm), N_37, rfl⟩
          ·have hv_40 := hv_36.trans (if_neg hc43__38)
           refine o_icmpNo X_37 hq d24_43 (flt hc43__38).2.2.1 (o_iconst X_37 hq 1 d24_46 rfl (o_goto X_37 hq (pc' := 51) d24_47 (o_istoreN X_37 hq d24_51 (l' := #[rv a1, iv 0, iv 5, iv 1, iv 4]) rfl (o_iinc X_37 hq d24_52 rfl (l' := #[rv a1, iv 0, iv 5, iv 1, iv 5]) rfl (o_goto X_37 hq (pc' := 14) d24_55 (o_iloadN X_37 hq d24_14 rfl (o_ifNo X_37 hq d24_15 (by decide) (o_iload X_37 hq d24_18 rfl (o_iloadN X_37 hq d24_20 rfl (o_icmpYes X_37 hq (pc' := 58) d24_21 (by decide) (o_iloadN X_37 hq d24_58 rfl ?_)))))))))))
           exact e_Z X_37 e_37 hq hlk hrt d24_59 ⟨(congrArg (fun z => some (Value.int z)) hv_40.symm), N_37, rfl⟩
def own_dg_1_5 (f : Int32 → Int32) : Int32 := (if (f (1 : Int32)) < (48 : Int32) then (0 : Int32) else (if (57 : Int32) < (f (1 : Int32)) then (0 : Int32) else (if (f (2 : Int32)) < (48 : Int32) then (0 : Int32) else (if (57 : Int32) < (f (2 : Int32)) then (0 : Int32) else (if (f (3 : Int32)) < (48 : Int32) then (0 : Int32) else (if (57 : Int32) < (f (3 : Int32)) then (0 : Int32) else (if (f (4 : Int32)) < (48 : Int32) then (0 : Int32) else (if (57 : Int32) < (f (4 : Int32)) then (0 : Int32) else (1 : Int32)))))))))
def Q_rmdg1_5 (Z : State) (a0 : Array Value) (a1 b : Addr) (k1 : ClassId) (N : Int32) (vs : List Value) (d1 : Value) (w : Int32) (sfv : Value) (f : Int32 → Int32) (h0 : Heap) (n0 : Nat) (v : Option Value) (h : Heap) (L : List Loc) : Prop := v = some (.int (own_dg_1_5 f)) ∧ Fr n0 L ∧ h = h0
theorem rmdg1_5 (hw : HW a0 Z) (a1 b : Addr) (k1 : ClassId) (N : Int32) (vs : List Value) (d1 : Value) (w : Int32) (sfv : Value) (f : Int32 → Int32) (h0 : Heap) (n0 : Nat) (Z0 : n0 ≤ h0.size) (E_s : Exa Z h0 a1 "java/lang/String") (F_v : Fld Z h0 a1 "java/lang/String" "value" "[B" (.ref b)) (F_c : Fld Z h0 a1 "java/lang/String" "coder" "B" (.int (0 : Int32))) (V_s : Arv Z h0 b k1 .byte N vs d1) (S1 : Sta Z h0 "java/lang/String" "COMPACT_STRINGS" "Z" (.int w)) (hw0 : ¬ w = (0 : Int32)) (hat : ∀ i : Int32, ¬ i < 0 → i < N → vs.getD i.toNatClampNeg d1 = .int (((f i).toInt8.toInt32).toInt8.toInt32)) (hf : ∀ i : Int32, ¬ (255 : Int32) < f i ∧ ¬ f i < 0) (S2 : Sta Z h0 "jdk/internal/util/Preconditions" "SIOOBE_FORMATTER" "Ljava/util/function/BiFunction;" sfv) (hsf : sfv.isRef = true) (hN : ¬ N < (5 : Int32)) :
  own_Met l y0_ prog_24_method_6_code 5 (some .boolean) (R_ 4 0 0 53) #[(.ref a1), (.int (1 : Int32)), (.int (5 : Int32))] Z h0 (Q_rmdg1_5 Z a0 a1 b k1 N vs d1 w sfv f h0 n0) := by
 refine own_bd (own := "com/example/nimble_anonymizer/nimbleanonymizer/NumericColumn") rfl (plainFor_of_name pn_9) #[rv a1, iv 1, iv 5, .unset, .unset] ?_
 intro p e s m below meth c s₁ hx hby hq hml hown hnm hlk hrt hZ X0 e0
 have hv : own_dg_1_5 f = (if (f (1 : Int32)) < (48 : Int32) then (0 : Int32) else (if (57 : Int32) < (f (1 : Int32)) then (0 : Int32) else (if (f (2 : Int32)) < (48 : Int32) then (0 : Int32) else (if (57 : Int32) < (f (2 : Int32)) then (0 : Int32) else (if (f (3 : Int32)) < (48 : Int32) then (0 : Int32) else (if (57 : Int32) < (f (3 : Int32)) then (0 : Int32) else (if (f (4 : Int32)) < (48 : Int32) then (0 : Int32) else (if (57 : Int32) < (f (4 : Int32)) then (0 : Int32) else (1 : Int32))))))))) := rfl
 show own_Go _ _ _ _ (s₁.setTop (mkF m 0 #[rv a1, iv 1, iv 5, .unset, .unset] []))
 refine o_iloadN X0 hq d24_0 rfl (o_iloadN X0 hq d24_1 rfl (o_icmpNo X0 hq d24_2 (by decide) (o_iconst X0 hq 1 d24_5 rfl (o_goto X0 hq (pc' := 10) d24_6 (o_istoreN X0 hq d24_10 (l' := #[rv a1, iv 1, iv 5, iv 1, .unset]) rfl (o_iloadN X0 hq d24_11 rfl (o_istore X0 hq d24_12 (l' := #[rv a1, iv 1, iv 5, iv 1, iv 1]) rfl (o_iloadN X0 hq d24_14 rfl (o_ifNo X0 hq d24_15 (by decide) (o_iload X0 hq d24_18 rfl (o_iloadN X0 hq d24_20 rfl (o_icmpNo X0 hq d24_21 (by decide) (o_aloadN X0 hq d24_24 rfl rfl (o_iload X0 hq d24_25 rfl ?_))))))))))))))
 refine c_U1 X0 hq e0 hZ hown hml (k24_100U1 hw) (rm11 hw a1 (1 : Int32) b k1 N vs d1 w sfv f h0 n0 Z0 E_s F_v F_c V_s S1 hw0 hat hf S2 hsf (by decide) (own_ltN (e := (5 : Int32)) (by decide) hN)) E_s d24_27 ?_ 0
 rintro T_1 L_1 _ X_1 ⟨⟨⟩, Nq_1, e_1⟩
 have N_1 := Fr.app (Fr.nil n0) Nq_1
 refine o_bipush X_1 hq 48 d24_30 rfl ?_
 by_cases hc32__2 : (f (1 : Int32)) < (48 : Int32)
 ·have hv_3 := hv.trans (if_pos hc32__2)
  refine o_icmpYes X_1 hq (pc' := 50) d24_32 (tlt hc32__2).1 (o_iconst X_1 hq 0 d24_50 rfl (o_istoreN X_1 hq d24_51 (l' := #[rv a1, iv 1, iv 5, iv 0, iv 1]) rfl (o_iinc X_1 hq d24_52 rfl (l' := #[rv a1, iv 1, iv 5, iv 0, iv 2]) rfl (o_goto X_1 hq (pc' := 14) d24_55 (o_iloadN X_1 hq d24_14 rfl (o_ifYes X_1 hq (pc' := 58) d24_15 (by decide) (o_iloadN X_1 hq d24_58 rfl ?_)))))))
  exact e_Z X_1 e_1 hq hlk hrt d24_59 ⟨(congrArg (fun z => some (Value.int z)) hv_3.symm), N_1, rfl⟩
 ·have hv_4 := hv.trans (if_neg hc32__2)
  refine o_icmpNo X_1 hq d24_32 (flt hc32__2).1 (o_aloadN X_1 hq d24_35 rfl rfl (o_iload X_1 hq d24_36 rfl ?_))
  refine c_U1 X_1 hq e_1 hZ hown hml (k24_100U1 hw) (rm11 hw a1 (1 : Int32) b k1 N vs d1 w sfv f h0 n0 Z0 E_s F_v F_c V_s S1 hw0 hat hf S2 hsf (by decide) (own_ltN (e := (5 : Int32)) (by decide) hN)) E_s d24_38 ?_ 0
  rintro T_5 L_5 _ X_5 ⟨⟨⟩, Nq_5, e_5⟩
  have N_5 := Fr.app N_1 Nq_5
  refine o_bipush X_5 hq 57 d24_41 rfl ?_
  by_cases hc43__6 : (57 : Int32) < (f (1 : Int32))
  ·have hv_7 := hv_4.trans (if_pos hc43__6)
   refine o_icmpYes X_5 hq (pc' := 50) d24_43 (tlt hc43__6).2.2.1 (o_iconst X_5 hq 0 d24_50 rfl (o_istoreN X_5 hq d24_51 (l' := #[rv a1, iv 1, iv 5, iv 0, iv 1]) rfl (o_iinc X_5 hq d24_52 rfl (l' := #[rv a1, iv 1, iv 5, iv 0, iv 2]) rfl (o_goto X_5 hq (pc' := 14) d24_55 (o_iloadN X_5 hq d24_14 rfl (o_ifYes X_5 hq (pc' := 58) d24_15 (by decide) (o_iloadN X_5 hq d24_58 rfl ?_)))))))
   exact e_Z X_5 e_5 hq hlk hrt d24_59 ⟨(congrArg (fun z => some (Value.int z)) hv_7.symm), N_5, rfl⟩
  ·have hv_8 := hv_4.trans (if_neg hc43__6)
   refine o_icmpNo X_5 hq d24_43 (flt hc43__6).2.2.1 (o_iconst X_5 hq 1 d24_46 rfl (o_goto X_5 hq (pc' := 51) d24_47 (o_istoreN X_5 hq d24_51 (l' := #[rv a1, iv 1, iv 5, iv 1, iv 1]) rfl (o_iinc X_5 hq d24_52 rfl (l' := #[rv a1, iv 1, iv 5, iv 1, iv 2]) rfl (o_goto X_5 hq (pc' := 14) d24_55 (o_iloadN X_5 hq d24_14 rfl (o_ifNo X_5 hq d24_15 (by decide) (o_iload X_5 hq d24_18 rfl (o_iloadN X_5 hq d24_20 rfl (o_icmpNo X_5 hq d24_21 (by decide) (o_aloadN X_5 hq d24_24 rfl rfl (o_iload X_5 hq d24_25 rfl ?_))))))))))))
   refine c_U1 X_5 hq e_5 hZ hown hml (k24_100U1 hw) (rm11 hw a1 (2 : Int32) b k1 N vs d1 w sfv f h0 n0 Z0 E_s F_v F_c V_s S1 hw0 hat hf S2 hsf (by decide) (own_ltN (e := (5 : Int32)) (by decide) hN)) E_s d24_27 ?_ 0
   rintro T_9 L_9 _ X_9 ⟨⟨⟩, Nq_9, e_9⟩
   have N_9 := Fr.app N_5 Nq_9
   refine o_bipush X_9 hq 48 d24_30 rfl ?_
   by_cases hc32__10 : (f (2 : Int32)) < (48 : Int32)
   ·have hv_11 := hv_8.trans (if_pos hc32__10)
    refine o_icmpYes X_9 hq (pc' := 50) d24_32 (tlt hc32__10).1 (o_iconst X_9 hq 0 d24_50 rfl (o_istoreN X_9 hq d24_51 (l' := #[rv a1, iv 1, iv 5, iv 0, iv 2]) rfl (o_iinc X_9 hq d24_52 rfl (l' := #[rv a1, iv 1, iv 5, iv 0, iv 3]) rfl (o_goto X_9 hq (pc' := 14) d24_55 (o_iloadN X_9 hq d24_14 rfl (o_ifYes X_9 hq (pc' := 58) d24_15 (by decide) (o_iloadN X_9 hq d24_58 rfl ?_)))))))
    exact e_Z X_9 e_9 hq hlk hrt d24_59 ⟨(congrArg (fun z => some (Value.int z)) hv_11.symm), N_9, rfl⟩
   ·have hv_12 := hv_8.trans (if_neg hc32__10)
    refine o_icmpNo X_9 hq d24_32 (flt hc32__10).1 (o_aloadN X_9 hq d24_35 rfl rfl (o_iload X_9 hq d24_36 rfl ?_))
    refine c_U1 X_9 hq e_9 hZ hown hml (k24_100U1 hw) (rm11 hw a1 (2 : Int32) b k1 N vs d1 w sfv f h0 n0 Z0 E_s F_v F_c V_s S1 hw0 hat hf S2 hsf (by decide) (own_ltN (e := (5 : Int32)) (by decide) hN)) E_s d24_38 ?_ 0
    rintro T_13 L_13 _ X_13 ⟨⟨⟩, Nq_13, e_13⟩
    have N_13 := Fr.app N_9 Nq_13
    refine o_bipush X_13 hq 57 d24_41 rfl ?_
    by_cases hc43__14 : (57 : Int32) < (f (2 : Int32))
    ·have hv_15 := hv_12.trans (if_pos hc43__14)
     refine o_icmpYes X_13 hq (pc' := 50) d24_43 (tlt hc43__14).2.2.1 (o_iconst X_13 hq 0 d24_50 rfl (o_istoreN X_13 hq d24_51 (l' := #[rv a1, iv 1, iv 5, iv 0, iv 2]) rfl (o_iinc X_13 hq d24_52 rfl (l' := #[rv a1, iv 1, iv 5, iv 0, iv 3]) rfl (o_goto X_13 hq (pc' := 14) d24_55 (o_iloadN X_13 hq d24_14 rfl (o_ifYes X_13 hq (pc' := 58) d24_15 (by decide) (o_iloadN X_13 hq d24_58 rfl ?_)))))))
     exact e_Z X_13 e_13 hq hlk hrt d24_59 ⟨(congrArg (fun z => some (Value.int z)) hv_15.symm), N_13, rfl⟩
    ·have hv_16 := hv_12.trans (if_neg hc43__14)
     refine o_icmpNo X_13 hq d24_43 (flt hc43__14).2.2.1 (o_iconst X_13 hq 1 d24_46 rfl (o_goto X_13 hq (pc' := 51) d24_47 (o_istoreN X_13 hq d24_51 (l' := #[rv a1, iv 1, iv 5, iv 1, iv 2]) rfl (o_iinc X_13 hq d24_52 rfl (l' := #[rv a1, iv 1, iv 5, iv 1, iv 3]) rfl (o_goto X_13 hq (pc' := 14) d24_55 (o_iloadN X_13 hq d24_14 rfl (o_ifNo X_13 hq d24_15 (by decide) (o_iload X_13 hq d24_18 rfl (o_iloadN X_13 hq d24_20 rfl (o_icmpNo X_13 hq d24_21 (by decide) (o_aloadN X_13 hq d24_24 rfl rfl (o_iload X_13 hq d24_25 rfl ?_))))))))))))
     refine c_U1 X_13 hq e_13 hZ hown hml (k24_100U1 hw) (rm11 hw a1 (3 : Int32) b k1 N vs d1 w sfv f h0 n0 Z0 E_s F_v F_c V_s S1 hw0 hat hf S2 hsf (by decide) (own_ltN (e := (5 : Int32)) (by decide) hN)) E_s d24_27 ?_ 0
     rintro T_17 L_17 _ X_17 ⟨⟨⟩, Nq_17, e_17⟩
     have N_17 := Fr.app N_13 Nq_17
     refine o_bipush X_17 hq 48 d24_30 rfl ?_
     by_cases hc32__18 : (f (3 : Int32)) < (48 : Int32)
     ·have hv_19 := hv_16.trans (if_pos hc32__18)
      refine o_icmpYes X_17 hq (pc' := 50) d24_32 (tlt hc32__18).1 (o_iconst X_17 hq 0 d24_50 rfl (o_istoreN X_17 hq d24_51 (l' := #[rv a1, iv 1, iv 5, iv 0, iv 3]) rfl (o_iinc X_17 hq d24_52 rfl (l' := #[rv a1, iv 1, iv 5, iv 0, iv 4]) rfl (o_goto X_17 hq (pc' := 14) d24_55 (o_iloadN X_17 hq d24_14 rfl (o_ifYes X_17 hq (pc' := 58) d24_15 (by decide) (o_iloadN X_17 hq d24_58 rfl ?_)))))))
      exact e_Z X_17 e_17 hq hlk hrt d24_59 ⟨(congrArg (fun z => some (Value.int z)) hv_19.symm), N_17, rfl⟩
     ·have hv_20 := hv_16.trans (if_neg hc32__18)
      refine o_icmpNo X_17 hq d24_32 (flt hc32__18).1 (o_aloadN X_17 hq d24_35 rfl rfl (o_iload X_17 hq d24_36 rfl ?_))
      refine c_U1 X_17 hq e_17 hZ hown hml (k24_100U1 hw) (rm11 hw a1 (3 : Int32) b k1 N vs d1 w sfv f h0 n0 Z0 E_s F_v F_c V_s S1 hw0 hat hf S2 hsf (by decide) (own_ltN (e := (5 : Int32)) (by decide) hN)) E_s d24_38 ?_ 0
      rintro T_21 L_21 _ X_21 ⟨⟨⟩, Nq_21, e_21⟩
      have N_21 := Fr.app N_17 Nq_21
      refine o_bipush X_21 hq 57 d24_41 rfl ?_
      by_cases hc43__22 : (57 : Int32) < (f (3 : Int32))
      ·have hv_23 := hv_20.trans (if_pos hc43__22)
       refine o_icmpYes X_21 hq (pc' := 50) d24_43 (tlt hc43__22).2.2.1 (o_iconst X_21 hq 0 d24_50 rfl (o_istoreN X_21 hq d24_51 (l' := #[rv a1, iv 1, iv 5, iv 0, iv 3]) rfl (o_iinc X_21 hq d24_52 rfl (l' := #[rv a1, iv 1, iv 5, iv 0, iv 4]) rfl (o_goto X_21 hq (pc' := 14) d24_55 (o_iloadN X_21 hq d24_14 rfl (o_ifYes X_21 hq (pc' := 58) d24_15 (by decide) (o_iloadN X_21 hq d24_58 rfl ?_)))))))
       exact e_Z X_21 e_21 hq hlk hrt d24_59 ⟨(congrArg (fun z => some (Value.int z)) hv_23.symm), N_21, rfl⟩
      ·have hv_24 := hv_20.trans (if_neg hc43__22)
       refine o_icmpNo X_21 hq d24_43 (flt hc43__22).2.2.1 (o_iconst X_21 hq 1 d24_46 rfl (o_goto X_21 hq (pc' := 51) d24_47 (o_istoreN X_21 hq d24_51 (l' := #[rv a1, iv 1, iv 5, iv 1, iv 3]) rfl (o_iinc X_21 hq d24_52 rfl (l' := #[rv a1, iv 1, iv 5, iv 1, iv 4]) rfl (o_goto X_21 hq (pc' := 14) d24_55 (o_iloadN X_21 hq d24_14 rfl (o_ifNo X_21 hq d24_15 (by decide) (o_iload X_21 hq d24_18 rfl (o_iloadN X_21 hq d24_20 rfl (o_icmpNo X_21 hq d24_21 (by decide) (o_aloadN X_21 hq d24_24 rfl rfl (o_iload X_21 hq d24_25 rfl ?_))))))))))))
       refine c_U1 X_21 hq e_21 hZ hown hml (k24_100U1 hw) (rm11 hw a1 (4 : Int32) b k1 N vs d1 w sfv f h0 n0 Z0 E_s F_v F_c V_s S1 hw0 hat hf S2 hsf (by decide) (own_ltN (e := (5 : Int32)) (by decide) hN)) E_s d24_27 ?_ 0
       rintro T_25 L_25 _ X_25 ⟨⟨⟩, Nq_25, e_25⟩
       have N_25 := Fr.app N_21 Nq_25
       refine o_bipush X_25 hq 48 d24_30 rfl ?_
       by_cases hc32__26 : (f (4 : Int32)) < (48 : Int32)
       ·have hv_27 := hv_24.trans (if_pos hc32__26)
        refine o_icmpYes X_25 hq (pc' := 50) d24_32 (tlt hc32__26).1 (o_iconst X_25 hq 0 d24_50 rfl (o_istoreN X_25 hq d24_51 (l' := #[rv a1, iv 1, iv 5, iv 0, iv 4]) rfl (o_iinc X_25 hq d24_52 rfl (l' := #[rv a1, iv 1, iv 5, iv 0, iv 5]) rfl (o_goto X_25 hq (pc' := 14) d24_55 (o_iloadN X_25 hq d24_14 rfl (o_ifYes X_25 hq (pc' := 58) d24_15 (by decide) (o_iloadN X_25 hq d24_58 rfl ?_)))))))
        exact e_Z X_25 e_25 hq hlk hrt d24_59 ⟨(congrArg (fun z => some (Value.int z)) hv_27.symm), N_25, rfl⟩
       ·have hv_28 := hv_24.trans (if_neg hc32__26)
        refine o_icmpNo X_25 hq d24_32 (flt hc32__26).1 (o_aloadN X_25 hq d24_35 rfl rfl (o_iload X_25 hq d24_36 rfl ?_))
        refine c_U1 X_25 hq e_25 hZ hown hml (k24_100U1 hw) (rm11 hw a1 (4 : Int32) b k1 N vs d1 w sfv f h0 n0 Z0 E_s F_v F_c V_s S1 hw0 hat hf S2 hsf (by decide) (own_ltN (e := (5 : Int32)) (by decide) hN)) E_s d24_38 ?_ 0
        rintro T_29 L_29 _ X_29 ⟨⟨⟩, Nq_29, e_29⟩
        have N_29 := Fr.app N_25 Nq_29
        refine o_bipush X_29 hq 57 d24_41 rfl ?_
        by_cases hc43__30 : (57 : Int32) < (f (4 : Int32))
        ·have hv_31 := hv_28.trans (if_pos hc43__30)
         refine o_icmpYes X_29 hq (pc' := 50) d24_43 (tlt hc43__30).2.2.1 (o_iconst X_29 hq 0 d24_50 rfl (o_istoreN X_29 hq d24_51 (l' := #[rv a1, iv 1, iv 5, iv 0, iv 4]) rfl (o_iinc X_29 hq d24_52 rfl (l' := #[rv a1, iv 1, iv 5, iv 0, iv 5]) rfl (o_goto X_29 hq (pc' := 14) d24_55 (o_iloadN X_29 hq d24_14 rfl (o_ifYes X_29 hq (pc' := 58) d24_15 (by decide) (o_iloadN X_29 hq d24_58 rfl ?_)))))))
         exact e_Z X_29 e_29 hq hlk hrt d24_59 ⟨(congrArg (fun z => some (Value.int z)) hv_31.symm), N_29, rfl⟩
        ·have hv_32 := hv_28.trans (if_neg hc43__30)
         refine o_icmpNo X_29 hq d24_43 (flt hc43__30).2.2.1 (o_iconst X_29 hq 1 d24_46 rfl (o_goto X_29 hq (pc' := 51) d24_47 (o_istoreN X_29 hq d24_51 (l' := #[rv a1, iv 1, iv 5, iv 1, iv 4]) rfl (o_iinc X_29 hq d24_52 rfl (l' := #[rv a1, iv 1, iv 5, iv 1, iv 5]) rfl (o_goto X_29 hq (pc' := 14) d24_55 (o_iloadN X_29 hq d24_14 rfl (o_ifNo X_29 hq d24_15 (by decide) (o_iload X_29 hq d24_18 rfl (o_iloadN X_29 hq d24_20 rfl (o_icmpYes X_29 hq (pc' := 58) d24_21 (by decide) (o_iloadN X_29 hq d24_58 rfl ?_)))))))))))
         exact e_Z X_29 e_29 hq hlk hrt d24_59 ⟨(congrArg (fun z => some (Value.int z)) hv_32.symm), N_29, rfl⟩
def own_dg_2_5 (f : Int32 → Int32) : Int32 := (if (f (2 : Int32)) < (48 : Int32) then (0 : Int32) else (if (57 : Int32) < (f (2 : Int32)) then (0 : Int32) else (if (f (3 : Int32)) < (48 : Int32) then (0 : Int32) else (if (57 : Int32) < (f (3 : Int32)) then (0 : Int32) else (if (f (4 : Int32)) < (48 : Int32) then (0 : Int32) else (if (57 : Int32) < (f (4 : Int32)) then (0 : Int32) else (1 : Int32)))))))
def Q_rmdg2_5 (Z : State) (a0 : Array Value) (a1 b : Addr) (k1 : ClassId) (N : Int32) (vs : List Value) (d1 : Value) (w : Int32) (sfv : Value) (f : Int32 → Int32) (h0 : Heap) (n0 : Nat) (v : Option Value) (h : Heap) (L : List Loc) : Prop := v = some (.int (own_dg_2_5 f)) ∧ Fr n0 L ∧ h = h0
theorem rmdg2_5 (hw : HW a0 Z) (a1 b : Addr) (k1 : ClassId) (N : Int32) (vs : List Value) (d1 : Value) (w : Int32) (sfv : Value) (f : Int32 → Int32) (h0 : Heap) (n0 : Nat) (Z0 : n0 ≤ h0.size) (E_s : Exa Z h0 a1 "java/lang/String") (F_v : Fld Z h0 a1 "java/lang/String" "value" "[B" (.ref b)) (F_c : Fld Z h0 a1 "java/lang/String" "coder" "B" (.int (0 : Int32))) (V_s : Arv Z h0 b k1 .byte N vs d1) (S1 : Sta Z h0 "java/lang/String" "COMPACT_STRINGS" "Z" (.int w)) (hw0 : ¬ w = (0 : Int32)) (hat : ∀ i : Int32, ¬ i < 0 → i < N → vs.getD i.toNatClampNeg d1 = .int (((f i).toInt8.toInt32).toInt8.toInt32)) (hf : ∀ i : Int32, ¬ (255 : Int32) < f i ∧ ¬ f i < 0) (S2 : Sta Z h0 "jdk/internal/util/Preconditions" "SIOOBE_FORMATTER" "Ljava/util/function/BiFunction;" sfv) (hsf : sfv.isRef = true) (hN : ¬ N < (5 : Int32)) :
  own_Met l y0_ prog_24_method_6_code 5 (some .boolean) (R_ 4 0 0 53) #[(.ref a1), (.int (2 : Int32)), (.int (5 : Int32))] Z h0 (Q_rmdg2_5 Z a0 a1 b k1 N vs d1 w sfv f h0 n0) := by
 refine own_bd (own := "com/example/nimble_anonymizer/nimbleanonymizer/NumericColumn") rfl (plainFor_of_name pn_9) #[rv a1, iv 2, iv 5, .unset, .unset] ?_
 intro p e s m below meth c s₁ hx hby hq hml hown hnm hlk hrt hZ X0 e0
 have hv : own_dg_2_5 f = (if (f (2 : Int32)) < (48 : Int32) then (0 : Int32) else (if (57 : Int32) < (f (2 : Int32)) then (0 : Int32) else (if (f (3 : Int32)) < (48 : Int32) then (0 : Int32) else (if (57 : Int32) < (f (3 : Int32)) then (0 : Int32) else (if (f (4 : Int32)) < (48 : Int32) then (0 : Int32) else (if (57 : Int32) < (f (4 : Int32)) then (0 : Int32) else (1 : Int32))))))) := rfl
 show own_Go _ _ _ _ (s₁.setTop (mkF m 0 #[rv a1, iv 2, iv 5, .unset, .unset] []))
 refine o_iloadN X0 hq d24_0 rfl (o_iloadN X0 hq d24_1 rfl (o_icmpNo X0 hq d24_2 (by decide) (o_iconst X0 hq 1 d24_5 rfl (o_goto X0 hq (pc' := 10) d24_6 (o_istoreN X0 hq d24_10 (l' := #[rv a1, iv 2, iv 5, iv 1, .unset]) rfl (o_iloadN X0 hq d24_11 rfl (o_istore X0 hq d24_12 (l' := #[rv a1, iv 2, iv 5, iv 1, iv 2]) rfl (o_iloadN X0 hq d24_14 rfl (o_ifNo X0 hq d24_15 (by decide) (o_iload X0 hq d24_18 rfl (o_iloadN X0 hq d24_20 rfl (o_icmpNo X0 hq d24_21 (by decide) (o_aloadN X0 hq d24_24 rfl rfl (o_iload X0 hq d24_25 rfl ?_))))))))))))))
 refine c_U1 X0 hq e0 hZ hown hml (k24_100U1 hw) (rm11 hw a1 (2 : Int32) b k1 N vs d1 w sfv f h0 n0 Z0 E_s F_v F_c V_s S1 hw0 hat hf S2 hsf (by decide) (own_ltN (e := (5 : Int32)) (by decide) hN)) E_s d24_27 ?_ 0
 rintro T_1 L_1 _ X_1 ⟨⟨⟩, Nq_1, e_1⟩
 have N_1 := Fr.app (Fr.nil n0) Nq_1
 refine o_bipush X_1 hq 48 d24_30 rfl ?_
 by_cases hc32__2 : (f (2 : Int32)) < (48 : Int32)
 ·have hv_3 := hv.trans (if_pos hc32__2)
  refine o_icmpYes X_1 hq (pc' := 50) d24_32 (tlt hc32__2).1 (o_iconst X_1 hq 0 d24_50 rfl (o_istoreN X_1 hq d24_51 (l' := #[rv a1, iv 2, iv 5, iv 0, iv 2]) rfl (o_iinc X_1 hq d24_52 rfl (l' := #[rv a1, iv 2, iv 5, iv 0, iv 3]) rfl (o_goto X_1 hq (pc' := 14) d24_55 (o_iloadN X_1 hq d24_14 rfl (o_ifYes X_1 hq (pc' := 58) d24_15 (by decide) (o_iloadN X_1 hq d24_58 rfl ?_)))))))
  exact e_Z X_1 e_1 hq hlk hrt d24_59 ⟨(congrArg (fun z => some (Value.int z)) hv_3.symm), N_1, rfl⟩
 ·have hv_4 := hv.trans (if_neg hc32__2)
  refine o_icmpNo X_1 hq d24_32 (flt hc32__2).1 (o_aloadN X_1 hq d24_35 rfl rfl (o_iload X_1 hq d24_36 rfl ?_))
  refine c_U1 X_1 hq e_1 hZ hown hml (k24_100U1 hw) (rm11 hw a1 (2 : Int32) b k1 N vs d1 w sfv f h0 n0 Z0 E_s F_v F_c V_s S1 hw0 hat hf S2 hsf (by decide) (own_ltN (e := (5 : Int32)) (by decide) hN)) E_s d24_38 ?_ 0
  rintro T_5 L_5 _ X_5 ⟨⟨⟩, Nq_5, e_5⟩
  have N_5 := Fr.app N_1 Nq_5
  refine o_bipush X_5 hq 57 d24_41 rfl ?_
  by_cases hc43__6 : (57 : Int32) < (f (2 : Int32))
  ·have hv_7 := hv_4.trans (if_pos hc43__6)
   refine o_icmpYes X_5 hq (pc' := 50) d24_43 (tlt hc43__6).2.2.1 (o_iconst X_5 hq 0 d24_50 rfl (o_istoreN X_5 hq d24_51 (l' := #[rv a1, iv 2, iv 5, iv 0, iv 2]) rfl (o_iinc X_5 hq d24_52 rfl (l' := #[rv a1, iv 2, iv 5, iv 0, iv 3]) rfl (o_goto X_5 hq (pc' := 14) d24_55 (o_iloadN X_5 hq d24_14 rfl (o_ifYes X_5 hq (pc' := 58) d24_15 (by decide) (o_iloadN X_5 hq d24_58 rfl ?_)))))))
   exact e_Z X_5 e_5 hq hlk hrt d24_59 ⟨(congrArg (fun z => some (Value.int z)) hv_7.symm), N_5, rfl⟩
  ·have hv_8 := hv_4.trans (if_neg hc43__6)
   refine o_icmpNo X_5 hq d24_43 (flt hc43__6).2.2.1 (o_iconst X_5 hq 1 d24_46 rfl (o_goto X_5 hq (pc' := 51) d24_47 (o_istoreN X_5 hq d24_51 (l' := #[rv a1, iv 2, iv 5, iv 1, iv 2]) rfl (o_iinc X_5 hq d24_52 rfl (l' := #[rv a1, iv 2, iv 5, iv 1, iv 3]) rfl (o_goto X_5 hq (pc' := 14) d24_55 (o_iloadN X_5 hq d24_14 rfl (o_ifNo X_5 hq d24_15 (by decide) (o_iload X_5 hq d24_18 rfl (o_iloadN X_5 hq d24_20 rfl (o_icmpNo X_5 hq d24_21 (by decide) (o_aloadN X_5 hq d24_24 rfl rfl (o_iload X_5 hq d24_25 rfl ?_))))))))))))
   refine c_U1 X_5 hq e_5 hZ hown hml (k24_100U1 hw) (rm11 hw a1 (3 : Int32) b k1 N vs d1 w sfv f h0 n0 Z0 E_s F_v F_c V_s S1 hw0 hat hf S2 hsf (by decide) (own_ltN (e := (5 : Int32)) (by decide) hN)) E_s d24_27 ?_ 0
   rintro T_9 L_9 _ X_9 ⟨⟨⟩, Nq_9, e_9⟩
   have N_9 := Fr.app N_5 Nq_9
   refine o_bipush X_9 hq 48 d24_30 rfl ?_
   by_cases hc32__10 : (f (3 : Int32)) < (48 : Int32)
   ·have hv_11 := hv_8.trans (if_pos hc32__10)
    refine o_icmpYes X_9 hq (pc' := 50) d24_32 (tlt hc32__10).1 (o_iconst X_9 hq 0 d24_50 rfl (o_istoreN X_9 hq d24_51 (l' := #[rv a1, iv 2, iv 5, iv 0, iv 3]) rfl (o_iinc X_9 hq d24_52 rfl (l' := #[rv a1, iv 2, iv 5, iv 0, iv 4]) rfl (o_goto X_9 hq (pc' := 14) d24_55 (o_iloadN X_9 hq d24_14 rfl (o_ifYes X_9 hq (pc' := 58) d24_15 (by decide) (o_iloadN X_9 hq d24_58 rfl ?_)))))))
    exact e_Z X_9 e_9 hq hlk hrt d24_59 ⟨(congrArg (fun z => some (Value.int z)) hv_11.symm), N_9, rfl⟩
   ·have hv_12 := hv_8.trans (if_neg hc32__10)
    refine o_icmpNo X_9 hq d24_32 (flt hc32__10).1 (o_aloadN X_9 hq d24_35 rfl rfl (o_iload X_9 hq d24_36 rfl ?_))
    refine c_U1 X_9 hq e_9 hZ hown hml (k24_100U1 hw) (rm11 hw a1 (3 : Int32) b k1 N vs d1 w sfv f h0 n0 Z0 E_s F_v F_c V_s S1 hw0 hat hf S2 hsf (by decide) (own_ltN (e := (5 : Int32)) (by decide) hN)) E_s d24_38 ?_ 0
    rintro T_13 L_13 _ X_13 ⟨⟨⟩, Nq_13, e_13⟩
    have N_13 := Fr.app N_9 Nq_13
    refine o_bipush X_13 hq 57 d24_41 rfl ?_
    by_cases hc43__14 : (57 : Int32) < (f (3 : Int32))
    ·have hv_15 := hv_12.trans (if_pos hc43__14)
     refine o_icmpYes X_13 hq (pc' := 50) d24_43 (tlt hc43__14).2.2.1 (o_iconst X_13 hq 0 d24_50 rfl (o_istoreN X_13 hq d24_51 (l' := #[rv a1, iv 2, iv 5, iv 0, iv 3]) rfl (o_iinc X_13 hq d24_52 rfl (l' := #[rv a1, iv 2, iv 5, iv 0, iv 4]) rfl (o_goto X_13 hq (pc' := 14) d24_55 (o_iloadN X_13 hq d24_14 rfl (o_ifYes X_13 hq (pc' := 58) d24_15 (by decide) (o_iloadN X_13 hq d24_58 rfl ?_)))))))
     exact e_Z X_13 e_13 hq hlk hrt d24_59 ⟨(congrArg (fun z => some (Value.int z)) hv_15.symm), N_13, rfl⟩
    ·have hv_16 := hv_12.trans (if_neg hc43__14)
     refine o_icmpNo X_13 hq d24_43 (flt hc43__14).2.2.1 (o_iconst X_13 hq 1 d24_46 rfl (o_goto X_13 hq (pc' := 51) d24_47 (o_istoreN X_13 hq d24_51 (l' := #[rv a1, iv 2, iv 5, iv 1, iv 3]) rfl (o_iinc X_13 hq d24_52 rfl (l' := #[rv a1, iv 2, iv 5, iv 1, iv 4]) rfl (o_goto X_13 hq (pc' := 14) d24_55 (o_iloadN X_13 hq d24_14 rfl (o_ifNo X_13 hq d24_15 (by decide) (o_iload X_13 hq d24_18 rfl (o_iloadN X_13 hq d24_20 rfl (o_icmpNo X_13 hq d24_21 (by decide) (o_aloadN X_13 hq d24_24 rfl rfl (o_iload X_13 hq d24_25 rfl ?_))))))))))))
     refine c_U1 X_13 hq e_13 hZ hown hml (k24_100U1 hw) (rm11 hw a1 (4 : Int32) b k1 N vs d1 w sfv f h0 n0 Z0 E_s F_v F_c V_s S1 hw0 hat hf S2 hsf (by decide) (own_ltN (e := (5 : Int32)) (by decide) hN)) E_s d24_27 ?_ 0
     rintro T_17 L_17 _ X_17 ⟨⟨⟩, Nq_17, e_17⟩
     have N_17 := Fr.app N_13 Nq_17
     refine o_bipush X_17 hq 48 d24_30 rfl ?_
     by_cases hc32__18 : (f (4 : Int32)) < (48 : Int32)
     ·have hv_19 := hv_16.trans (if_pos hc32__18)
      refine o_icmpYes X_17 hq (pc' := 50) d24_32 (tlt hc32__18).1 (o_iconst X_17 hq 0 d24_50 rfl (o_istoreN X_17 hq d24_51 (l' := #[rv a1, iv 2, iv 5, iv 0, iv 4]) rfl (o_iinc X_17 hq d24_52 rfl (l' := #[rv a1, iv 2, iv 5, iv 0, iv 5]) rfl (o_goto X_17 hq (pc' := 14) d24_55 (o_iloadN X_17 hq d24_14 rfl (o_ifYes X_17 hq (pc' := 58) d24_15 (by decide) (o_iloadN X_17 hq d24_58 rfl ?_)))))))
      exact e_Z X_17 e_17 hq hlk hrt d24_59 ⟨(congrArg (fun z => some (Value.int z)) hv_19.symm), N_17, rfl⟩
     ·have hv_20 := hv_16.trans (if_neg hc32__18)
      refine o_icmpNo X_17 hq d24_32 (flt hc32__18).1 (o_aloadN X_17 hq d24_35 rfl rfl (o_iload X_17 hq d24_36 rfl ?_))
      refine c_U1 X_17 hq e_17 hZ hown hml (k24_100U1 hw) (rm11 hw a1 (4 : Int32) b k1 N vs d1 w sfv f h0 n0 Z0 E_s F_v F_c V_s S1 hw0 hat hf S2 hsf (by decide) (own_ltN (e := (5 : Int32)) (by decide) hN)) E_s d24_38 ?_ 0
      rintro T_21 L_21 _ X_21 ⟨⟨⟩, Nq_21, e_21⟩
      have N_21 := Fr.app N_17 Nq_21
      refine o_bipush X_21 hq 57 d24_41 rfl ?_
      by_cases hc43__22 : (57 : Int32) < (f (4 : Int32))
      ·have hv_23 := hv_20.trans (if_pos hc43__22)
       refine o_icmpYes X_21 hq (pc' := 50) d24_43 (tlt hc43__22).2.2.1 (o_iconst X_21 hq 0 d24_50 rfl (o_istoreN X_21 hq d24_51 (l' := #[rv a1, iv 2, iv 5, iv 0, iv 4]) rfl (o_iinc X_21 hq d24_52 rfl (l' := #[rv a1, iv 2, iv 5, iv 0, iv 5]) rfl (o_goto X_21 hq (pc' := 14) d24_55 (o_iloadN X_21 hq d24_14 rfl (o_ifYes X_21 hq (pc' := 58) d24_15 (by decide) (o_iloadN X_21 hq d24_58 rfl ?_)))))))
       exact e_Z X_21 e_21 hq hlk hrt d24_59 ⟨(congrArg (fun z => some (Value.int z)) hv_23.symm), N_21, rfl⟩
      ·have hv_24 := hv_20.trans (if_neg hc43__22)
       refine o_icmpNo X_21 hq d24_43 (flt hc43__22).2.2.1 (o_iconst X_21 hq 1 d24_46 rfl (o_goto X_21 hq (pc' := 51) d24_47 (o_istoreN X_21 hq d24_51 (l' := #[rv a1, iv 2, iv 5, iv 1, iv 4]) rfl (o_iinc X_21 hq d24_52 rfl (l' := #[rv a1, iv 2, iv 5, iv 1, iv 5]) rfl (o_goto X_21 hq (pc' := 14) d24_55 (o_iloadN X_21 hq d24_14 rfl (o_ifNo X_21 hq d24_15 (by decide) (o_iload X_21 hq d24_18 rfl (o_iloadN X_21 hq d24_20 rfl (o_icmpYes X_21 hq (pc' := 58) d24_21 (by decide) (o_iloadN X_21 hq d24_58 rfl ?_)))))))))))
       exact e_Z X_21 e_21 hq hlk hrt d24_59 ⟨(congrArg (fun z => some (Value.int z)) hv_24.symm), N_21, rfl⟩
def own_dg_3_5 (f : Int32 → Int32) : Int32 := (if (f (3 : Int32)) < (48 : Int32) then (0 : Int32) else (if (57 : Int32) < (f (3 : Int32)) then (0 : Int32) else (if (f (4 : Int32)) < (48 : Int32) then (0 : Int32) else (if (57 : Int32) < (f (4 : Int32)) then (0 : Int32) else (1 : Int32)))))
def Q_rmdg3_5 (Z : State) (a0 : Array Value) (a1 b : Addr) (k1 : ClassId) (N : Int32) (vs : List Value) (d1 : Value) (w : Int32) (sfv : Value) (f : Int32 → Int32) (h0 : Heap) (n0 : Nat) (v : Option Value) (h : Heap) (L : List Loc) : Prop := v = some (.int (own_dg_3_5 f)) ∧ Fr n0 L ∧ h = h0
theorem rmdg3_5 (hw : HW a0 Z) (a1 b : Addr) (k1 : ClassId) (N : Int32) (vs : List Value) (d1 : Value) (w : Int32) (sfv : Value) (f : Int32 → Int32) (h0 : Heap) (n0 : Nat) (Z0 : n0 ≤ h0.size) (E_s : Exa Z h0 a1 "java/lang/String") (F_v : Fld Z h0 a1 "java/lang/String" "value" "[B" (.ref b)) (F_c : Fld Z h0 a1 "java/lang/String" "coder" "B" (.int (0 : Int32))) (V_s : Arv Z h0 b k1 .byte N vs d1) (S1 : Sta Z h0 "java/lang/String" "COMPACT_STRINGS" "Z" (.int w)) (hw0 : ¬ w = (0 : Int32)) (hat : ∀ i : Int32, ¬ i < 0 → i < N → vs.getD i.toNatClampNeg d1 = .int (((f i).toInt8.toInt32).toInt8.toInt32)) (hf : ∀ i : Int32, ¬ (255 : Int32) < f i ∧ ¬ f i < 0) (S2 : Sta Z h0 "jdk/internal/util/Preconditions" "SIOOBE_FORMATTER" "Ljava/util/function/BiFunction;" sfv) (hsf : sfv.isRef = true) (hN : ¬ N < (5 : Int32)) :
  own_Met l y0_ prog_24_method_6_code 5 (some .boolean) (R_ 4 0 0 53) #[(.ref a1), (.int (3 : Int32)), (.int (5 : Int32))] Z h0 (Q_rmdg3_5 Z a0 a1 b k1 N vs d1 w sfv f h0 n0) := by
 refine own_bd (own := "com/example/nimble_anonymizer/nimbleanonymizer/NumericColumn") rfl (plainFor_of_name pn_9) #[rv a1, iv 3, iv 5, .unset, .unset] ?_
 intro p e s m below meth c s₁ hx hby hq hml hown hnm hlk hrt hZ X0 e0
 have hv : own_dg_3_5 f = (if (f (3 : Int32)) < (48 : Int32) then (0 : Int32) else (if (57 : Int32) < (f (3 : Int32)) then (0 : Int32) else (if (f (4 : Int32)) < (48 : Int32) then (0 : Int32) else (if (57 : Int32) < (f (4 : Int32)) then (0 : Int32) else (1 : Int32))))) := rfl
 show own_Go _ _ _ _ (s₁.setTop (mkF m 0 #[rv a1, iv 3, iv 5, .unset, .unset] []))
 refine o_iloadN X0 hq d24_0 rfl (o_iloadN X0 hq d24_1 rfl (o_icmpNo X0 hq d24_2 (by decide) (o_iconst X0 hq 1 d24_5 rfl (o_goto X0 hq (pc' := 10) d24_6 (o_istoreN X0 hq d24_10 (l' := #[rv a1, iv 3, iv 5, iv 1, .unset]) rfl (o_iloadN X0 hq d24_11 rfl (o_istore X0 hq d24_12 (l' := #[rv a1, iv 3, iv 5, iv 1, iv 3]) rfl (o_iloadN X0 hq d24_14 rfl (o_ifNo X0 hq d24_15 (by decide) (o_iload X0 hq d24_18 rfl (o_iloadN X0 hq d24_20 rfl (o_icmpNo X0 hq d24_21 (by decide) (o_aloadN X0 hq d24_24 rfl rfl (o_iload X0 hq d24_25 rfl ?_))))))))))))))
 refine c_U1 X0 hq e0 hZ hown hml (k24_100U1 hw) (rm11 hw a1 (3 : Int32) b k1 N vs d1 w sfv f h0 n0 Z0 E_s F_v F_c V_s S1 hw0 hat hf S2 hsf (by decide) (own_ltN (e := (5 : Int32)) (by decide) hN)) E_s d24_27 ?_ 0
 rintro T_1 L_1 _ X_1 ⟨⟨⟩, Nq_1, e_1⟩
 have N_1 := Fr.app (Fr.nil n0) Nq_1
 refine o_bipush X_1 hq 48 d24_30 rfl ?_
 by_cases hc32__2 : (f (3 : Int32)) < (48 : Int32)
 ·have hv_3 := hv.trans (if_pos hc32__2)
  refine o_icmpYes X_1 hq (pc' := 50) d24_32 (tlt hc32__2).1 (o_iconst X_1 hq 0 d24_50 rfl (o_istoreN X_1 hq d24_51 (l' := #[rv a1, iv 3, iv 5, iv 0, iv 3]) rfl (o_iinc X_1 hq d24_52 rfl (l' := #[rv a1, iv 3, iv 5, iv 0, iv 4]) rfl (o_goto X_1 hq (pc' := 14) d24_55 (o_iloadN X_1 hq d24_14 rfl (o_ifYes X_1 hq (pc' := 58) d24_15 (by decide) (o_iloadN X_1 hq d24_58 rfl ?_)))))))
  exact e_Z X_1 e_1 hq hlk hrt d24_59 ⟨(congrArg (fun z => some (Value.int z)) hv_3.symm), N_1, rfl⟩
 ·have hv_4 := hv.trans (if_neg hc32__2)
  refine o_icmpNo X_1 hq d24_32 (flt hc32__2).1 (o_aloadN X_1 hq d24_35 rfl rfl (o_iload X_1 hq d24_36 rfl ?_))
  refine c_U1 X_1 hq e_1 hZ hown hml (k24_100U1 hw) (rm11 hw a1 (3 : Int32) b k1 N vs d1 w sfv f h0 n0 Z0 E_s F_v F_c V_s S1 hw0 hat hf S2 hsf (by decide) (own_ltN (e := (5 : Int32)) (by decide) hN)) E_s d24_38 ?_ 0
  rintro T_5 L_5 _ X_5 ⟨⟨⟩, Nq_5, e_5⟩
  have N_5 := Fr.app N_1 Nq_5
  refine o_bipush X_5 hq 57 d24_41 rfl ?_
  by_cases hc43__6 : (57 : Int32) < (f (3 : Int32))
  ·have hv_7 := hv_4.trans (if_pos hc43__6)
   refine o_icmpYes X_5 hq (pc' := 50) d24_43 (tlt hc43__6).2.2.1 (o_iconst X_5 hq 0 d24_50 rfl (o_istoreN X_5 hq d24_51 (l' := #[rv a1, iv 3, iv 5, iv 0, iv 3]) rfl (o_iinc X_5 hq d24_52 rfl (l' := #[rv a1, iv 3, iv 5, iv 0, iv 4]) rfl (o_goto X_5 hq (pc' := 14) d24_55 (o_iloadN X_5 hq d24_14 rfl (o_ifYes X_5 hq (pc' := 58) d24_15 (by decide) (o_iloadN X_5 hq d24_58 rfl ?_)))))))
   exact e_Z X_5 e_5 hq hlk hrt d24_59 ⟨(congrArg (fun z => some (Value.int z)) hv_7.symm), N_5, rfl⟩
  ·have hv_8 := hv_4.trans (if_neg hc43__6)
   refine o_icmpNo X_5 hq d24_43 (flt hc43__6).2.2.1 (o_iconst X_5 hq 1 d24_46 rfl (o_goto X_5 hq (pc' := 51) d24_47 (o_istoreN X_5 hq d24_51 (l' := #[rv a1, iv 3, iv 5, iv 1, iv 3]) rfl (o_iinc X_5 hq d24_52 rfl (l' := #[rv a1, iv 3, iv 5, iv 1, iv 4]) rfl (o_goto X_5 hq (pc' := 14) d24_55 (o_iloadN X_5 hq d24_14 rfl (o_ifNo X_5 hq d24_15 (by decide) (o_iload X_5 hq d24_18 rfl (o_iloadN X_5 hq d24_20 rfl (o_icmpNo X_5 hq d24_21 (by decide) (o_aloadN X_5 hq d24_24 rfl rfl (o_iload X_5 hq d24_25 rfl ?_))))))))))))
   refine c_U1 X_5 hq e_5 hZ hown hml (k24_100U1 hw) (rm11 hw a1 (4 : Int32) b k1 N vs d1 w sfv f h0 n0 Z0 E_s F_v F_c V_s S1 hw0 hat hf S2 hsf (by decide) (own_ltN (e := (5 : Int32)) (by decide) hN)) E_s d24_27 ?_ 0
   rintro T_9 L_9 _ X_9 ⟨⟨⟩, Nq_9, e_9⟩
   have N_9 := Fr.app N_5 Nq_9
   refine o_bipush X_9 hq 48 d24_30 rfl ?_
   by_cases hc32__10 : (f (4 : Int32)) < (48 : Int32)
   ·have hv_11 := hv_8.trans (if_pos hc32__10)
    refine o_icmpYes X_9 hq (pc' := 50) d24_32 (tlt hc32__10).1 (o_iconst X_9 hq 0 d24_50 rfl (o_istoreN X_9 hq d24_51 (l' := #[rv a1, iv 3, iv 5, iv 0, iv 4]) rfl (o_iinc X_9 hq d24_52 rfl (l' := #[rv a1, iv 3, iv 5, iv 0, iv 5]) rfl (o_goto X_9 hq (pc' := 14) d24_55 (o_iloadN X_9 hq d24_14 rfl (o_ifYes X_9 hq (pc' := 58) d24_15 (by decide) (o_iloadN X_9 hq d24_58 rfl ?_)))))))
    exact e_Z X_9 e_9 hq hlk hrt d24_59 ⟨(congrArg (fun z => some (Value.int z)) hv_11.symm), N_9, rfl⟩
   ·have hv_12 := hv_8.trans (if_neg hc32__10)
    refine o_icmpNo X_9 hq d24_32 (flt hc32__10).1 (o_aloadN X_9 hq d24_35 rfl rfl (o_iload X_9 hq d24_36 rfl ?_))
    refine c_U1 X_9 hq e_9 hZ hown hml (k24_100U1 hw) (rm11 hw a1 (4 : Int32) b k1 N vs d1 w sfv f h0 n0 Z0 E_s F_v F_c V_s S1 hw0 hat hf S2 hsf (by decide) (own_ltN (e := (5 : Int32)) (by decide) hN)) E_s d24_38 ?_ 0
    rintro T_13 L_13 _ X_13 ⟨⟨⟩, Nq_13, e_13⟩
    have N_13 := Fr.app N_9 Nq_13
    refine o_bipush X_13 hq 57 d24_41 rfl ?_
    by_cases hc43__14 : (57 : Int32) < (f (4 : Int32))
    ·have hv_15 := hv_12.trans (if_pos hc43__14)
     refine o_icmpYes X_13 hq (pc' := 50) d24_43 (tlt hc43__14).2.2.1 (o_iconst X_13 hq 0 d24_50 rfl (o_istoreN X_13 hq d24_51 (l' := #[rv a1, iv 3, iv 5, iv 0, iv 4]) rfl (o_iinc X_13 hq d24_52 rfl (l' := #[rv a1, iv 3, iv 5, iv 0, iv 5]) rfl (o_goto X_13 hq (pc' := 14) d24_55 (o_iloadN X_13 hq d24_14 rfl (o_ifYes X_13 hq (pc' := 58) d24_15 (by decide) (o_iloadN X_13 hq d24_58 rfl ?_)))))))
     exact e_Z X_13 e_13 hq hlk hrt d24_59 ⟨(congrArg (fun z => some (Value.int z)) hv_15.symm), N_13, rfl⟩
    ·have hv_16 := hv_12.trans (if_neg hc43__14)
     refine o_icmpNo X_13 hq d24_43 (flt hc43__14).2.2.1 (o_iconst X_13 hq 1 d24_46 rfl (o_goto X_13 hq (pc' := 51) d24_47 (o_istoreN X_13 hq d24_51 (l' := #[rv a1, iv 3, iv 5, iv 1, iv 4]) rfl (o_iinc X_13 hq d24_52 rfl (l' := #[rv a1, iv 3, iv 5, iv 1, iv 5]) rfl (o_goto X_13 hq (pc' := 14) d24_55 (o_iloadN X_13 hq d24_14 rfl (o_ifNo X_13 hq d24_15 (by decide) (o_iload X_13 hq d24_18 rfl (o_iloadN X_13 hq d24_20 rfl (o_icmpYes X_13 hq (pc' := 58) d24_21 (by decide) (o_iloadN X_13 hq d24_58 rfl ?_)))))))))))
     exact e_Z X_13 e_13 hq hlk hrt d24_59 ⟨(congrArg (fun z => some (Value.int z)) hv_16.symm), N_13, rfl⟩
def own_dg_4_5 (f : Int32 → Int32) : Int32 := (if (f (4 : Int32)) < (48 : Int32) then (0 : Int32) else (if (57 : Int32) < (f (4 : Int32)) then (0 : Int32) else (1 : Int32)))
def Q_rmdg4_5 (Z : State) (a0 : Array Value) (a1 b : Addr) (k1 : ClassId) (N : Int32) (vs : List Value) (d1 : Value) (w : Int32) (sfv : Value) (f : Int32 → Int32) (h0 : Heap) (n0 : Nat) (v : Option Value) (h : Heap) (L : List Loc) : Prop := v = some (.int (own_dg_4_5 f)) ∧ Fr n0 L ∧ h = h0
theorem rmdg4_5 (hw : HW a0 Z) (a1 b : Addr) (k1 : ClassId) (N : Int32) (vs : List Value) (d1 : Value) (w : Int32) (sfv : Value) (f : Int32 → Int32) (h0 : Heap) (n0 : Nat) (Z0 : n0 ≤ h0.size) (E_s : Exa Z h0 a1 "java/lang/String") (F_v : Fld Z h0 a1 "java/lang/String" "value" "[B" (.ref b)) (F_c : Fld Z h0 a1 "java/lang/String" "coder" "B" (.int (0 : Int32))) (V_s : Arv Z h0 b k1 .byte N vs d1) (S1 : Sta Z h0 "java/lang/String" "COMPACT_STRINGS" "Z" (.int w)) (hw0 : ¬ w = (0 : Int32)) (hat : ∀ i : Int32, ¬ i < 0 → i < N → vs.getD i.toNatClampNeg d1 = .int (((f i).toInt8.toInt32).toInt8.toInt32)) (hf : ∀ i : Int32, ¬ (255 : Int32) < f i ∧ ¬ f i < 0) (S2 : Sta Z h0 "jdk/internal/util/Preconditions" "SIOOBE_FORMATTER" "Ljava/util/function/BiFunction;" sfv) (hsf : sfv.isRef = true) (hN : ¬ N < (5 : Int32)) :
  own_Met l y0_ prog_24_method_6_code 5 (some .boolean) (R_ 4 0 0 53) #[(.ref a1), (.int (4 : Int32)), (.int (5 : Int32))] Z h0 (Q_rmdg4_5 Z a0 a1 b k1 N vs d1 w sfv f h0 n0) := by
 refine own_bd (own := "com/example/nimble_anonymizer/nimbleanonymizer/NumericColumn") rfl (plainFor_of_name pn_9) #[rv a1, iv 4, iv 5, .unset, .unset] ?_
 intro p e s m below meth c s₁ hx hby hq hml hown hnm hlk hrt hZ X0 e0
 have hv : own_dg_4_5 f = (if (f (4 : Int32)) < (48 : Int32) then (0 : Int32) else (if (57 : Int32) < (f (4 : Int32)) then (0 : Int32) else (1 : Int32))) := rfl
 show own_Go _ _ _ _ (s₁.setTop (mkF m 0 #[rv a1, iv 4, iv 5, .unset, .unset] []))
 refine o_iloadN X0 hq d24_0 rfl (o_iloadN X0 hq d24_1 rfl (o_icmpNo X0 hq d24_2 (by decide) (o_iconst X0 hq 1 d24_5 rfl (o_goto X0 hq (pc' := 10) d24_6 (o_istoreN X0 hq d24_10 (l' := #[rv a1, iv 4, iv 5, iv 1, .unset]) rfl (o_iloadN X0 hq d24_11 rfl (o_istore X0 hq d24_12 (l' := #[rv a1, iv 4, iv 5, iv 1, iv 4]) rfl (o_iloadN X0 hq d24_14 rfl (o_ifNo X0 hq d24_15 (by decide) (o_iload X0 hq d24_18 rfl (o_iloadN X0 hq d24_20 rfl (o_icmpNo X0 hq d24_21 (by decide) (o_aloadN X0 hq d24_24 rfl rfl (o_iload X0 hq d24_25 rfl ?_))))))))))))))
 refine c_U1 X0 hq e0 hZ hown hml (k24_100U1 hw) (rm11 hw a1 (4 : Int32) b k1 N vs d1 w sfv f h0 n0 Z0 E_s F_v F_c V_s S1 hw0 hat hf S2 hsf (by decide) (own_ltN (e := (5 : Int32)) (by decide) hN)) E_s d24_27 ?_ 0
 rintro T_1 L_1 _ X_1 ⟨⟨⟩, Nq_1, e_1⟩
 have N_1 := Fr.app (Fr.nil n0) Nq_1
 refine o_bipush X_1 hq 48 d24_30 rfl ?_
 by_cases hc32__2 : (f (4 : Int32)) < (48 : Int32)
 ·have hv_3 := hv.trans (if_pos hc32__2)
  refine o_icmpYes X_1 hq (pc' := 50) d24_32 (tlt hc32__2).1 (o_iconst X_1 hq 0 d24_50 rfl (o_istoreN X_1 hq d24_51 (l' := #[rv a1, iv 4, iv 5, iv 0, iv 4]) rfl (o_iinc X_1 hq d24_52 rfl (l' := #[rv a1, iv 4, iv 5, iv 0, iv 5]) rfl (o_goto X_1 hq (pc' := 14) d24_55 (o_iloadN X_1 hq d24_14 rfl (o_ifYes X_1 hq (pc' := 58) d24_15 (by decide) (o_iloadN X_1 hq d24_58 rfl ?_)))))))
  exact e_Z X_1 e_1 hq hlk hrt d24_59 ⟨(congrArg (fun z => some (Value.int z)) hv_3.symm), N_1, rfl⟩
 ·have hv_4 := hv.trans (if_neg hc32__2)
  refine o_icmpNo X_1 hq d24_32 (flt hc32__2).1 (o_aloadN X_1 hq d24_35 rfl rfl (o_iload X_1 hq d24_36 rfl ?_))
  refine c_U1 X_1 hq e_1 hZ hown hml (k24_100U1 hw) (rm11 hw a1 (4 : Int32) b k1 N vs d1 w sfv f h0 n0 Z0 E_s F_v F_c V_s S1 hw0 hat hf S2 hsf (by decide) (own_ltN (e := (5 : Int32)) (by decide) hN)) E_s d24_38 ?_ 0
  rintro T_5 L_5 _ X_5 ⟨⟨⟩, Nq_5, e_5⟩
  have N_5 := Fr.app N_1 Nq_5
  refine o_bipush X_5 hq 57 d24_41 rfl ?_
  by_cases hc43__6 : (57 : Int32) < (f (4 : Int32))
  ·have hv_7 := hv_4.trans (if_pos hc43__6)
   refine o_icmpYes X_5 hq (pc' := 50) d24_43 (tlt hc43__6).2.2.1 (o_iconst X_5 hq 0 d24_50 rfl (o_istoreN X_5 hq d24_51 (l' := #[rv a1, iv 4, iv 5, iv 0, iv 4]) rfl (o_iinc X_5 hq d24_52 rfl (l' := #[rv a1, iv 4, iv 5, iv 0, iv 5]) rfl (o_goto X_5 hq (pc' := 14) d24_55 (o_iloadN X_5 hq d24_14 rfl (o_ifYes X_5 hq (pc' := 58) d24_15 (by decide) (o_iloadN X_5 hq d24_58 rfl ?_)))))))
   exact e_Z X_5 e_5 hq hlk hrt d24_59 ⟨(congrArg (fun z => some (Value.int z)) hv_7.symm), N_5, rfl⟩
  ·have hv_8 := hv_4.trans (if_neg hc43__6)
   refine o_icmpNo X_5 hq d24_43 (flt hc43__6).2.2.1 (o_iconst X_5 hq 1 d24_46 rfl (o_goto X_5 hq (pc' := 51) d24_47 (o_istoreN X_5 hq d24_51 (l' := #[rv a1, iv 4, iv 5, iv 1, iv 4]) rfl (o_iinc X_5 hq d24_52 rfl (l' := #[rv a1, iv 4, iv 5, iv 1, iv 5]) rfl (o_goto X_5 hq (pc' := 14) d24_55 (o_iloadN X_5 hq d24_14 rfl (o_ifNo X_5 hq d24_15 (by decide) (o_iload X_5 hq d24_18 rfl (o_iloadN X_5 hq d24_20 rfl (o_icmpYes X_5 hq (pc' := 58) d24_21 (by decide) (o_iloadN X_5 hq d24_58 rfl ?_)))))))))))
   exact e_Z X_5 e_5 hq hlk hrt d24_59 ⟨(congrArg (fun z => some (Value.int z)) hv_8.symm), N_5, rfl⟩
def Q_rmdg5_5 (Z : State) (a0 : Array Value) (a1 : Addr) (h0 : Heap) (n0 : Nat) (v : Option Value) (h : Heap) (L : List Loc) : Prop := v = some (.int (0 : Int32)) ∧ Fr n0 L ∧ h = h0
theorem rmdg5_5 (hw : HW a0 Z) (a1 : Addr) (h0 : Heap) (n0 : Nat) (Z0 : n0 ≤ h0.size) :
  own_Met l y0_ prog_24_method_6_code 5 (some .boolean) (R_ 0 0 0 0) #[(.ref a1), (.int (5 : Int32)), (.int (5 : Int32))] Z h0 (Q_rmdg5_5 Z a0 a1 h0 n0) := by
 refine own_bd (own := "com/example/nimble_anonymizer/nimbleanonymizer/NumericColumn") rfl (plainFor_of_name pn_9) #[rv a1, iv 5, iv 5, .unset, .unset] ?_
 intro p e s m below meth c s₁ hx hby hq hml hown hnm hlk hrt hZ X0 e0
 refine o_iloadN X0 hq d24_0 rfl (o_iloadN X0 hq d24_1 rfl (o_icmpYes X0 hq (pc' := 9) d24_2 (by decide) (o_iconst X0 hq 0 d24_9 rfl (o_istoreN X0 hq d24_10 (l' := #[rv a1, iv 5, iv 5, iv 0, .unset]) rfl (o_iloadN X0 hq d24_11 rfl (o_istore X0 hq d24_12 (l' := #[rv a1, iv 5, iv 5, iv 0, iv 5]) rfl (o_iloadN X0 hq d24_14 rfl (o_ifYes X0 hq (pc' := 58) d24_15 (by decide) (o_iloadN X0 hq d24_58 rfl ?_)))))))))
 exact e_Z X0 e0 hq hlk hrt d24_59 ⟨rfl, (Fr.nil n0), rfl⟩
def own_isn_0 (f : Int32 → Int32) : Int32 := (0 : Int32)
abbrev D8 := decode prog_24_method_4_code
theorem d8_0 : D8 0 = .ok (.aload_n 0, 1) := by decide +kernel
theorem d8_1 : D8 1 = .ok (.invokestatic 81, 3) := by decide +kernel
theorem pd_15 : parseMethodDescriptor "(Ljava/lang/String;)Z" = some ⟨[(.object "java/lang/String")], some .boolean⟩ := by decide +kernel
theorem k8_81 {a0 : Array Value} {Z : State} (hw : HW a0 Z) : own_KS a0 Z "com/example/nimble_anonymizer/nimbleanonymizer/NumericColumn" "" 81 y18_ y18_ prog_24_method_5_code 1 (some .boolean) 1 := ⟨⟨(w_ hw 39 rfl), ⟨_, _, pd_15, rfl⟩, by decide⟩, (w_ hw 40 rfl), (w_ hw 37 rfl), (w_ hw 41 rfl)⟩
theorem d8_4 : D8 4 = .ok (.ifCond .eq 7, 3) := by decide +kernel
theorem d8_11 : D8 11 = .ok (.iconst 0, 1) := by decide +kernel
theorem d8_12 : D8 12 = .ok (.istore_n 1, 1) := by decide +kernel
theorem d8_13 : D8 13 = .ok (.aload_n 0, 1) := by decide +kernel
theorem d8_14 : D8 14 = .ok (.bipush 46, 2) := by decide +kernel
theorem d8_16 : D8 16 = .ok (.iload_n 1, 1) := by decide +kernel
theorem d8_17 : D8 17 = .ok (.invokevirtual 85, 3) := by decide +kernel
section Sm
variable {p : Program} {l : Launch} {e : Env} {R : Room} {s : State} {m : MethodId} {args : Array Value} {below : List Frame} {meth : Method} {c : Code} {T : State} {locs : List Loc} {cells slots : Nat} {P : Outcome → State → Prop} {pc : Nat} {Ls : Array Slot} {st : List Value}
theorem c_U2 (X : Stand p l e R s m args below meth c T locs cells slots) {cb : ByteArray} (hq : p.tables.exec = Jvm.exec ∧ c.code = cb) {Z : State} {a0 : Array Value} {h : Heap} {own C : String} {index : Nat} {y z : MethodName} {bytes : ByteArray} {maxL ML : Nat} {ret : Option FieldType} {rm : Room} {Q : Option Value → Heap → List Loc → Prop} {a : Addr} {v1 v2 : Value}
  (eT : T.heap = h) (hZ : Z.Warmed39 s.vm) (hown : s.vm.findClass own = some m.cls) (hml : c.maxLocals = ML) (hK : own_KU a0 Z own C index y z bytes maxL ret 2) (hM : own_Met l y bytes maxL ret rm #[(.ref a), v1, v2] Z h Q) (E : Exa Z h a C)
  (hd : decode cb pc = .ok (.invokevirtual index, 3)) 
  (k : ∀ (T' : State) (L : List Loc) (w : Value), Stand p l e R s m args below meth c T' (locs ++ L) (cells + rm.cells) (slots + rm.slots) → Q (some w) T'.heap L → own_Go p.tables e below P (T'.setTop (mkF m (pc + 3) Ls (w :: st)))) (W : Nat) (hsz : Ls.size = ML := by rfl) (hW : (st.map fun v => v.category).sum = W := by rfl) (sd : rm.frames + 1 ≤ R.frames ∧ W + (maxL + 11) + rm.locals ≤ R.locals ∧ cells + rm.cells ≤ R.cells ∧ slots + rm.slots ≤ R.slots := by decide) (hv : ∀ v h L, Q v h L → ∃ w, v = some w := by intro v h L q; first | exact Exists.intro _ q.1 | (obtain ⟨_, q⟩ := q; exact Exists.intro _ q.1) | (obtain ⟨_, _, q⟩ := q; exact Exists.intro _ q.1) | (obtain ⟨_, _, _, q⟩ := q; exact Exists.intro _ q.1)) : own_Go p.tables e below P (T.setTop (mkF m pc Ls (v2 :: v1 :: (.ref a) :: st))) := by
 obtain ⟨⟨w1, ⟨ps, r, hp, hlen⟩, hy⟩, w2, w5, w6, w3, w4⟩ := hK
 obtain ⟨cB, kB, q1, -, q3⟩ := isOf hZ eT E
 have nf : NotFace s y := notFace_of_selects (args := #[]) (mvT hZ w5)
 obtain ⟨v, vm1, ⟨T', L0, k0, n0⟩, -, X', ⟨L, hQ, e1, e2, e3⟩, hst⟩ := X.virtualBack hq.1 (y := y) (z := y) hown (mvT hZ w1) (mvT hZ w2) nf (mvT hZ w5) (mvT hZ w6) hy (backOf (W := W) (Q := Q) hM hZ w4 w3 sd.1 sd.2.1) q1 q3 (g := mkF m pc Ls (v2 :: v1 :: (.ref a) :: st)) rfl (by rw [hml]; exact hsz) (Steps.refl _) (argsL := [v1, v2]) (rest := st) (lenOf hp hlen) rfl (by show 2 * 0 + _ ≤ _; rw [Nat.mul_zero, Nat.zero_add]; exact Nat.le_of_eq hW) (hb hq.2 hd) (fun _ _ => ⟨rfl, eT, sd.2.2.1, sd.2.2.2⟩)
 dsimp only [Pt.U, Pt.locs, Pt.cells, Pt.slots] at X' e1 e2 e3 hst hQ
 subst e1 e2 e3
 obtain ⟨w, rfl⟩ := hv _ _ _ hQ
 exact own_tr hst (k _ _ _ X' hQ)
end Sm
theorem k8_85U1 {a0 : Array Value} {Z : State} (hw : HW a0 Z) : own_KU a0 Z "com/example/nimble_anonymizer/nimbleanonymizer/NumericColumn" "java/lang/String" 85 y2_ y2_ jdk_42_method_80_code 3 (some .int) 2 := ⟨⟨(w_ hw 69 rfl), ⟨_, _, pd_12, rfl⟩, by decide⟩, (w_ hw 70 rfl), (w_ hw 72 rfl), (w_ hw 71 rfl), (w_ hw 8 rfl), (w_ hw 73 rfl)⟩
theorem d8_20 : D8 20 = .ok (.istore_n 2, 1) := by decide +kernel
theorem d8_21 : D8 21 = .ok (.iload_n 2, 1) := by decide +kernel
theorem d8_22 : D8 22 = .ok (.ifCond .ge 15, 3) := by decide +kernel
theorem d8_25 : D8 25 = .ok (.aload_n 0, 1) := by decide +kernel
theorem d8_26 : D8 26 = .ok (.iload_n 1, 1) := by decide +kernel
theorem d8_27 : D8 27 = .ok (.aload_n 0, 1) := by decide +kernel
theorem d8_28 : D8 28 = .ok (.invokevirtual 89, 3) := by decide +kernel
theorem k8_89U1 {a0 : Array Value} {Z : State} (hw : HW a0 Z) : own_KU a0 Z "com/example/nimble_anonymizer/nimbleanonymizer/NumericColumn" "java/lang/String" 89 y13_ y13_ jdk_42_method_54_code 1 (some .int) 0 := ⟨⟨(w_ hw 100 rfl), ⟨_, _, pd_13, rfl⟩, by decide⟩, (w_ hw 75 rfl), (w_ hw 77 rfl), (w_ hw 76 rfl), (w_ hw 8 rfl), (w_ hw 78 rfl)⟩
theorem d8_31 : D8 31 = .ok (.invokestatic 92, 3) := by decide +kernel
theorem pd_16 : parseMethodDescriptor "(Ljava/lang/String;II)Z" = some ⟨[(.object "java/lang/String"), .int, .int], some .boolean⟩ := by decide +kernel
theorem k8_92 {a0 : Array Value} {Z : State} (hw : HW a0 Z) : own_KS a0 Z "com/example/nimble_anonymizer/nimbleanonymizer/NumericColumn" "" 92 y0_ y0_ prog_24_method_6_code 5 (some .boolean) 3 := ⟨⟨(w_ hw 101 rfl), ⟨_, _, pd_16, rfl⟩, by decide⟩, (w_ hw 102 rfl), (w_ hw 37 rfl), (w_ hw 103 rfl)⟩
theorem d8_34 : D8 34 = .ok (.goto 31, 3) := by decide +kernel
theorem d8_65 : D8 65 = .ok (.ireturn, 1) := by decide +kernel
def Q_rmisn0 (Z : State) (a0 : Array Value) (a1 b : Addr) (k1 : ClassId) (vs : List Value) (d1 : Value) (w : Int32) (sfv : Value) (f : Int32 → Int32) (h0 : Heap) (n0 : Nat) (v : Option Value) (h : Heap) (L : List Loc) : Prop := v = some (.int (own_isn_0 f)) ∧ Fr n0 L ∧ h = h0
theorem rmisn0 (hw : HW a0 Z) (a1 b : Addr) (k1 : ClassId) (vs : List Value) (d1 : Value) (w : Int32) (sfv : Value) (f : Int32 → Int32) (h0 : Heap) (n0 : Nat) (Z0 : n0 ≤ h0.size) (E_s : Exa Z h0 a1 "java/lang/String") (F_v : Fld Z h0 a1 "java/lang/String" "value" "[B" (.ref b)) (F_c : Fld Z h0 a1 "java/lang/String" "coder" "B" (.int (0 : Int32))) (V_s : Arv Z h0 b k1 .byte (0 : Int32) vs d1) (S1 : Sta Z h0 "java/lang/String" "COMPACT_STRINGS" "Z" (.int w)) (hw0 : ¬ w = (0 : Int32)) (hat : ∀ i : Int32, ¬ i < 0 → i < (0 : Int32) → vs.getD i.toNatClampNeg d1 = .int (((f i).toInt8.toInt32).toInt8.toInt32)) (hf : ∀ i : Int32, ¬ (255 : Int32) < f i ∧ ¬ f i < 0) (S2 : Sta Z h0 "jdk/internal/util/Preconditions" "SIOOBE_FORMATTER" "Ljava/util/function/BiFunction;" sfv) (hsf : sfv.isRef = true) :
  own_Met l y7_ prog_24_method_4_code 3 (some .boolean) (R_ 3 0 0 42) #[(.ref a1)] Z h0 (Q_rmisn0 Z a0 a1 b k1 vs d1 w sfv f h0 n0) := by
 refine own_bd (own := "com/example/nimble_anonymizer/nimbleanonymizer/NumericColumn") rfl (plainFor_of_name pn_9) #[rv a1, .unset, .unset] ?_
 intro p e s m below meth c s₁ hx hby hq hml hown hnm hlk hrt hZ X0 e0
 have hv : own_isn_0 f = (0 : Int32) := rfl
 show own_Go _ _ _ _ (s₁.setTop (mkF m 0 #[rv a1, .unset, .unset] []))
 refine o_aloadN X0 hq d8_0 rfl rfl ?_
 refine c_S1 X0 hq e0 hZ hown hml (k8_81 hw) (rmsg0 hw a1 b k1 vs d1 w h0 n0 Z0 E_s F_v F_c V_s S1 hw0) d8_1 ?_ 0
 rintro T_1 L_1 _ X_1 ⟨⟨⟩, Nq_1, e_1⟩
 have N_1 := Fr.app (Fr.nil n0) Nq_1
 refine o_ifYes X_1 hq (pc' := 11) d8_4 (by decide) (o_iconst X_1 hq 0 d8_11 rfl (o_istoreN X_1 hq d8_12 (l' := #[rv a1, iv 0, .unset]) rfl (o_aloadN X_1 hq d8_13 rfl rfl (o_bipush X_1 hq 46 d8_14 rfl (o_iloadN X_1 hq d8_16 rfl ?_)))))
 refine c_U2 X_1 hq e_1 hZ hown hml (k8_85U1 hw) (rmsi0_0 hw a1 b k1 vs d1 w sfv f h0 n0 Z0 E_s F_v F_c V_s S1 hw0 hat hf S2 hsf) E_s d8_17 ?_ 0
 rintro T_2 L_2 _ X_2 ⟨⟨⟩, Nq_2, e_2⟩
 have N_2 := Fr.app N_1 Nq_2
 refine o_istoreN X_2 hq d8_20 (l' := #[rv a1, iv 0, iv (-1)]) rfl (o_iloadN X_2 hq d8_21 rfl (o_ifNo X_2 hq d8_22 (by decide) (o_aloadN X_2 hq d8_25 rfl rfl (o_iloadN X_2 hq d8_26 rfl (o_aloadN X_2 hq d8_27 rfl rfl ?_)))))
 refine c_U0 X_2 hq e_2 hZ hown hml (k8_89U1 hw) (rmlenN hw a1 b k1 (0 : Int32) vs d1 w h0 n0 Z0 E_s F_v F_c V_s S1 hw0) E_s d8_28 ?_ 2
 rintro T_3 L_3 _ X_3 ⟨⟨⟩, Nq_3, e_3⟩
 have N_3 := Fr.app N_2 Nq_3
 refine c_S3 X_3 hq e_3 hZ hown hml (k8_92 hw) (rmdg0_0 hw a1  h0 n0 Z0) d8_31 ?_ 0
 rintro T_4 L_4 _ X_4 ⟨⟨⟩, Nq_4, e_4⟩
 have N_4 := Fr.app N_3 Nq_4
 refine o_goto X_4 hq (pc' := 65) d8_34 ?_
 exact e_Z X_4 e_4 hq hlk hrt d8_65 ⟨(congrArg (fun z => some (Value.int z)) hv.symm), N_4, rfl⟩
def own_isn_1 (f : Int32 → Int32) : Int32 := (if (own_sg f) = (0 : Int32) then (if (((f (0 : Int32)).toInt8.toInt32).toInt8.toInt32) = (46 : Int32) then (0 : Int32) else (nar .boolean (own_dg_0_1 f))) else (0 : Int32))
theorem d8_37 : D8 37 = .ok (.aload_n 0, 1) := by decide +kernel
theorem d8_38 : D8 38 = .ok (.iload_n 1, 1) := by decide +kernel
theorem d8_39 : D8 39 = .ok (.iload_n 2, 1) := by decide +kernel
theorem d8_40 : D8 40 = .ok (.invokestatic 92, 3) := by decide +kernel
theorem d8_43 : D8 43 = .ok (.ifCond .eq 21, 3) := by decide +kernel
theorem d8_64 : D8 64 = .ok (.iconst 0, 1) := by decide +kernel
theorem d8_7 : D8 7 = .ok (.iconst 1, 1) := by decide +kernel
theorem d8_8 : D8 8 = .ok (.goto 4, 3) := by decide +kernel
def Q_rmisn1 (Z : State) (a0 : Array Value) (a1 b : Addr) (k1 : ClassId) (vs : List Value) (d1 : Value) (w : Int32) (sfv : Value) (f : Int32 → Int32) (h0 : Heap) (n0 : Nat) (v : Option Value) (h : Heap) (L : List Loc) : Prop := v = some (.int (own_isn_1 f)) ∧ Fr n0 L ∧ h = h0
theorem rmisn1 (hw : HW a0 Z) (a1 b : Addr) (k1 : ClassId) (vs : List Value) (d1 : Value) (w : Int32) (sfv : Value) (f : Int32 → Int32) (h0 : Heap) (n0 : Nat) (Z0 : n0 ≤ h0.size) (E_s : Exa Z h0 a1 "java/lang/String") (F_v : Fld Z h0 a1 "java/lang/String" "value" "[B" (.ref b)) (F_c : Fld Z h0 a1 "java/lang/String" "coder" "B" (.int (0 : Int32))) (V_s : Arv Z h0 b k1 .byte (1 : Int32) vs d1) (S1 : Sta Z h0 "java/lang/String" "COMPACT_STRINGS" "Z" (.int w)) (hw0 : ¬ w = (0 : Int32)) (hat : ∀ i : Int32, ¬ i < 0 → i < (1 : Int32) → vs.getD i.toNatClampNeg d1 = .int (((f i).toInt8.toInt32).toInt8.toInt32)) (hf : ∀ i : Int32, ¬ (255 : Int32) < f i ∧ ¬ f i < 0) (S2 : Sta Z h0 "jdk/internal/util/Preconditions" "SIOOBE_FORMATTER" "Ljava/util/function/BiFunction;" sfv) (hsf : sfv.isRef = true) :
  own_Met l y7_ prog_24_method_4_code 3 (some .boolean) (R_ 5 0 0 69) #[(.ref a1)] Z h0 (Q_rmisn1 Z a0 a1 b k1 vs d1 w sfv f h0 n0) := by
 refine own_bd (own := "com/example/nimble_anonymizer/nimbleanonymizer/NumericColumn") rfl (plainFor_of_name pn_9) #[rv a1, .unset, .unset] ?_
 intro p e s m below meth c s₁ hx hby hq hml hown hnm hlk hrt hZ X0 e0
 have hv : own_isn_1 f = (if (own_sg f) = (0 : Int32) then (if (((f (0 : Int32)).toInt8.toInt32).toInt8.toInt32) = (46 : Int32) then (0 : Int32) else (nar .boolean (own_dg_0_1 f))) else (0 : Int32)) := rfl
 show own_Go _ _ _ _ (s₁.setTop (mkF m 0 #[rv a1, .unset, .unset] []))
 refine o_aloadN X0 hq d8_0 rfl rfl ?_
 refine c_S1 X0 hq e0 hZ hown hml (k8_81 hw) (rmsgN hw a1 b k1 (1 : Int32) vs d1 w sfv f h0 n0 Z0 E_s F_v F_c V_s S1 hw0 hat hf S2 hsf (by decide) (by decide)) d8_1 ?_ 0
 rintro T_1 L_1 _ X_1 ⟨⟨⟩, Nq_1, e_1⟩
 have N_1 := Fr.app (Fr.nil n0) Nq_1
 by_cases hc4__2 : (own_sg f) = (0 : Int32)
 ·have hv_3 := hv.trans (if_pos hc4__2)
  refine o_ifYes X_1 hq (pc' := 11) d8_4 (teq hc4__2).1 (o_iconst X_1 hq 0 d8_11 rfl (o_istoreN X_1 hq d8_12 (l' := #[rv a1, iv 0, .unset]) rfl (o_aloadN X_1 hq d8_13 rfl rfl (o_bipush X_1 hq 46 d8_14 rfl (o_iloadN X_1 hq d8_16 rfl ?_)))))
  refine c_U2 X_1 hq e_1 hZ hown hml (k8_85U1 hw) (rmsi0_1 hw a1 b k1 vs d1 w sfv f h0 n0 Z0 E_s F_v F_c V_s S1 hw0 hat hf S2 hsf) E_s d8_17 ?_ 0
  rintro T_4 L_4 _ X_4 ⟨⟨⟩, Nq_4, e_4⟩
  have N_4 := Fr.app N_1 Nq_4
  refine o_istoreN X_4 hq d8_20 (l' := #[rv a1, iv 0, iv (own_ix_0_1 f)]) rfl ?_
  by_cases hp_5 : (((f (0 : Int32)).toInt8.toInt32).toInt8.toInt32) = (46 : Int32)
  ·have hv_6 := hv_3.trans (if_pos hp_5)
   have hI_7 : own_ix_0_1 f = (0 : Int32) := (if_pos hp_5)
   rw [hI_7]
   show own_Go _ _ _ _ (T_4.setTop (mkF m 21 #[rv a1, iv 0, iv 0] []))
   refine o_iloadN X_4 hq d8_21 rfl (o_ifYes X_4 hq (pc' := 37) d8_22 (by decide) (o_aloadN X_4 hq d8_37 rfl rfl (o_iloadN X_4 hq d8_38 rfl (o_iloadN X_4 hq d8_39 rfl ?_))))
   refine c_S3 X_4 hq e_4 hZ hown hml (k8_92 hw) (rmdg0_0 hw a1  h0 n0 Z0) d8_40 ?_ 0
   rintro T_8 L_8 _ X_8 ⟨⟨⟩, Nq_8, e_8⟩
   have N_8 := Fr.app N_4 Nq_8
   refine o_ifYes X_8 hq (pc' := 64) d8_43 (by decide) (o_iconst X_8 hq 0 d8_64 rfl ?_)
   exact e_Z X_8 e_8 hq hlk hrt d8_65 ⟨(congrArg (fun z => some (Value.int z)) hv_6.symm), N_8, rfl⟩
  ·have hv_9 := hv_3.trans (if_neg hp_5)
   have hI_10 : own_ix_0_1 f = (-1 : Int32) := (if_neg hp_5)
   rw [hI_10]
   show own_Go _ _ _ _ (T_4.setTop (mkF m 21 #[rv a1, iv 0, iv (-1)] []))
   refine o_iloadN X_4 hq d8_21 rfl (o_ifNo X_4 hq d8_22 (by decide) (o_aloadN X_4 hq d8_25 rfl rfl (o_iloadN X_4 hq d8_26 rfl (o_aloadN X_4 hq d8_27 rfl rfl ?_))))
   refine c_U0 X_4 hq e_4 hZ hown hml (k8_89U1 hw) (rmlenN hw a1 b k1 (1 : Int32) vs d1 w h0 n0 Z0 E_s F_v F_c V_s S1 hw0) E_s d8_28 ?_ 2
   rintro T_11 L_11 _ X_11 ⟨⟨⟩, Nq_11, e_11⟩
   have N_11 := Fr.app N_4 Nq_11
   refine c_S3 X_11 hq e_11 hZ hown hml (k8_92 hw) (rmdg0_1 hw a1 b k1 (1 : Int32) vs d1 w sfv f h0 n0 Z0 E_s F_v F_c V_s S1 hw0 hat hf S2 hsf (by decide)) d8_31 ?_ 0
   rintro T_12 L_12 _ X_12 ⟨⟨⟩, Nq_12, e_12⟩
   have N_12 := Fr.app N_11 Nq_12
   refine o_goto X_12 hq (pc' := 65) d8_34 ?_
   exact e_Z X_12 e_12 hq hlk hrt d8_65 ⟨(congrArg (fun z => some (Value.int z)) hv_9.symm), N_12, rfl⟩
 ·have hv_13 := hv.trans (if_neg hc4__2)
  refine o_ifNo X_1 hq d8_4 (feq hc4__2).1 (o_iconst X_1 hq 1 d8_7 rfl (o_goto X_1 hq (pc' := 12) d8_8 (o_istoreN X_1 hq d8_12 (l' := #[rv a1, iv 1, .unset]) rfl (o_aloadN X_1 hq d8_13 rfl rfl (o_bipush X_1 hq 46 d8_14 rfl (o_iloadN X_1 hq d8_16 rfl ?_))))))
  refine c_U2 X_1 hq e_1 hZ hown hml (k8_85U1 hw) (rmsi1_1 hw a1 b k1 vs d1 w sfv f h0 n0 Z0 E_s F_v F_c V_s S1 hw0 hat hf S2 hsf) E_s d8_17 ?_ 0
  rintro T_14 L_14 _ X_14 ⟨⟨⟩, Nq_14, e_14⟩
  have N_14 := Fr.app N_1 Nq_14
  refine o_istoreN X_14 hq d8_20 (l' := #[rv a1, iv 1, iv (-1)]) rfl (o_iloadN X_14 hq d8_21 rfl (o_ifNo X_14 hq d8_22 (by decide) (o_aloadN X_14 hq d8_25 rfl rfl (o_iloadN X_14 hq d8_26 rfl (o_aloadN X_14 hq d8_27 rfl rfl ?_)))))
  refine c_U0 X_14 hq e_14 hZ hown hml (k8_89U1 hw) (rmlenN hw a1 b k1 (1 : Int32) vs d1 w h0 n0 Z0 E_s F_v F_c V_s S1 hw0) E_s d8_28 ?_ 2
  rintro T_15 L_15 _ X_15 ⟨⟨⟩, Nq_15, e_15⟩
  have N_15 := Fr.app N_14 Nq_15
  refine c_S3 X_15 hq e_15 hZ hown hml (k8_92 hw) (rmdg1_1 hw a1  h0 n0 Z0) d8_31 ?_ 0
  rintro T_16 L_16 _ X_16 ⟨⟨⟩, Nq_16, e_16⟩
  have N_16 := Fr.app N_15 Nq_16
  refine o_goto X_16 hq (pc' := 65) d8_34 ?_
  exact e_Z X_16 e_16 hq hlk hrt d8_65 ⟨(congrArg (fun z => some (Value.int z)) hv_13.symm), N_16, rfl⟩
def own_isn_2 (f : Int32 → Int32) : Int32 := (if (own_sg f) = (0 : Int32) then (if (((f (0 : Int32)).toInt8.toInt32).toInt8.toInt32) = (46 : Int32) then (0 : Int32) else (if (((f (1 : Int32)).toInt8.toInt32).toInt8.toInt32) = (46 : Int32) then (if (own_dg_0_1 f) = (0 : Int32) then (0 : Int32) else (0 : Int32)) else (nar .boolean (own_dg_0_2 f)))) else (if (((f (1 : Int32)).toInt8.toInt32).toInt8.toInt32) = (46 : Int32) then (0 : Int32) else (nar .boolean (own_dg_1_2 f))))
theorem d8_46 : D8 46 = .ok (.aload_n 0, 1) := by decide +kernel
theorem d8_47 : D8 47 = .ok (.iload_n 2, 1) := by decide +kernel
theorem d8_48 : D8 48 = .ok (.iconst 1, 1) := by decide +kernel
theorem d8_49 : D8 49 = .ok (.iadd, 1) := by decide +kernel
theorem d8_50 : D8 50 = .ok (.aload_n 0, 1) := by decide +kernel
theorem d8_51 : D8 51 = .ok (.invokevirtual 89, 3) := by decide +kernel
theorem d8_54 : D8 54 = .ok (.invokestatic 92, 3) := by decide +kernel
theorem d8_57 : D8 57 = .ok (.ifCond .eq 7, 3) := by decide +kernel
def Q_rmisn2 (Z : State) (a0 : Array Value) (a1 b : Addr) (k1 : ClassId) (vs : List Value) (d1 : Value) (w : Int32) (sfv : Value) (f : Int32 → Int32) (h0 : Heap) (n0 : Nat) (v : Option Value) (h : Heap) (L : List Loc) : Prop := v = some (.int (own_isn_2 f)) ∧ Fr n0 L ∧ h = h0
theorem rmisn2 (hw : HW a0 Z) (a1 b : Addr) (k1 : ClassId) (vs : List Value) (d1 : Value) (w : Int32) (sfv : Value) (f : Int32 → Int32) (h0 : Heap) (n0 : Nat) (Z0 : n0 ≤ h0.size) (E_s : Exa Z h0 a1 "java/lang/String") (F_v : Fld Z h0 a1 "java/lang/String" "value" "[B" (.ref b)) (F_c : Fld Z h0 a1 "java/lang/String" "coder" "B" (.int (0 : Int32))) (V_s : Arv Z h0 b k1 .byte (2 : Int32) vs d1) (S1 : Sta Z h0 "java/lang/String" "COMPACT_STRINGS" "Z" (.int w)) (hw0 : ¬ w = (0 : Int32)) (hat : ∀ i : Int32, ¬ i < 0 → i < (2 : Int32) → vs.getD i.toNatClampNeg d1 = .int (((f i).toInt8.toInt32).toInt8.toInt32)) (hf : ∀ i : Int32, ¬ (255 : Int32) < f i ∧ ¬ f i < 0) (S2 : Sta Z h0 "jdk/internal/util/Preconditions" "SIOOBE_FORMATTER" "Ljava/util/function/BiFunction;" sfv) (hsf : sfv.isRef = true) :
  own_Met l y7_ prog_24_method_4_code 3 (some .boolean) (R_ 5 0 0 69) #[(.ref a1)] Z h0 (Q_rmisn2 Z a0 a1 b k1 vs d1 w sfv f h0 n0) := by
 refine own_bd (own := "com/example/nimble_anonymizer/nimbleanonymizer/NumericColumn") rfl (plainFor_of_name pn_9) #[rv a1, .unset, .unset] ?_
 intro p e s m below meth c s₁ hx hby hq hml hown hnm hlk hrt hZ X0 e0
 have hv : own_isn_2 f = (if (own_sg f) = (0 : Int32) then (if (((f (0 : Int32)).toInt8.toInt32).toInt8.toInt32) = (46 : Int32) then (0 : Int32) else (if (((f (1 : Int32)).toInt8.toInt32).toInt8.toInt32) = (46 : Int32) then (if (own_dg_0_1 f) = (0 : Int32) then (0 : Int32) else (0 : Int32)) else (nar .boolean (own_dg_0_2 f)))) else (if (((f (1 : Int32)).toInt8.toInt32).toInt8.toInt32) = (46 : Int32) then (0 : Int32) else (nar .boolean (own_dg_1_2 f)))) := rfl
 show own_Go _ _ _ _ (s₁.setTop (mkF m 0 #[rv a1, .unset, .unset] []))
 refine o_aloadN X0 hq d8_0 rfl rfl ?_
 refine c_S1 X0 hq e0 hZ hown hml (k8_81 hw) (rmsgN hw a1 b k1 (2 : Int32) vs d1 w sfv f h0 n0 Z0 E_s F_v F_c V_s S1 hw0 hat hf S2 hsf (by decide) (by decide)) d8_1 ?_ 0
 rintro T_1 L_1 _ X_1 ⟨⟨⟩, Nq_1, e_1⟩
 have N_1 := Fr.app (Fr.nil n0) Nq_1
 by_cases hc4__2 : (own_sg f) = (0 : Int32)
 ·have hv_3 := hv.trans (if_pos hc4__2)
  refine o_ifYes X_1 hq (pc' := 11) d8_4 (teq hc4__2).1 (o_iconst X_1 hq 0 d8_11 rfl (o_istoreN X_1 hq d8_12 (l' := #[rv a1, iv 0, .unset]) rfl (o_aloadN X_1 hq d8_13 rfl rfl (o_bipush X_1 hq 46 d8_14 rfl (o_iloadN X_1 hq d8_16 rfl ?_)))))
  refine c_U2 X_1 hq e_1 hZ hown hml (k8_85U1 hw) (rmsi0_2 hw a1 b k1 vs d1 w sfv f h0 n0 Z0 E_s F_v F_c V_s S1 hw0 hat hf S2 hsf) E_s d8_17 ?_ 0
  rintro T_4 L_4 _ X_4 ⟨⟨⟩, Nq_4, e_4⟩
  have N_4 := Fr.app N_1 Nq_4
  refine o_istoreN X_4 hq d8_20 (l' := #[rv a1, iv 0, iv (own_ix_0_2 f)]) rfl ?_
  by_cases hp_5 : (((f (0 : Int32)).toInt8.toInt32).toInt8.toInt32) = (46 : Int32)
  ·have hv_6 := hv_3.trans (if_pos hp_5)
   have hI_7 : own_ix_0_2 f = (0 : Int32) := (if_pos hp_5)
   rw [hI_7]
   show own_Go _ _ _ _ (T_4.setTop (mkF m 21 #[rv a1, iv 0, iv 0] []))
   refine o_iloadN X_4 hq d8_21 rfl (o_ifYes X_4 hq (pc' := 37) d8_22 (by decide) (o_aloadN X_4 hq d8_37 rfl rfl (o_iloadN X_4 hq d8_38 rfl (o_iloadN X_4 hq d8_39 rfl ?_))))
   refine c_S3 X_4 hq e_4 hZ hown hml (k8_92 hw) (rmdg0_0 hw a1  h0 n0 Z0) d8_40 ?_ 0
   rintro T_8 L_8 _ X_8 ⟨⟨⟩, Nq_8, e_8⟩
   have N_8 := Fr.app N_4 Nq_8
   refine o_ifYes X_8 hq (pc' := 64) d8_43 (by decide) (o_iconst X_8 hq 0 d8_64 rfl ?_)
   exact e_Z X_8 e_8 hq hlk hrt d8_65 ⟨(congrArg (fun z => some (Value.int z)) hv_6.symm), N_8, rfl⟩
  ·have hv_9 := hv_3.trans (if_neg hp_5)
   by_cases hp_10 : (((f (1 : Int32)).toInt8.toInt32).toInt8.toInt32) = (46 : Int32)
   ·have hv_11 := hv_9.trans (if_pos hp_10)
    have hI_12 : own_ix_0_2 f = (1 : Int32) := ((if_neg hp_5).trans (if_pos hp_10))
    rw [hI_12]
    show own_Go _ _ _ _ (T_4.setTop (mkF m 21 #[rv a1, iv 0, iv 1] []))
    refine o_iloadN X_4 hq d8_21 rfl (o_ifYes X_4 hq (pc' := 37) d8_22 (by decide) (o_aloadN X_4 hq d8_37 rfl rfl (o_iloadN X_4 hq d8_38 rfl (o_iloadN X_4 hq d8_39 rfl ?_))))
    refine c_S3 X_4 hq e_4 hZ hown hml (k8_92 hw) (rmdg0_1 hw a1 b k1 (2 : Int32) vs d1 w sfv f h0 n0 Z0 E_s F_v F_c V_s S1 hw0 hat hf S2 hsf (by decide)) d8_40 ?_ 0
    rintro T_13 L_13 _ X_13 ⟨⟨⟩, Nq_13, e_13⟩
    have N_13 := Fr.app N_4 Nq_13
    by_cases hc43__14 : (own_dg_0_1 f) = (0 : Int32)
    ·have hv_15 := hv_11.trans (if_pos hc43__14)
     refine o_ifYes X_13 hq (pc' := 64) d8_43 (teq hc43__14).1 (o_iconst X_13 hq 0 d8_64 rfl ?_)
     exact e_Z X_13 e_13 hq hlk hrt d8_65 ⟨(congrArg (fun z => some (Value.int z)) hv_15.symm), N_13, rfl⟩
    ·have hv_16 := hv_11.trans (if_neg hc43__14)
     refine o_ifNo X_13 hq d8_43 (feq hc43__14).1 (o_aloadN X_13 hq d8_46 rfl rfl (o_iloadN X_13 hq d8_47 rfl (o_iconst X_13 hq 1 d8_48 rfl (o_iadd X_13 hq d8_49 ?_))))
     show own_Go _ _ _ _ (T_13.setTop (mkF m 50 #[rv a1, iv 0, iv 1] [(.int 2), (.ref a1)]))
     refine o_aloadN X_13 hq d8_50 rfl rfl ?_
     refine c_U0 X_13 hq e_13 hZ hown hml (k8_89U1 hw) (rmlenN hw a1 b k1 (2 : Int32) vs d1 w h0 n0 Z0 E_s F_v F_c V_s S1 hw0) E_s d8_51 ?_ 2
     rintro T_17 L_17 _ X_17 ⟨⟨⟩, Nq_17, e_17⟩
     have N_17 := Fr.app N_13 Nq_17
     refine c_S3 X_17 hq e_17 hZ hown hml (k8_92 hw) (rmdg2_2 hw a1  h0 n0 Z0) d8_54 ?_ 0
     rintro T_18 L_18 _ X_18 ⟨⟨⟩, Nq_18, e_18⟩
     have N_18 := Fr.app N_17 Nq_18
     refine o_ifYes X_18 hq (pc' := 64) d8_57 (by decide) (o_iconst X_18 hq 0 d8_64 rfl ?_)
     exact e_Z X_18 e_18 hq hlk hrt d8_65 ⟨(congrArg (fun z => some (Value.int z)) hv_16.symm), N_18, rfl⟩
   ·have hv_19 := hv_9.trans (if_neg hp_10)
    have hI_20 : own_ix_0_2 f = (-1 : Int32) := ((if_neg hp_5).trans (if_neg hp_10))
    rw [hI_20]
    show own_Go _ _ _ _ (T_4.setTop (mkF m 21 #[rv a1, iv 0, iv (-1)] []))
    refine o_iloadN X_4 hq d8_21 rfl (o_ifNo X_4 hq d8_22 (by decide) (o_aloadN X_4 hq d8_25 rfl rfl (o_iloadN X_4 hq d8_26 rfl (o_aloadN X_4 hq d8_27 rfl rfl ?_))))
    refine c_U0 X_4 hq e_4 hZ hown hml (k8_89U1 hw) (rmlenN hw a1 b k1 (2 : Int32) vs d1 w h0 n0 Z0 E_s F_v F_c V_s S1 hw0) E_s d8_28 ?_ 2
    rintro T_21 L_21 _ X_21 ⟨⟨⟩, Nq_21, e_21⟩
    have N_21 := Fr.app N_4 Nq_21
    refine c_S3 X_21 hq e_21 hZ hown hml (k8_92 hw) (rmdg0_2 hw a1 b k1 (2 : Int32) vs d1 w sfv f h0 n0 Z0 E_s F_v F_c V_s S1 hw0 hat hf S2 hsf (by decide)) d8_31 ?_ 0
    rintro T_22 L_22 _ X_22 ⟨⟨⟩, Nq_22, e_22⟩
    have N_22 := Fr.app N_21 Nq_22
    refine o_goto X_22 hq (pc' := 65) d8_34 ?_
    exact e_Z X_22 e_22 hq hlk hrt d8_65 ⟨(congrArg (fun z => some (Value.int z)) hv_19.symm), N_22, rfl⟩
 ·have hv_23 := hv.trans (if_neg hc4__2)
  refine o_ifNo X_1 hq d8_4 (feq hc4__2).1 (o_iconst X_1 hq 1 d8_7 rfl (o_goto X_1 hq (pc' := 12) d8_8 (o_istoreN X_1 hq d8_12 (l' := #[rv a1, iv 1, .unset]) rfl (o_aloadN X_1 hq d8_13 rfl rfl (o_bipush X_1 hq 46 d8_14 rfl (o_iloadN X_1 hq d8_16 rfl ?_))))))
  refine c_U2 X_1 hq e_1 hZ hown hml (k8_85U1 hw) (rmsi1_2 hw a1 b k1 vs d1 w sfv f h0 n0 Z0 E_s F_v F_c V_s S1 hw0 hat hf S2 hsf) E_s d8_17 ?_ 0
  rintro T_24 L_24 _ X_24 ⟨⟨⟩, Nq_24, e_24⟩
  have N_24 := Fr.app N_1 Nq_24
  refine o_istoreN X_24 hq d8_20 (l' := #[rv a1, iv 1, iv (own_ix_1_2 f)]) rfl ?_
  by_cases hp_25 : (((f (1 : Int32)).toInt8.toInt32).toInt8.toInt32) = (46 : Int32)
  ·have hv_26 := hv_23.trans (if_pos hp_25)
   have hI_27 : own_ix_1_2 f = (1 : Int32) := (if_pos hp_25)
   rw [hI_27]
   show own_Go _ _ _ _ (T_24.setTop (mkF m 21 #[rv a1, iv 1, iv 1] []))
   refine o_iloadN X_24 hq d8_21 rfl (o_ifYes X_24 hq (pc' := 37) d8_22 (by decide) (o_aloadN X_24 hq d8_37 rfl rfl (o_iloadN X_24 hq d8_38 rfl (o_iloadN X_24 hq d8_39 rfl ?_))))
   refine c_S3 X_24 hq e_24 hZ hown hml (k8_92 hw) (rmdg1_1 hw a1  h0 n0 Z0) d8_40 ?_ 0
   rintro T_28 L_28 _ X_28 ⟨⟨⟩, Nq_28, e_28⟩
   have N_28 := Fr.app N_24 Nq_28
   refine o_ifYes X_28 hq (pc' := 64) d8_43 (by decide) (o_iconst X_28 hq 0 d8_64 rfl ?_)
   exact e_Z X_28 e_28 hq hlk hrt d8_65 ⟨(congrArg (fun z => some (Value.int z)) hv_26.symm), N_28, rfl⟩
  ·have hv_29 := hv_23.trans (if_neg hp_25)
   have hI_30 : own_ix_1_2 f = (-1 : Int32) := (if_neg hp_25)
   rw [hI_30]
   show own_Go _ _ _ _ (T_24.setTop (mkF m 21 #[rv a1, iv 1, iv (-1)] []))
   refine o_iloadN X_24 hq d8_21 rfl (o_ifNo X_24 hq d8_22 (by decide) (o_aloadN X_24 hq d8_25 rfl rfl (o_iloadN X_24 hq d8_26 rfl (o_aloadN X_24 hq d8_27 rfl rfl ?_))))
   refine c_U0 X_24 hq e_24 hZ hown hml (k8_89U1 hw) (rmlenN hw a1 b k1 (2 : Int32) vs d1 w h0 n0 Z0 E_s F_v F_c V_s S1 hw0) E_s d8_28 ?_ 2
   rintro T_31 L_31 _ X_31 ⟨⟨⟩, Nq_31, e_31⟩
   have N_31 := Fr.app N_24 Nq_31
   refine c_S3 X_31 hq e_31 hZ hown hml (k8_92 hw) (rmdg1_2 hw a1 b k1 (2 : Int32) vs d1 w sfv f h0 n0 Z0 E_s F_v F_c V_s S1 hw0 hat hf S2 hsf (by decide)) d8_31 ?_ 0
   rintro T_32 L_32 _ X_32 ⟨⟨⟩, Nq_32, e_32⟩
   have N_32 := Fr.app N_31 Nq_32
   refine o_goto X_32 hq (pc' := 65) d8_34 ?_
   exact e_Z X_32 e_32 hq hlk hrt d8_65 ⟨(congrArg (fun z => some (Value.int z)) hv_29.symm), N_32, rfl⟩
def own_isn_3 (f : Int32 → Int32) : Int32 := (if (own_sg f) = (0 : Int32) then (if (((f (0 : Int32)).toInt8.toInt32).toInt8.toInt32) = (46 : Int32) then (0 : Int32) else (if (((f (1 : Int32)).toInt8.toInt32).toInt8.toInt32) = (46 : Int32) then (if (own_dg_0_1 f) = (0 : Int32) then (0 : Int32) else (if (own_dg_2_3 f) = (0 : Int32) then (0 : Int32) else (1 : Int32))) else (if (((f (2 : Int32)).toInt8.toInt32).toInt8.toInt32) = (46 : Int32) then (if (own_dg_0_2 f) = (0 : Int32) then (0 : Int32) else (0 : Int32)) else (nar .boolean (own_dg_0_3 f))))) else (if (((f (1 : Int32)).toInt8.toInt32).toInt8.toInt32) = (46 : Int32) then (0 : Int32) else (if (((f (2 : Int32)).toInt8.toInt32).toInt8.toInt32) = (46 : Int32) then (if (own_dg_1_2 f) = (0 : Int32) then (0 : Int32) else (0 : Int32)) else (nar .boolean (own_dg_1_3 f)))))
theorem d8_60 : D8 60 = .ok (.iconst 1, 1) := by decide +kernel
theorem d8_61 : D8 61 = .ok (.goto 4, 3) := by decide +kernel
def Q_rmisn3 (Z : State) (a0 : Array Value) (a1 b : Addr) (k1 : ClassId) (vs : List Value) (d1 : Value) (w : Int32) (sfv : Value) (f : Int32 → Int32) (h0 : Heap) (n0 : Nat) (v : Option Value) (h : Heap) (L : List Loc) : Prop := v = some (.int (own_isn_3 f)) ∧ Fr n0 L ∧ h = h0
theorem rmisn3 (hw : HW a0 Z) (a1 b : Addr) (k1 : ClassId) (vs : List Value) (d1 : Value) (w : Int32) (sfv : Value) (f : Int32 → Int32) (h0 : Heap) (n0 : Nat) (Z0 : n0 ≤ h0.size) (E_s : Exa Z h0 a1 "java/lang/String") (F_v : Fld Z h0 a1 "java/lang/String" "value" "[B" (.ref b)) (F_c : Fld Z h0 a1 "java/lang/String" "coder" "B" (.int (0 : Int32))) (V_s : Arv Z h0 b k1 .byte (3 : Int32) vs d1) (S1 : Sta Z h0 "java/lang/String" "COMPACT_STRINGS" "Z" (.int w)) (hw0 : ¬ w = (0 : Int32)) (hat : ∀ i : Int32, ¬ i < 0 → i < (3 : Int32) → vs.getD i.toNatClampNeg d1 = .int (((f i).toInt8.toInt32).toInt8.toInt32)) (hf : ∀ i : Int32, ¬ (255 : Int32) < f i ∧ ¬ f i < 0) (S2 : Sta Z h0 "jdk/internal/util/Preconditions" "SIOOBE_FORMATTER" "Ljava/util/function/BiFunction;" sfv) (hsf : sfv.isRef = true) :
  own_Met l y7_ prog_24_method_4_code 3 (some .boolean) (R_ 5 0 0 69) #[(.ref a1)] Z h0 (Q_rmisn3 Z a0 a1 b k1 vs d1 w sfv f h0 n0) := by
 refine own_bd (own := "com/example/nimble_anonymizer/nimbleanonymizer/NumericColumn") rfl (plainFor_of_name pn_9) #[rv a1, .unset, .unset] ?_
 intro p e s m below meth c s₁ hx hby hq hml hown hnm hlk hrt hZ X0 e0
 have hv : own_isn_3 f = (if (own_sg f) = (0 : Int32) then (if (((f (0 : Int32)).toInt8.toInt32).toInt8.toInt32) = (46 : Int32) then (0 : Int32) else (if (((f (1 : Int32)).toInt8.toInt32).toInt8.toInt32) = (46 : Int32) then (if (own_dg_0_1 f) = (0 : Int32) then (0 : Int32) else (if (own_dg_2_3 f) = (0 : Int32) then (0 : Int32) else (1 : Int32))) else (if (((f (2 : Int32)).toInt8.toInt32).toInt8.toInt32) = (46 : Int32) then (if (own_dg_0_2 f) = (0 : Int32) then (0 : Int32) else (0 : Int32)) else (nar .boolean (own_dg_0_3 f))))) else (if (((f (1 : Int32)).toInt8.toInt32).toInt8.toInt32) = (46 : Int32) then (0 : Int32) else (if (((f (2 : Int32)).toInt8.toInt32).toInt8.toInt32) = (46 : Int32) then (if (own_dg_1_2 f) = (0 : Int32) then (0 : Int32) else (0 : Int32)) else (nar .boolean (own_dg_1_3 f))))) := rfl
 show own_Go _ _ _ _ (s₁.setTop (mkF m 0 #[rv a1, .unset, .unset] []))
 refine o_aloadN X0 hq d8_0 rfl rfl ?_
 refine c_S1 X0 hq e0 hZ hown hml (k8_81 hw) (rmsgN hw a1 b k1 (3 : Int32) vs d1 w sfv f h0 n0 Z0 E_s F_v F_c V_s S1 hw0 hat hf S2 hsf (by decide) (by decide)) d8_1 ?_ 0
 rintro T_1 L_1 _ X_1 ⟨⟨⟩, Nq_1, e_1⟩
 have N_1 := Fr.app (Fr.nil n0) Nq_1
 by_cases hc4__2 : (own_sg f) = (0 : Int32)
 ·have hv_3 := hv.trans (if_pos hc4__2)
  refine o_ifYes X_1 hq (pc' := 11) d8_4 (teq hc4__2).1 (o_iconst X_1 hq 0 d8_11 rfl (o_istoreN X_1 hq d8_12 (l' := #[rv a1, iv 0, .unset]) rfl (o_aloadN X_1 hq d8_13 rfl rfl (o_bipush X_1 hq 46 d8_14 rfl (o_iloadN X_1 hq d8_16 rfl ?_)))))
  refine c_U2 X_1 hq e_1 hZ hown hml (k8_85U1 hw) (rmsi0_3 hw a1 b k1 vs d1 w sfv f h0 n0 Z0 E_s F_v F_c V_s S1 hw0 hat hf S2 hsf) E_s d8_17 ?_ 0
  rintro T_4 L_4 _ X_4 ⟨⟨⟩, Nq_4, e_4⟩
  have N_4 := Fr.app N_1 Nq_4
  refine o_istoreN X_4 hq d8_20 (l' := #[rv a1, iv 0, iv (own_ix_0_3 f)]) rfl ?_
  by_cases hp_5 : (((f (0 : Int32)).toInt8.toInt32).toInt8.toInt32) = (46 : Int32)
  ·have hv_6 := hv_3.trans (if_pos hp_5)
   have hI_7 : own_ix_0_3 f = (0 : Int32) := (if_pos hp_5)
   rw [hI_7]
   show own_Go _ _ _ _ (T_4.setTop (mkF m 21 #[rv a1, iv 0, iv 0] []))
   refine o_iloadN X_4 hq d8_21 rfl (o_ifYes X_4 hq (pc' := 37) d8_22 (by decide) (o_aloadN X_4 hq d8_37 rfl rfl (o_iloadN X_4 hq d8_38 rfl (o_iloadN X_4 hq d8_39 rfl ?_))))
   refine c_S3 X_4 hq e_4 hZ hown hml (k8_92 hw) (rmdg0_0 hw a1  h0 n0 Z0) d8_40 ?_ 0
   rintro T_8 L_8 _ X_8 ⟨⟨⟩, Nq_8, e_8⟩
   have N_8 := Fr.app N_4 Nq_8
   refine o_ifYes X_8 hq (pc' := 64) d8_43 (by decide) (o_iconst X_8 hq 0 d8_64 rfl ?_)
   exact e_Z X_8 e_8 hq hlk hrt d8_65 ⟨(congrArg (fun z => some (Value.int z)) hv_6.symm), N_8, rfl⟩
  ·have hv_9 := hv_3.trans (if_neg hp_5)
   by_cases hp_10 : (((f (1 : Int32)).toInt8.toInt32).toInt8.toInt32) = (46 : Int32)
   ·have hv_11 := hv_9.trans (if_pos hp_10)
    have hI_12 : own_ix_0_3 f = (1 : Int32) := ((if_neg hp_5).trans (if_pos hp_10))
    rw [hI_12]
    show own_Go _ _ _ _ (T_4.setTop (mkF m 21 #[rv a1, iv 0, iv 1] []))
    refine o_iloadN X_4 hq d8_21 rfl (o_ifYes X_4 hq (pc' := 37) d8_22 (by decide) (o_aloadN X_4 hq d8_37 rfl rfl (o_iloadN X_4 hq d8_38 rfl (o_iloadN X_4 hq d8_39 rfl ?_))))
    refine c_S3 X_4 hq e_4 hZ hown hml (k8_92 hw) (rmdg0_1 hw a1 b k1 (3 : Int32) vs d1 w sfv f h0 n0 Z0 E_s F_v F_c V_s S1 hw0 hat hf S2 hsf (by decide)) d8_40 ?_ 0
    rintro T_13 L_13 _ X_13 ⟨⟨⟩, Nq_13, e_13⟩
    have N_13 := Fr.app N_4 Nq_13
    by_cases hc43__14 : (own_dg_0_1 f) = (0 : Int32)
    ·have hv_15 := hv_11.trans (if_pos hc43__14)
     refine o_ifYes X_13 hq (pc' := 64) d8_43 (teq hc43__14).1 (o_iconst X_13 hq 0 d8_64 rfl ?_)
     exact e_Z X_13 e_13 hq hlk hrt d8_65 ⟨(congrArg (fun z => some (Value.int z)) hv_15.symm), N_13, rfl⟩
    ·have hv_16 := hv_11.trans (if_neg hc43__14)
     refine o_ifNo X_13 hq d8_43 (feq hc43__14).1 (o_aloadN X_13 hq d8_46 rfl rfl (o_iloadN X_13 hq d8_47 rfl (o_iconst X_13 hq 1 d8_48 rfl (o_iadd X_13 hq d8_49 ?_))))
     show own_Go _ _ _ _ (T_13.setTop (mkF m 50 #[rv a1, iv 0, iv 1] [(.int 2), (.ref a1)]))
     refine o_aloadN X_13 hq d8_50 rfl rfl ?_
     refine c_U0 X_13 hq e_13 hZ hown hml (k8_89U1 hw) (rmlenN hw a1 b k1 (3 : Int32) vs d1 w h0 n0 Z0 E_s F_v F_c V_s S1 hw0) E_s d8_51 ?_ 2
     rintro T_17 L_17 _ X_17 ⟨⟨⟩, Nq_17, e_17⟩
     have N_17 := Fr.app N_13 Nq_17
     refine c_S3 X_17 hq e_17 hZ hown hml (k8_92 hw) (rmdg2_3 hw a1 b k1 (3 : Int32) vs d1 w sfv f h0 n0 Z0 E_s F_v F_c V_s S1 hw0 hat hf S2 hsf (by decide)) d8_54 ?_ 0
     rintro T_18 L_18 _ X_18 ⟨⟨⟩, Nq_18, e_18⟩
     have N_18 := Fr.app N_17 Nq_18
     by_cases hc57__19 : (own_dg_2_3 f) = (0 : Int32)
     ·have hv_20 := hv_16.trans (if_pos hc57__19)
      refine o_ifYes X_18 hq (pc' := 64) d8_57 (teq hc57__19).1 (o_iconst X_18 hq 0 d8_64 rfl ?_)
      exact e_Z X_18 e_18 hq hlk hrt d8_65 ⟨(congrArg (fun z => some (Value.int z)) hv_20.symm), N_18, rfl⟩
     ·have hv_21 := hv_16.trans (if_neg hc57__19)
      refine o_ifNo X_18 hq d8_57 (feq hc57__19).1 (o_iconst X_18 hq 1 d8_60 rfl (o_goto X_18 hq (pc' := 65) d8_61 ?_))
      exact e_Z X_18 e_18 hq hlk hrt d8_65 ⟨(congrArg (fun z => some (Value.int z)) hv_21.symm), N_18, rfl⟩
   ·have hv_22 := hv_9.trans (if_neg hp_10)
    by_cases hp_23 : (((f (2 : Int32)).toInt8.toInt32).toInt8.toInt32) = (46 : Int32)
    ·have hv_24 := hv_22.trans (if_pos hp_23)
     have hI_25 : own_ix_0_3 f = (2 : Int32) := ((if_neg hp_5).trans ((if_neg hp_10).trans (if_pos hp_23)))
     rw [hI_25]
     show own_Go _ _ _ _ (T_4.setTop (mkF m 21 #[rv a1, iv 0, iv 2] []))
     refine o_iloadN X_4 hq d8_21 rfl (o_ifYes X_4 hq (pc' := 37) d8_22 (by decide) (o_aloadN X_4 hq d8_37 rfl rfl (o_iloadN X_4 hq d8_38 rfl (o_iloadN X_4 hq d8_39 rfl ?_))))
     refine c_S3 X_4 hq e_4 hZ hown hml (k8_92 hw) (rmdg0_2 hw a1 b k1 (3 : Int32) vs d1 w sfv f h0 n0 Z0 E_s F_v F_c V_s S1 hw0 hat hf S2 hsf (by decide)) d8_40 ?_ 0
     rintro T_26 L_26 _ X_26 ⟨⟨⟩, Nq_26, e_26⟩
     have N_26 := Fr.app N_4 Nq_26
     by_cases hc43__27 : (own_dg_0_2 f) = (0 : Int32)
     ·have hv_28 := hv_24.trans (if_pos hc43__27)
      refine o_ifYes X_26 hq (pc' := 64) d8_43 (teq hc43__27).1 (o_iconst X_26 hq 0 d8_64 rfl ?_)
      exact e_Z X_26 e_26 hq hlk hrt d8_65 ⟨(congrArg (fun z => some (Value.int z)) hv_28.symm), N_26, rfl⟩
     ·have hv_29 := hv_24.trans (if_neg hc43__27)
      refine o_ifNo X_26 hq d8_43 (feq hc43__27).1 (o_aloadN X_26 hq d8_46 rfl rfl (o_iloadN X_26 hq d8_47 rfl (o_iconst X_26 hq 1 d8_48 rfl (o_iadd X_26 hq d8_49 ?_))))
      show own_Go _ _ _ _ (T_26.setTop (mkF m 50 #[rv a1, iv 0, iv 2] [(.int 3), (.ref a1)]))
      refine o_aloadN X_26 hq d8_50 rfl rfl ?_
      refine c_U0 X_26 hq e_26 hZ hown hml (k8_89U1 hw) (rmlenN hw a1 b k1 (3 : Int32) vs d1 w h0 n0 Z0 E_s F_v F_c V_s S1 hw0) E_s d8_51 ?_ 2
      rintro T_30 L_30 _ X_30 ⟨⟨⟩, Nq_30, e_30⟩
      have N_30 := Fr.app N_26 Nq_30
      refine c_S3 X_30 hq e_30 hZ hown hml (k8_92 hw) (rmdg3_3 hw a1  h0 n0 Z0) d8_54 ?_ 0
      rintro T_31 L_31 _ X_31 ⟨⟨⟩, Nq_31, e_31⟩
      have N_31 := Fr.app N_30 Nq_31
      refine o_ifYes X_31 hq (pc' := 64) d8_57 (by decide) (o_iconst X_31 hq 0 d8_64 rfl ?_)
      exact e_Z X_31 e_31 hq hlk hrt d8_65 ⟨(congrArg (fun z => some (Value.int z)) hv_29.symm), N_31, rfl⟩
    ·have hv_32 := hv_22.trans (if_neg hp_23)
     have hI_33 : own_ix_0_3 f = (-1 : Int32) := ((if_neg hp_5).trans ((if_neg hp_10).trans (if_neg hp_23)))
     rw [hI_33]
     show own_Go _ _ _ _ (T_4.setTop (mkF m 21 #[rv a1, iv 0, iv (-1)] []))
     refine o_iloadN X_4 hq d8_21 rfl (o_ifNo X_4 hq d8_22 (by decide) (o_aloadN X_4 hq d8_25 rfl rfl (o_iloadN X_4 hq d8_26 rfl (o_aloadN X_4 hq d8_27 rfl rfl ?_))))
     refine c_U0 X_4 hq e_4 hZ hown hml (k8_89U1 hw) (rmlenN hw a1 b k1 (3 : Int32) vs d1 w h0 n0 Z0 E_s F_v F_c V_s S1 hw0) E_s d8_28 ?_ 2
     rintro T_34 L_34 _ X_34 ⟨⟨⟩, Nq_34, e_34⟩
     have N_34 := Fr.app N_4 Nq_34
     refine c_S3 X_34 hq e_34 hZ hown hml (k8_92 hw) (rmdg0_3 hw a1 b k1 (3 : Int32) vs d1 w sfv f h0 n0 Z0 E_s F_v F_c V_s S1 hw0 hat hf S2 hsf (by decide)) d8_31 ?_ 0
     rintro T_35 L_35 _ X_35 ⟨⟨⟩, Nq_35, e_35⟩
     have N_35 := Fr.app N_34 Nq_35
     refine o_goto X_35 hq (pc' := 65) d8_34 ?_
     exact e_Z X_35 e_35 hq hlk hrt d8_65 ⟨(congrArg (fun z => some (Value.int z)) hv_32.symm), N_35, rfl⟩
 ·have hv_36 := hv.trans (if_neg hc4__2)
  refine o_ifNo X_1 hq d8_4 (feq hc4__2).1 (o_iconst X_1 hq 1 d8_7 rfl (o_goto X_1 hq (pc' := 12) d8_8 (o_istoreN X_1 hq d8_12 (l' := #[rv a1, iv 1, .unset]) rfl (o_aloadN X_1 hq d8_13 rfl rfl (o_bipush X_1 hq 46 d8_14 rfl (o_iloadN X_1 hq d8_16 rfl ?_))))))
  refine c_U2 X_1 hq e_1 hZ hown hml (k8_85U1 hw) (rmsi1_3 hw a1 b k1 vs d1 w sfv f h0 n0 Z0 E_s F_v F_c V_s S1 hw0 hat hf S2 hsf) E_s d8_17 ?_ 0
  rintro T_37 L_37 _ X_37 ⟨⟨⟩, Nq_37, e_37⟩
  have N_37 := Fr.app N_1 Nq_37
  refine o_istoreN X_37 hq d8_20 (l' := #[rv a1, iv 1, iv (own_ix_1_3 f)]) rfl ?_
  by_cases hp_38 : (((f (1 : Int32)).toInt8.toInt32).toInt8.toInt32) = (46 : Int32)
  ·have hv_39 := hv_36.trans (if_pos hp_38)
   have hI_40 : own_ix_1_3 f = (1 : Int32) := (if_pos hp_38)
   rw [hI_40]
   show own_Go _ _ _ _ (T_37.setTop (mkF m 21 #[rv a1, iv 1, iv 1] []))
   refine o_iloadN X_37 hq d8_21 rfl (o_ifYes X_37 hq (pc' := 37) d8_22 (by decide) (o_aloadN X_37 hq d8_37 rfl rfl (o_iloadN X_37 hq d8_38 rfl (o_iloadN X_37 hq d8_39 rfl ?_))))
   refine c_S3 X_37 hq e_37 hZ hown hml (k8_92 hw) (rmdg1_1 hw a1  h0 n0 Z0) d8_40 ?_ 0
   rintro T_41 L_41 _ X_41 ⟨⟨⟩, Nq_41, e_41⟩
   have N_41 := Fr.app N_37 Nq_41
   refine o_ifYes X_41 hq (pc' := 64) d8_43 (by decide) (o_iconst X_41 hq 0 d8_64 rfl ?_)
   exact e_Z X_41 e_41 hq hlk hrt d8_65 ⟨(congrArg (fun z => some (Value.int z)) hv_39.symm), N_41, rfl⟩
  ·have hv_42 := hv_36.trans (if_neg hp_38)
   by_cases hp_43 : (((f (2 : Int32)).toInt8.toInt32).toInt8.toInt32) = (46 : Int32)
   ·have hv_44 := hv_42.trans (if_pos hp_43)
    have hI_45 : own_ix_1_3 f = (2 : Int32) := ((if_neg hp_38).trans (if_pos hp_43))
    rw [hI_45]
    show own_Go _ _ _ _ (T_37.setTop (mkF m 21 #[rv a1, iv 1, iv 2] []))
    refine o_iloadN X_37 hq d8_21 rfl (o_ifYes X_37 hq (pc' := 37) d8_22 (by decide) (o_aloadN X_37 hq d8_37 rfl rfl (o_iloadN X_37 hq d8_38 rfl (o_iloadN X_37 hq d8_39 rfl ?_))))
    refine c_S3 X_37 hq e_37 hZ hown hml (k8_92 hw) (rmdg1_2 hw a1 b k1 (3 : Int32) vs d1 w sfv f h0 n0 Z0 E_s F_v F_c V_s S1 hw0 hat hf S2 hsf (by decide)) d8_40 ?_ 0
    rintro T_46 L_46 _ X_46 ⟨⟨⟩, Nq_46, e_46⟩
    have N_46 := Fr.app N_37 Nq_46
    by_cases hc43__47 : (own_dg_1_2 f) = (0 : Int32)
    ·have hv_48 := hv_44.trans (if_pos hc43__47)
     refine o_ifYes X_46 hq (pc' := 64) d8_43 (teq hc43__47).1 (o_iconst X_46 hq 0 d8_64 rfl ?_)
     exact e_Z X_46 e_46 hq hlk hrt d8_65 ⟨(congrArg (fun z => some (Value.int z)) hv_48.symm), N_46, rfl⟩
    ·have hv_49 := hv_44.trans (if_neg hc43__47)
     refine o_ifNo X_46 hq d8_43 (feq hc43__47).1 (o_aloadN X_46 hq d8_46 rfl rfl (o_iloadN X_46 hq d8_47 rfl (o_iconst X_46 hq 1 d8_48 rfl (o_iadd X_46 hq d8_49 ?_))))
     show own_Go _ _ _ _ (T_46.setTop (mkF m 50 #[rv a1, iv 1, iv 2] [(.int 3), (.ref a1)]))
     refine o_aloadN X_46 hq d8_50 rfl rfl ?_
     refine c_U0 X_46 hq e_46 hZ hown hml (k8_89U1 hw) (rmlenN hw a1 b k1 (3 : Int32) vs d1 w h0 n0 Z0 E_s F_v F_c V_s S1 hw0) E_s d8_51 ?_ 2
     rintro T_50 L_50 _ X_50 ⟨⟨⟩, Nq_50, e_50⟩
     have N_50 := Fr.app N_46 Nq_50
     refine c_S3 X_50 hq e_50 hZ hown hml (k8_92 hw) (rmdg3_3 hw a1  h0 n0 Z0) d8_54 ?_ 0
     rintro T_51 L_51 _ X_51 ⟨⟨⟩, Nq_51, e_51⟩
     have N_51 := Fr.app N_50 Nq_51
     refine o_ifYes X_51 hq (pc' := 64) d8_57 (by decide) (o_iconst X_51 hq 0 d8_64 rfl ?_)
     exact e_Z X_51 e_51 hq hlk hrt d8_65 ⟨(congrArg (fun z => some (Value.int z)) hv_49.symm), N_51, rfl⟩
   ·have hv_52 := hv_42.trans (if_neg hp_43)
    have hI_53 : own_ix_1_3 f = (-1 : Int32) := ((if_neg hp_38).trans (if_neg hp_43))
    rw [hI_53]
    show own_Go _ _ _ _ (T_37.setTop (mkF m 21 #[rv a1, iv 1, iv (-1)] []))
    refine o_iloadN X_37 hq d8_21 rfl (o_ifNo X_37 hq d8_22 (by decide) (o_aloadN X_37 hq d8_25 rfl rfl (o_iloadN X_37 hq d8_26 rfl (o_aloadN X_37 hq d8_27 rfl rfl ?_))))
    refine c_U0 X_37 hq e_37 hZ hown hml (k8_89U1 hw) (rmlenN hw a1 b k1 (3 : Int32) vs d1 w h0 n0 Z0 E_s F_v F_c V_s S1 hw0) E_s d8_28 ?_ 2
    rintro T_54 L_54 _ X_54 ⟨⟨⟩, Nq_54, e_54⟩
    have N_54 := Fr.app N_37 Nq_54
    refine c_S3 X_54 hq e_54 hZ hown hml (k8_92 hw) (rmdg1_3 hw a1 b k1 (3 : Int32) vs d1 w sfv f h0 n0 Z0 E_s F_v F_c V_s S1 hw0 hat hf S2 hsf (by decide)) d8_31 ?_ 0
    rintro T_55 L_55 _ X_55 ⟨⟨⟩, Nq_55, e_55⟩
    have N_55 := Fr.app N_54 Nq_55
    refine o_goto X_55 hq (pc' := 65) d8_34 ?_
    exact e_Z X_55 e_55 hq hlk hrt d8_65 ⟨(congrArg (fun z => some (Value.int z)) hv_52.symm), N_55, rfl⟩
def own_isn_4 (f : Int32 → Int32) : Int32 := (if (own_sg f) = (0 : Int32) then (if (((f (0 : Int32)).toInt8.toInt32).toInt8.toInt32) = (46 : Int32) then (0 : Int32) else (if (((f (1 : Int32)).toInt8.toInt32).toInt8.toInt32) = (46 : Int32) then (if (own_dg_0_1 f) = (0 : Int32) then (0 : Int32) else (if (own_dg_2_4 f) = (0 : Int32) then (0 : Int32) else (1 : Int32))) else (if (((f (2 : Int32)).toInt8.toInt32).toInt8.toInt32) = (46 : Int32) then (if (own_dg_0_2 f) = (0 : Int32) then (0 : Int32) else (if (own_dg_3_4 f) = (0 : Int32) then (0 : Int32) else (1 : Int32))) else (if (((f (3 : Int32)).toInt8.toInt32).toInt8.toInt32) = (46 : Int32) then (if (own_dg_0_3 f) = (0 : Int32) then (0 : Int32) else (0 : Int32)) else (nar .boolean (own_dg_0_4 f)))))) else (if (((f (1 : Int32)).toInt8.toInt32).toInt8.toInt32) = (46 : Int32) then (0 : Int32) else (if (((f (2 : Int32)).toInt8.toInt32).toInt8.toInt32) = (46 : Int32) then (if (own_dg_1_2 f) = (0 : Int32) then (0 : Int32) else (if (own_dg_3_4 f) = (0 : Int32) then (0 : Int32) else (1 : Int32))) else (if (((f (3 : Int32)).toInt8.toInt32).toInt8.toInt32) = (46 : Int32) then (if (own_dg_1_3 f) = (0 : Int32) then (0 : Int32) else (0 : Int32)) else (nar .boolean (own_dg_1_4 f))))))
def Q_rmisn4 (Z : State) (a0 : Array Value) (a1 b : Addr) (k1 : ClassId) (vs : List Value) (d1 : Value) (w : Int32) (sfv : Value) (f : Int32 → Int32) (h0 : Heap) (n0 : Nat) (v : Option Value) (h : Heap) (L : List Loc) : Prop := v = some (.int (own_isn_4 f)) ∧ Fr n0 L ∧ h = h0
theorem rmisn4 (hw : HW a0 Z) (a1 b : Addr) (k1 : ClassId) (vs : List Value) (d1 : Value) (w : Int32) (sfv : Value) (f : Int32 → Int32) (h0 : Heap) (n0 : Nat) (Z0 : n0 ≤ h0.size) (E_s : Exa Z h0 a1 "java/lang/String") (F_v : Fld Z h0 a1 "java/lang/String" "value" "[B" (.ref b)) (F_c : Fld Z h0 a1 "java/lang/String" "coder" "B" (.int (0 : Int32))) (V_s : Arv Z h0 b k1 .byte (4 : Int32) vs d1) (S1 : Sta Z h0 "java/lang/String" "COMPACT_STRINGS" "Z" (.int w)) (hw0 : ¬ w = (0 : Int32)) (hat : ∀ i : Int32, ¬ i < 0 → i < (4 : Int32) → vs.getD i.toNatClampNeg d1 = .int (((f i).toInt8.toInt32).toInt8.toInt32)) (hf : ∀ i : Int32, ¬ (255 : Int32) < f i ∧ ¬ f i < 0) (S2 : Sta Z h0 "jdk/internal/util/Preconditions" "SIOOBE_FORMATTER" "Ljava/util/function/BiFunction;" sfv) (hsf : sfv.isRef = true) :
  own_Met l y7_ prog_24_method_4_code 3 (some .boolean) (R_ 5 0 0 69) #[(.ref a1)] Z h0 (Q_rmisn4 Z a0 a1 b k1 vs d1 w sfv f h0 n0) := by
 refine own_bd (own := "com/example/nimble_anonymizer/nimbleanonymizer/NumericColumn") rfl (plainFor_of_name pn_9) #[rv a1, .unset, .unset] ?_
 intro p e s m below meth c s₁ hx hby hq hml hown hnm hlk hrt hZ X0 e0
 have hv : own_isn_4 f = (if (own_sg f) = (0 : Int32) then (if (((f (0 : Int32)).toInt8.toInt32).toInt8.toInt32) = (46 : Int32) then (0 : Int32) else (if (((f (1 : Int32)).toInt8.toInt32).toInt8.toInt32) = (46 : Int32) then (if (own_dg_0_1 f) = (0 : Int32) then (0 : Int32) else (if (own_dg_2_4 f) = (0 : Int32) then (0 : Int32) else (1 : Int32))) else (if (((f (2 : Int32)).toInt8.toInt32).toInt8.toInt32) = (46 : Int32) then (if (own_dg_0_2 f) = (0 : Int32) then (0 : Int32) else (if (own_dg_3_4 f) = (0 : Int32) then (0 : Int32) else (1 : Int32))) else (if (((f (3 : Int32)).toInt8.toInt32).toInt8.toInt32) = (46 : Int32) then (if (own_dg_0_3 f) = (0 : Int32) then (0 : Int32) else (0 : Int32)) else (nar .boolean (own_dg_0_4 f)))))) else (if (((f (1 : Int32)).toInt8.toInt32).toInt8.toInt32) = (46 : Int32) then (0 : Int32) else (if (((f (2 : Int32)).toInt8.toInt32).toInt8.toInt32) = (46 : Int32) then (if (own_dg_1_2 f) = (0 : Int32) then (0 : Int32) else (if (own_dg_3_4 f) = (0 : Int32) then (0 : Int32) else (1 : Int32))) else (if (((f (3 : Int32)).toInt8.toInt32).toInt8.toInt32) = (46 : Int32) then (if (own_dg_1_3 f) = (0 : Int32) then (0 : Int32) else (0 : Int32)) else (nar .boolean (own_dg_1_4 f)))))) := rfl
 show own_Go _ _ _ _ (s₁.setTop (mkF m 0 #[rv a1, .unset, .unset] []))
 refine o_aloadN X0 hq d8_0 rfl rfl ?_
 refine c_S1 X0 hq e0 hZ hown hml (k8_81 hw) (rmsgN hw a1 b k1 (4 : Int32) vs d1 w sfv f h0 n0 Z0 E_s F_v F_c V_s S1 hw0 hat hf S2 hsf (by decide) (by decide)) d8_1 ?_ 0
 rintro T_1 L_1 _ X_1 ⟨⟨⟩, Nq_1, e_1⟩
 have N_1 := Fr.app (Fr.nil n0) Nq_1
 by_cases hc4__2 : (own_sg f) = (0 : Int32)
 ·have hv_3 := hv.trans (if_pos hc4__2)
  refine o_ifYes X_1 hq (pc' := 11) d8_4 (teq hc4__2).1 (o_iconst X_1 hq 0 d8_11 rfl (o_istoreN X_1 hq d8_12 (l' := #[rv a1, iv 0, .unset]) rfl (o_aloadN X_1 hq d8_13 rfl rfl (o_bipush X_1 hq 46 d8_14 rfl (o_iloadN X_1 hq d8_16 rfl ?_)))))
  refine c_U2 X_1 hq e_1 hZ hown hml (k8_85U1 hw) (rmsi0_4 hw a1 b k1 vs d1 w sfv f h0 n0 Z0 E_s F_v F_c V_s S1 hw0 hat hf S2 hsf) E_s d8_17 ?_ 0
  rintro T_4 L_4 _ X_4 ⟨⟨⟩, Nq_4, e_4⟩
  have N_4 := Fr.app N_1 Nq_4
  refine o_istoreN X_4 hq d8_20 (l' := #[rv a1, iv 0, iv (own_ix_0_4 f)]) rfl ?_
  by_cases hp_5 : (((f (0 : Int32)).toInt8.toInt32).toInt8.toInt32) = (46 : Int32)
  ·have hv_6 := hv_3.trans (if_pos hp_5)
   have hI_7 : own_ix_0_4 f = (0 : Int32) := (if_pos hp_5)
   rw [hI_7]
   show own_Go _ _ _ _ (T_4.setTop (mkF m 21 #[rv a1, iv 0, iv 0] []))
   refine o_iloadN X_4 hq d8_21 rfl (o_ifYes X_4 hq (pc' := 37) d8_22 (by decide) (o_aloadN X_4 hq d8_37 rfl rfl (o_iloadN X_4 hq d8_38 rfl (o_iloadN X_4 hq d8_39 rfl ?_))))
   refine c_S3 X_4 hq e_4 hZ hown hml (k8_92 hw) (rmdg0_0 hw a1  h0 n0 Z0) d8_40 ?_ 0
   rintro T_8 L_8 _ X_8 ⟨⟨⟩, Nq_8, e_8⟩
   have N_8 := Fr.app N_4 Nq_8
   refine o_ifYes X_8 hq (pc' := 64) d8_43 (by decide) (o_iconst X_8 hq 0 d8_64 rfl ?_)
   exact e_Z X_8 e_8 hq hlk hrt d8_65 ⟨(congrArg (fun z => some (Value.int z)) hv_6.symm), N_8, rfl⟩
  ·have hv_9 := hv_3.trans (if_neg hp_5)
   by_cases hp_10 : (((f (1 : Int32)).toInt8.toInt32).toInt8.toInt32) = (46 : Int32)
   ·have hv_11 := hv_9.trans (if_pos hp_10)
    have hI_12 : own_ix_0_4 f = (1 : Int32) := ((if_neg hp_5).trans (if_pos hp_10))
    rw [hI_12]
    show own_Go _ _ _ _ (T_4.setTop (mkF m 21 #[rv a1, iv 0, iv 1] []))
    refine o_iloadN X_4 hq d8_21 rfl (o_ifYes X_4 hq (pc' := 37) d8_22 (by decide) (o_aloadN X_4 hq d8_37 rfl rfl (o_iloadN X_4 hq d8_38 rfl (o_iloadN X_4 hq d8_39 rfl ?_))))
    refine c_S3 X_4 hq e_4 hZ hown hml (k8_92 hw) (rmdg0_1 hw a1 b k1 (4 : Int32) vs d1 w sfv f h0 n0 Z0 E_s F_v F_c V_s S1 hw0 hat hf S2 hsf (by decide)) d8_40 ?_ 0
    rintro T_13 L_13 _ X_13 ⟨⟨⟩, Nq_13, e_13⟩
    have N_13 := Fr.app N_4 Nq_13
    by_cases hc43__14 : (own_dg_0_1 f) = (0 : Int32)
    ·have hv_15 := hv_11.trans (if_pos hc43__14)
     refine o_ifYes X_13 hq (pc' := 64) d8_43 (teq hc43__14).1 (o_iconst X_13 hq 0 d8_64 rfl ?_)
     exact e_Z X_13 e_13 hq hlk hrt d8_65 ⟨(congrArg (fun z => some (Value.int z)) hv_15.symm), N_13, rfl⟩
    ·have hv_16 := hv_11.trans (if_neg hc43__14)
     refine o_ifNo X_13 hq d8_43 (feq hc43__14).1 (o_aloadN X_13 hq d8_46 rfl rfl (o_iloadN X_13 hq d8_47 rfl (o_iconst X_13 hq 1 d8_48 rfl (o_iadd X_13 hq d8_49 ?_))))
     show own_Go _ _ _ _ (T_13.setTop (mkF m 50 #[rv a1, iv 0, iv 1] [(.int 2), (.ref a1)]))
     refine o_aloadN X_13 hq d8_50 rfl rfl ?_
     refine c_U0 X_13 hq e_13 hZ hown hml (k8_89U1 hw) (rmlenN hw a1 b k1 (4 : Int32) vs d1 w h0 n0 Z0 E_s F_v F_c V_s S1 hw0) E_s d8_51 ?_ 2
     rintro T_17 L_17 _ X_17 ⟨⟨⟩, Nq_17, e_17⟩
     have N_17 := Fr.app N_13 Nq_17
     refine c_S3 X_17 hq e_17 hZ hown hml (k8_92 hw) (rmdg2_4 hw a1 b k1 (4 : Int32) vs d1 w sfv f h0 n0 Z0 E_s F_v F_c V_s S1 hw0 hat hf S2 hsf (by decide)) d8_54 ?_ 0
     rintro T_18 L_18 _ X_18 ⟨⟨⟩, Nq_18, e_18⟩
     have N_18 := Fr.app N_17 Nq_18
     by_cases hc57__19 : (own_dg_2_4 f) = (0 : Int32)
     ·have hv_20 := hv_16.trans (if_pos hc57__19)
      refine o_ifYes X_18 hq (pc' := 64) d8_57 (teq hc57__19).1 (o_iconst X_18 hq 0 d8_64 rfl ?_)
      exact e_Z X_18 e_18 hq hlk hrt d8_65 ⟨(congrArg (fun z => some (Value.int z)) hv_20.symm), N_18, rfl⟩
     ·have hv_21 := hv_16.trans (if_neg hc57__19)
      refine o_ifNo X_18 hq d8_57 (feq hc57__19).1 (o_iconst X_18 hq 1 d8_60 rfl (o_goto X_18 hq (pc' := 65) d8_61 ?_))
      exact e_Z X_18 e_18 hq hlk hrt d8_65 ⟨(congrArg (fun z => some (Value.int z)) hv_21.symm), N_18, rfl⟩
   ·have hv_22 := hv_9.trans (if_neg hp_10)
    by_cases hp_23 : (((f (2 : Int32)).toInt8.toInt32).toInt8.toInt32) = (46 : Int32)
    ·have hv_24 := hv_22.trans (if_pos hp_23)
     have hI_25 : own_ix_0_4 f = (2 : Int32) := ((if_neg hp_5).trans ((if_neg hp_10).trans (if_pos hp_23)))
     rw [hI_25]
     show own_Go _ _ _ _ (T_4.setTop (mkF m 21 #[rv a1, iv 0, iv 2] []))
     refine o_iloadN X_4 hq d8_21 rfl (o_ifYes X_4 hq (pc' := 37) d8_22 (by decide) (o_aloadN X_4 hq d8_37 rfl rfl (o_iloadN X_4 hq d8_38 rfl (o_iloadN X_4 hq d8_39 rfl ?_))))
     refine c_S3 X_4 hq e_4 hZ hown hml (k8_92 hw) (rmdg0_2 hw a1 b k1 (4 : Int32) vs d1 w sfv f h0 n0 Z0 E_s F_v F_c V_s S1 hw0 hat hf S2 hsf (by decide)) d8_40 ?_ 0
     rintro T_26 L_26 _ X_26 ⟨⟨⟩, Nq_26, e_26⟩
     have N_26 := Fr.app N_4 Nq_26
     by_cases hc43__27 : (own_dg_0_2 f) = (0 : Int32)
     ·have hv_28 := hv_24.trans (if_pos hc43__27)
      refine o_ifYes X_26 hq (pc' := 64) d8_43 (teq hc43__27).1 (o_iconst X_26 hq 0 d8_64 rfl ?_)
      exact e_Z X_26 e_26 hq hlk hrt d8_65 ⟨(congrArg (fun z => some (Value.int z)) hv_28.symm), N_26, rfl⟩
     ·have hv_29 := hv_24.trans (if_neg hc43__27)
      refine o_ifNo X_26 hq d8_43 (feq hc43__27).1 (o_aloadN X_26 hq d8_46 rfl rfl (o_iloadN X_26 hq d8_47 rfl (o_iconst X_26 hq 1 d8_48 rfl (o_iadd X_26 hq d8_49 ?_))))
      show own_Go _ _ _ _ (T_26.setTop (mkF m 50 #[rv a1, iv 0, iv 2] [(.int 3), (.ref a1)]))
      refine o_aloadN X_26 hq d8_50 rfl rfl ?_
      refine c_U0 X_26 hq e_26 hZ hown hml (k8_89U1 hw) (rmlenN hw a1 b k1 (4 : Int32) vs d1 w h0 n0 Z0 E_s F_v F_c V_s S1 hw0) E_s d8_51 ?_ 2
      rintro T_30 L_30 _ X_30 ⟨⟨⟩, Nq_30, e_30⟩
      have N_30 := Fr.app N_26 Nq_30
      refine c_S3 X_30 hq e_30 hZ hown hml (k8_92 hw) (rmdg3_4 hw a1 b k1 (4 : Int32) vs d1 w sfv f h0 n0 Z0 E_s F_v F_c V_s S1 hw0 hat hf S2 hsf (by decide)) d8_54 ?_ 0
      rintro T_31 L_31 _ X_31 ⟨⟨⟩, Nq_31, e_31⟩
      have N_31 := Fr.app N_30 Nq_31
      by_cases hc57__32 : (own_dg_3_4 f) = (0 : Int32)
      ·have hv_33 := hv_29.trans (if_pos hc57__32)
       refine o_ifYes X_31 hq (pc' := 64) d8_57 (teq hc57__32).1 (o_iconst X_31 hq 0 d8_64 rfl ?_)
       exact e_Z X_31 e_31 hq hlk hrt d8_65 ⟨(congrArg (fun z => some (Value.int z)) hv_33.symm), N_31, rfl⟩
      ·have hv_34 := hv_29.trans (if_neg hc57__32)
       refine o_ifNo X_31 hq d8_57 (feq hc57__32).1 (o_iconst X_31 hq 1 d8_60 rfl (o_goto X_31 hq (pc' := 65) d8_61 ?_))
       exact e_Z X_31 e_31 hq hlk hrt d8_65 ⟨(congrArg (fun z => some (Value.int z)) hv_34.symm), N_31, rfl⟩
    ·have hv_35 := hv_22.trans (if_neg hp_23)
     by_cases hp_36 : (((f (3 : Int32)).toInt8.toInt32).toInt8.toInt32) = (46 : Int32)
     ·have hv_37 := hv_35.trans (if_pos hp_36)
      have hI_38 : own_ix_0_4 f = (3 : Int32) := ((if_neg hp_5).trans ((if_neg hp_10).trans ((if_neg hp_23).trans (if_pos hp_36))))
      rw [hI_38]
      show own_Go _ _ _ _ (T_4.setTop (mkF m 21 #[rv a1, iv 0, iv 3] []))
      refine o_iloadN X_4 hq d8_21 rfl (o_ifYes X_4 hq (pc' := 37) d8_22 (by decide) (o_aloadN X_4 hq d8_37 rfl rfl (o_iloadN X_4 hq d8_38 rfl (o_iloadN X_4 hq d8_39 rfl ?_))))
      refine c_S3 X_4 hq e_4 hZ hown hml (k8_92 hw) (rmdg0_3 hw a1 b k1 (4 : Int32) vs d1 w sfv f h0 n0 Z0 E_s F_v F_c V_s S1 hw0 hat hf S2 hsf (by decide)) d8_40 ?_ 0
      rintro T_39 L_39 _ X_39 ⟨⟨⟩, Nq_39, e_39⟩
      have N_39 := Fr.app N_4 Nq_39
      by_cases hc43__40 : (own_dg_0_3 f) = (0 : Int32)
      ·have hv_41 := hv_37.trans (if_pos hc43__40)
       refine o_ifYes X_39 hq (pc' := 64) d8_43 (teq hc43__40).1 (o_iconst X_39 hq 0 d8_64 rfl ?_)
       exact e_Z X_39 e_39 hq hlk hrt d8_65 ⟨(congrArg (fun z => some (Value.int z)) hv_41.symm), N_39, rfl⟩
      ·have hv_42 := hv_37.trans (if_neg hc43__40)
       refine o_ifNo X_39 hq d8_43 (feq hc43__40).1 (o_aloadN X_39 hq d8_46 rfl rfl (o_iloadN X_39 hq d8_47 rfl (o_iconst X_39 hq 1 d8_48 rfl (o_iadd X_39 hq d8_49 ?_))))
       show own_Go _ _ _ _ (T_39.setTop (mkF m 50 #[rv a1, iv 0, iv 3] [(.int 4), (.ref a1)]))
       refine o_aloadN X_39 hq d8_50 rfl rfl ?_
       refine c_U0 X_39 hq e_39 hZ hown hml (k8_89U1 hw) (rmlenN hw a1 b k1 (4 : Int32) vs d1 w h0 n0 Z0 E_s F_v F_c V_s S1 hw0) E_s d8_51 ?_ 2
       rintro T_43 L_43 _ X_43 ⟨⟨⟩, Nq_43, e_43⟩
       have N_43 := Fr.app N_39 Nq_43
       refine c_S3 X_43 hq e_43 hZ hown hml (k8_92 hw) (rmdg4_4 hw a1  h0 n0 Z0) d8_54 ?_ 0
       rintro T_44 L_44 _ X_44 ⟨⟨⟩, Nq_44, e_44⟩
       have N_44 := Fr.app N_43 Nq_44
       refine o_ifYes X_44 hq (pc' := 64) d8_57 (by decide) (o_iconst X_44 hq 0 d8_64 rfl ?_)
       exact e_Z X_44 e_44 hq hlk hrt d8_65 ⟨(congrArg (fun z => some (Value.int z)) hv_42.symm), N_44, rfl⟩
     ·have hv_45 := hv_35.trans (if_neg hp_36)
      have hI_46 : own_ix_0_4 f = (-1 : Int32) := ((if_neg hp_5).trans ((if_neg hp_10).trans ((if_neg hp_23).trans (if_neg hp_36))))
      rw [hI_46]
      show own_Go _ _ _ _ (T_4.setTop (mkF m 21 #[rv a1, iv 0, iv (-1)] []))
      refine o_iloadN X_4 hq d8_21 rfl (o_ifNo X_4 hq d8_22 (by decide) (o_aloadN X_4 hq d8_25 rfl rfl (o_iloadN X_4 hq d8_26 rfl (o_aloadN X_4 hq d8_27 rfl rfl ?_))))
      refine c_U0 X_4 hq e_4 hZ hown hml (k8_89U1 hw) (rmlenN hw a1 b k1 (4 : Int32) vs d1 w h0 n0 Z0 E_s F_v F_c V_s S1 hw0) E_s d8_28 ?_ 2
      rintro T_47 L_47 _ X_47 ⟨⟨⟩, Nq_47, e_47⟩
      have N_47 := Fr.app N_4 Nq_47
      refine c_S3 X_47 hq e_47 hZ hown hml (k8_92 hw) (rmdg0_4 hw a1 b k1 (4 : Int32) vs d1 w sfv f h0 n0 Z0 E_s F_v F_c V_s S1 hw0 hat hf S2 hsf (by decide)) d8_31 ?_ 0
      rintro T_48 L_48 _ X_48 ⟨⟨⟩, Nq_48, e_48⟩
      have N_48 := Fr.app N_47 Nq_48
      refine o_goto X_48 hq (pc' := 65) d8_34 ?_
      exact e_Z X_48 e_48 hq hlk hrt d8_65 ⟨(congrArg (fun z => some (Value.int z)) hv_45.symm), N_48, rfl⟩
 ·have hv_49 := hv.trans (if_neg hc4__2)
  refine o_ifNo X_1 hq d8_4 (feq hc4__2).1 (o_iconst X_1 hq 1 d8_7 rfl (o_goto X_1 hq (pc' := 12) d8_8 (o_istoreN X_1 hq d8_12 (l' := #[rv a1, iv 1, .unset]) rfl (o_aloadN X_1 hq d8_13 rfl rfl (o_bipush X_1 hq 46 d8_14 rfl (o_iloadN X_1 hq d8_16 rfl ?_))))))
  refine c_U2 X_1 hq e_1 hZ hown hml (k8_85U1 hw) (rmsi1_4 hw a1 b k1 vs d1 w sfv f h0 n0 Z0 E_s F_v F_c V_s S1 hw0 hat hf S2 hsf) E_s d8_17 ?_ 0
  rintro T_50 L_50 _ X_50 ⟨⟨⟩, Nq_50, e_50⟩
  have N_50 := Fr.app N_1 Nq_50
  refine o_istoreN X_50 hq d8_20 (l' := #[rv a1, iv 1, iv (own_ix_1_4 f)]) rfl ?_
  by_cases hp_51 : (((f (1 : Int32)).toInt8.toInt32).toInt8.toInt32) = (46 : Int32)
  ·have hv_52 := hv_49.trans (if_pos hp_51)
   have hI_53 : own_ix_1_4 f = (1 : Int32) := (if_pos hp_51)
   rw [hI_53]
   show own_Go _ _ _ _ (T_50.setTop (mkF m 21 #[rv a1, iv 1, iv 1] []))
   refine o_iloadN X_50 hq d8_21 rfl (o_ifYes X_50 hq (pc' := 37) d8_22 (by decide) (o_aloadN X_50 hq d8_37 rfl rfl (o_iloadN X_50 hq d8_38 rfl (o_iloadN X_50 hq d8_39 rfl ?_))))
   refine c_S3 X_50 hq e_50 hZ hown hml (k8_92 hw) (rmdg1_1 hw a1  h0 n0 Z0) d8_40 ?_ 0
   rintro T_54 L_54 _ X_54 ⟨⟨⟩, Nq_54, e_54⟩
   have N_54 := Fr.app N_50 Nq_54
   refine o_ifYes X_54 hq (pc' := 64) d8_43 (by decide) (o_iconst X_54 hq 0 d8_64 rfl ?_)
   exact e_Z X_54 e_54 hq hlk hrt d8_65 ⟨(congrArg (fun z => some (Value.int z)) hv_52.symm), N_54, rfl⟩
  ·have hv_55 := hv_49.trans (if_neg hp_51)
   by_cases hp_56 : (((f (2 : Int32)).toInt8.toInt32).toInt8.toInt32) = (46 : Int32)
   ·have hv_57 := hv_55.trans (if_pos hp_56)
    have hI_58 : own_ix_1_4 f = (2 : Int32) := ((if_neg hp_51).trans (if_pos hp_56))
    rw [hI_58]
    show own_Go _ _ _ _ (T_50.setTop (mkF m 21 #[rv a1, iv 1, iv 2] []))
    refine o_iloadN X_50 hq d8_21 rfl (o_ifYes X_50 hq (pc' := 37) d8_22 (by decide) (o_aloadN X_50 hq d8_37 rfl rfl (o_iloadN X_50 hq d8_38 rfl (o_iloadN X_50 hq d8_39 rfl ?_))))
    refine c_S3 X_50 hq e_50 hZ hown hml (k8_92 hw) (rmdg1_2 hw a1 b k1 (4 : Int32) vs d1 w sfv f h0 n0 Z0 E_s F_v F_c V_s S1 hw0 hat hf S2 hsf (by decide)) d8_40 ?_ 0
    rintro T_59 L_59 _ X_59 ⟨⟨⟩, Nq_59, e_59⟩
    have N_59 := Fr.app N_50 Nq_59
    by_cases hc43__60 : (own_dg_1_2 f) = (0 : Int32)
    ·have hv_61 := hv_57.trans (if_pos hc43__60)
     refine o_ifYes X_59 hq (pc' := 64) d8_43 (teq hc43__60).1 (o_iconst X_59 hq 0 d8_64 rfl ?_)
     exact e_Z X_59 e_59 hq hlk hrt d8_65 ⟨(congrArg (fun z => some (Value.int z)) hv_61.symm), N_59, rfl⟩
    ·have hv_62 := hv_57.trans (if_neg hc43__60)
     refine o_ifNo X_59 hq d8_43 (feq hc43__60).1 (o_aloadN X_59 hq d8_46 rfl rfl (o_iloadN X_59 hq d8_47 rfl (o_iconst X_59 hq 1 d8_48 rfl (o_iadd X_59 hq d8_49 ?_))))
     show own_Go _ _ _ _ (T_59.setTop (mkF m 50 #[rv a1, iv 1, iv 2] [(.int 3), (.ref a1)]))
     refine o_aloadN X_59 hq d8_50 rfl rfl ?_
     refine c_U0 X_59 hq e_59 hZ hown hml (k8_89U1 hw) (rmlenN hw a1 b k1 (4 : Int32) vs d1 w h0 n0 Z0 E_s F_v F_c V_s S1 hw0) E_s d8_51 ?_ 2
     rintro T_63 L_63 _ X_63 ⟨⟨⟩, Nq_63, e_63⟩
     have N_63 := Fr.app N_59 Nq_63
     refine c_S3 X_63 hq e_63 hZ hown hml (k8_92 hw) (rmdg3_4 hw a1 b k1 (4 : Int32) vs d1 w sfv f h0 n0 Z0 E_s F_v F_c V_s S1 hw0 hat hf S2 hsf (by decide)) d8_54 ?_ 0
     rintro T_64 L_64 _ X_64 ⟨⟨⟩, Nq_64, e_64⟩
     have N_64 := Fr.app N_63 Nq_64
     by_cases hc57__65 : (own_dg_3_4 f) = (0 : Int32)
     ·have hv_66 := hv_62.trans (if_pos hc57__65)
      refine o_ifYes X_64 hq (pc' := 64) d8_57 (teq hc57__65).1 (o_iconst X_64 hq 0 d8_64 rfl ?_)
      exact e_Z X_64 e_64 hq hlk hrt d8_65 ⟨(congrArg (fun z => some (Value.int z)) hv_66.symm), N_64, rfl⟩
     ·have hv_67 := hv_62.trans (if_neg hc57__65)
      refine o_ifNo X_64 hq d8_57 (feq hc57__65).1 (o_iconst X_64 hq 1 d8_60 rfl (o_goto X_64 hq (pc' := 65) d8_61 ?_))
      exact e_Z X_64 e_64 hq hlk hrt d8_65 ⟨(congrArg (fun z => some (Value.int z)) hv_67.symm), N_64, rfl⟩
   ·have hv_68 := hv_55.trans (if_neg hp_56)
    by_cases hp_69 : (((f (3 : Int32)).toInt8.toInt32).toInt8.toInt32) = (46 : Int32)
    ·have hv_70 := hv_68.trans (if_pos hp_69)
     have hI_71 : own_ix_1_4 f = (3 : Int32) := ((if_neg hp_51).trans ((if_neg hp_56).trans (if_pos hp_69)))
     rw [hI_71]
     show own_Go _ _ _ _ (T_50.setTop (mkF m 21 #[rv a1, iv 1, iv 3] []))
     refine o_iloadN X_50 hq d8_21 rfl (o_ifYes X_50 hq (pc' := 37) d8_22 (by decide) (o_aloadN X_50 hq d8_37 rfl rfl (o_iloadN X_50 hq d8_38 rfl (o_iloadN X_50 hq d8_39 rfl ?_))))
     refine c_S3 X_50 hq e_50 hZ hown hml (k8_92 hw) (rmdg1_3 hw a1 b k1 (4 : Int32) vs d1 w sfv f h0 n0 Z0 E_s F_v F_c V_s S1 hw0 hat hf S2 hsf (by decide)) d8_40 ?_ 0
     rintro T_72 L_72 _ X_72 ⟨⟨⟩, Nq_72, e_72⟩
     have N_72 := Fr.app N_50 Nq_72
     by_cases hc43__73 : (own_dg_1_3 f) = (0 : Int32)
     ·have hv_74 := hv_70.trans (if_pos hc43__73)
      refine o_ifYes X_72 hq (pc' := 64) d8_43 (teq hc43__73).1 (o_iconst X_72 hq 0 d8_64 rfl ?_)
      exact e_Z X_72 e_72 hq hlk hrt d8_65 ⟨(congrArg (fun z => some (Value.int z)) hv_74.symm), N_72, rfl⟩
     ·have hv_75 := hv_70.trans (if_neg hc43__73)
      refine o_ifNo X_72 hq d8_43 (feq hc43__73).1 (o_aloadN X_72 hq d8_46 rfl rfl (o_iloadN X_72 hq d8_47 rfl (o_iconst X_72 hq 1 d8_48 rfl (o_iadd X_72 hq d8_49 ?_))))
      show own_Go _ _ _ _ (T_72.setTop (mkF m 50 #[rv a1, iv 1, iv 3] [(.int 4), (.ref a1)]))
      refine o_aloadN X_72 hq d8_50 rfl rfl ?_
      refine c_U0 X_72 hq e_72 hZ hown hml (k8_89U1 hw) (rmlenN hw a1 b k1 (4 : Int32) vs d1 w h0 n0 Z0 E_s F_v F_c V_s S1 hw0) E_s d8_51 ?_ 2
      rintro T_76 L_76 _ X_76 ⟨⟨⟩, Nq_76, e_76⟩
      have N_76 := Fr.app N_72 Nq_76
      refine c_S3 X_76 hq e_76 hZ hown hml (k8_92 hw) (rmdg4_4 hw a1  h0 n0 Z0) d8_54 ?_ 0
      rintro T_77 L_77 _ X_77 ⟨⟨⟩, Nq_77, e_77⟩
      have N_77 := Fr.app N_76 Nq_77
      refine o_ifYes X_77 hq (pc' := 64) d8_57 (by decide) (o_iconst X_77 hq 0 d8_64 rfl ?_)
      exact e_Z X_77 e_77 hq hlk hrt d8_65 ⟨(congrArg (fun z => some (Value.int z)) hv_75.symm), N_77, rfl⟩
    ·have hv_78 := hv_68.trans (if_neg hp_69)
     have hI_79 : own_ix_1_4 f = (-1 : Int32) := ((if_neg hp_51).trans ((if_neg hp_56).trans (if_neg hp_69)))
     rw [hI_79]
     show own_Go _ _ _ _ (T_50.setTop (mkF m 21 #[rv a1, iv 1, iv (-1)] []))
     refine o_iloadN X_50 hq d8_21 rfl (o_ifNo X_50 hq d8_22 (by decide) (o_aloadN X_50 hq d8_25 rfl rfl (o_iloadN X_50 hq d8_26 rfl (o_aloadN X_50 hq d8_27 rfl rfl ?_))))
     refine c_U0 X_50 hq e_50 hZ hown hml (k8_89U1 hw) (rmlenN hw a1 b k1 (4 : Int32) vs d1 w h0 n0 Z0 E_s F_v F_c V_s S1 hw0) E_s d8_28 ?_ 2
     rintro T_80 L_80 _ X_80 ⟨⟨⟩, Nq_80, e_80⟩
     have N_80 := Fr.app N_50 Nq_80
     refine c_S3 X_80 hq e_80 hZ hown hml (k8_92 hw) (rmdg1_4 hw a1 b k1 (4 : Int32) vs d1 w sfv f h0 n0 Z0 E_s F_v F_c V_s S1 hw0 hat hf S2 hsf (by decide)) d8_31 ?_ 0
     rintro T_81 L_81 _ X_81 ⟨⟨⟩, Nq_81, e_81⟩
     have N_81 := Fr.app N_80 Nq_81
     refine o_goto X_81 hq (pc' := 65) d8_34 ?_
     exact e_Z X_81 e_81 hq hlk hrt d8_65 ⟨(congrArg (fun z => some (Value.int z)) hv_78.symm), N_81, rfl⟩
def own_isn_5 (f : Int32 → Int32) : Int32 := (if (own_sg f) = (0 : Int32) then (if (((f (0 : Int32)).toInt8.toInt32).toInt8.toInt32) = (46 : Int32) then (0 : Int32) else (if (((f (1 : Int32)).toInt8.toInt32).toInt8.toInt32) = (46 : Int32) then (if (own_dg_0_1 f) = (0 : Int32) then (0 : Int32) else (if (own_dg_2_5 f) = (0 : Int32) then (0 : Int32) else (1 : Int32))) else (if (((f (2 : Int32)).toInt8.toInt32).toInt8.toInt32) = (46 : Int32) then (if (own_dg_0_2 f) = (0 : Int32) then (0 : Int32) else (if (own_dg_3_5 f) = (0 : Int32) then (0 : Int32) else (1 : Int32))) else (if (((f (3 : Int32)).toInt8.toInt32).toInt8.toInt32) = (46 : Int32) then (if (own_dg_0_3 f) = (0 : Int32) then (0 : Int32) else (if (own_dg_4_5 f) = (0 : Int32) then (0 : Int32) else (1 : Int32))) else (if (((f (4 : Int32)).toInt8.toInt32).toInt8.toInt32) = (46 : Int32) then (if (own_dg_0_4 f) = (0 : Int32) then (0 : Int32) else (0 : Int32)) else (nar .boolean (own_dg_0_5 f))))))) else (if (((f (1 : Int32)).toInt8.toInt32).toInt8.toInt32) = (46 : Int32) then (0 : Int32) else (if (((f (2 : Int32)).toInt8.toInt32).toInt8.toInt32) = (46 : Int32) then (if (own_dg_1_2 f) = (0 : Int32) then (0 : Int32) else (if (own_dg_3_5 f) = (0 : Int32) then (0 : Int32) else (1 : Int32))) else (if (((f (3 : Int32)).toInt8.toInt32).toInt8.toInt32) = (46 : Int32) then (if (own_dg_1_3 f) = (0 : Int32) then (0 : Int32) else (if (own_dg_4_5 f) = (0 : Int32) then (0 : Int32) else (1 : Int32))) else (if (((f (4 : Int32)).toInt8.toInt32).toInt8.toInt32) = (46 : Int32) then (if (own_dg_1_4 f) = (0 : Int32) then (0 : Int32) else (0 : Int32)) else (nar .boolean (own_dg_1_5 f)))))))
def Q_rmisn5 (Z : State) (a0 : Array Value) (a1 b : Addr) (k1 : ClassId) (vs : List Value) (d1 : Value) (w : Int32) (sfv : Value) (f : Int32 → Int32) (h0 : Heap) (n0 : Nat) (v : Option Value) (h : Heap) (L : List Loc) : Prop := v = some (.int (own_isn_5 f)) ∧ Fr n0 L ∧ h = h0
theorem rmisn5 (hw : HW a0 Z) (a1 b : Addr) (k1 : ClassId) (vs : List Value) (d1 : Value) (w : Int32) (sfv : Value) (f : Int32 → Int32) (h0 : Heap) (n0 : Nat) (Z0 : n0 ≤ h0.size) (E_s : Exa Z h0 a1 "java/lang/String") (F_v : Fld Z h0 a1 "java/lang/String" "value" "[B" (.ref b)) (F_c : Fld Z h0 a1 "java/lang/String" "coder" "B" (.int (0 : Int32))) (V_s : Arv Z h0 b k1 .byte (5 : Int32) vs d1) (S1 : Sta Z h0 "java/lang/String" "COMPACT_STRINGS" "Z" (.int w)) (hw0 : ¬ w = (0 : Int32)) (hat : ∀ i : Int32, ¬ i < 0 → i < (5 : Int32) → vs.getD i.toNatClampNeg d1 = .int (((f i).toInt8.toInt32).toInt8.toInt32)) (hf : ∀ i : Int32, ¬ (255 : Int32) < f i ∧ ¬ f i < 0) (S2 : Sta Z h0 "jdk/internal/util/Preconditions" "SIOOBE_FORMATTER" "Ljava/util/function/BiFunction;" sfv) (hsf : sfv.isRef = true) :
  own_Met l y7_ prog_24_method_4_code 3 (some .boolean) (R_ 5 0 0 69) #[(.ref a1)] Z h0 (Q_rmisn5 Z a0 a1 b k1 vs d1 w sfv f h0 n0) := by
 refine own_bd (own := "com/example/nimble_anonymizer/nimbleanonymizer/NumericColumn") rfl (plainFor_of_name pn_9) #[rv a1, .unset, .unset] ?_
 intro p e s m below meth c s₁ hx hby hq hml hown hnm hlk hrt hZ X0 e0
 have hv : own_isn_5 f = (if (own_sg f) = (0 : Int32) then (if (((f (0 : Int32)).toInt8.toInt32).toInt8.toInt32) = (46 : Int32) then (0 : Int32) else (if (((f (1 : Int32)).toInt8.toInt32).toInt8.toInt32) = (46 : Int32) then (if (own_dg_0_1 f) = (0 : Int32) then (0 : Int32) else (if (own_dg_2_5 f) = (0 : Int32) then (0 : Int32) else (1 : Int32))) else (if (((f (2 : Int32)).toInt8.toInt32).toInt8.toInt32) = (46 : Int32) then (if (own_dg_0_2 f) = (0 : Int32) then (0 : Int32) else (if (own_dg_3_5 f) = (0 : Int32) then (0 : Int32) else (1 : Int32))) else (if (((f (3 : Int32)).toInt8.toInt32).toInt8.toInt32) = (46 : Int32) then (if (own_dg_0_3 f) = (0 : Int32) then (0 : Int32) else (if (own_dg_4_5 f) = (0 : Int32) then (0 : Int32) else (1 : Int32))) else (if (((f (4 : Int32)).toInt8.toInt32).toInt8.toInt32) = (46 : Int32) then (if (own_dg_0_4 f) = (0 : Int32) then (0 : Int32) else (0 : Int32)) else (nar .boolean (own_dg_0_5 f))))))) else (if (((f (1 : Int32)).toInt8.toInt32).toInt8.toInt32) = (46 : Int32) then (0 : Int32) else (if (((f (2 : Int32)).toInt8.toInt32).toInt8.toInt32) = (46 : Int32) then (if (own_dg_1_2 f) = (0 : Int32) then (0 : Int32) else (if (own_dg_3_5 f) = (0 : Int32) then (0 : Int32) else (1 : Int32))) else (if (((f (3 : Int32)).toInt8.toInt32).toInt8.toInt32) = (46 : Int32) then (if (own_dg_1_3 f) = (0 : Int32) then (0 : Int32) else (if (own_dg_4_5 f) = (0 : Int32) then (0 : Int32) else (1 : Int32))) else (if (((f (4 : Int32)).toInt8.toInt32).toInt8.toInt32) = (46 : Int32) then (if (own_dg_1_4 f) = (0 : Int32) then (0 : Int32) else (0 : Int32)) else (nar .boolean (own_dg_1_5 f))))))) := rfl
 show own_Go _ _ _ _ (s₁.setTop (mkF m 0 #[rv a1, .unset, .unset] []))
 refine o_aloadN X0 hq d8_0 rfl rfl ?_
 refine c_S1 X0 hq e0 hZ hown hml (k8_81 hw) (rmsgN hw a1 b k1 (5 : Int32) vs d1 w sfv f h0 n0 Z0 E_s F_v F_c V_s S1 hw0 hat hf S2 hsf (by decide) (by decide)) d8_1 ?_ 0
 rintro T_1 L_1 _ X_1 ⟨⟨⟩, Nq_1, e_1⟩
 have N_1 := Fr.app (Fr.nil n0) Nq_1
 by_cases hc4__2 : (own_sg f) = (0 : Int32)
 ·have hv_3 := hv.trans (if_pos hc4__2)
  refine o_ifYes X_1 hq (pc' := 11) d8_4 (teq hc4__2).1 (o_iconst X_1 hq 0 d8_11 rfl (o_istoreN X_1 hq d8_12 (l' := #[rv a1, iv 0, .unset]) rfl (o_aloadN X_1 hq d8_13 rfl rfl (o_bipush X_1 hq 46 d8_14 rfl (o_iloadN X_1 hq d8_16 rfl ?_)))))
  refine c_U2 X_1 hq e_1 hZ hown hml (k8_85U1 hw) (rmsi0_5 hw a1 b k1 vs d1 w sfv f h0 n0 Z0 E_s F_v F_c V_s S1 hw0 hat hf S2 hsf) E_s d8_17 ?_ 0
  rintro T_4 L_4 _ X_4 ⟨⟨⟩, Nq_4, e_4⟩
  have N_4 := Fr.app N_1 Nq_4
  refine o_istoreN X_4 hq d8_20 (l' := #[rv a1, iv 0, iv (own_ix_0_5 f)]) rfl ?_
  by_cases hp_5 : (((f (0 : Int32)).toInt8.toInt32).toInt8.toInt32) = (46 : Int32)
  ·have hv_6 := hv_3.trans (if_pos hp_5)
   have hI_7 : own_ix_0_5 f = (0 : Int32) := (if_pos hp_5)
   rw [hI_7]
   show own_Go _ _ _ _ (T_4.setTop (mkF m 21 #[rv a1, iv 0, iv 0] []))
   refine o_iloadN X_4 hq d8_21 rfl (o_ifYes X_4 hq (pc' := 37) d8_22 (by decide) (o_aloadN X_4 hq d8_37 rfl rfl (o_iloadN X_4 hq d8_38 rfl (o_iloadN X_4 hq d8_39 rfl ?_))))
   refine c_S3 X_4 hq e_4 hZ hown hml (k8_92 hw) (rmdg0_0 hw a1  h0 n0 Z0) d8_40 ?_ 0
   rintro T_8 L_8 _ X_8 ⟨⟨⟩, Nq_8, e_8⟩
   have N_8 := Fr.app N_4 Nq_8
   refine o_ifYes X_8 hq (pc' := 64) d8_43 (by decide) (o_iconst X_8 hq 0 d8_64 rfl ?_)
   exact e_Z X_8 e_8 hq hlk hrt d8_65 ⟨(congrArg (fun z => some (Value.int z)) hv_6.symm), N_8, rfl⟩
  ·have hv_9 := hv_3.trans (if_neg hp_5)
   by_cases hp_10 : (((f (1 : Int32)).toInt8.toInt32).toInt8.toInt32) = (46 : Int32)
   ·have hv_11 := hv_9.trans (if_pos hp_10)
    have hI_12 : own_ix_0_5 f = (1 : Int32) := ((if_neg hp_5).trans (if_pos hp_10))
    rw [hI_12]
    show own_Go _ _ _ _ (T_4.setTop (mkF m 21 #[rv a1, iv 0, iv 1] []))
    refine o_iloadN X_4 hq d8_21 rfl (o_ifYes X_4 hq (pc' := 37) d8_22 (by decide) (o_aloadN X_4 hq d8_37 rfl rfl (o_iloadN X_4 hq d8_38 rfl (o_iloadN X_4 hq d8_39 rfl ?_))))
    refine c_S3 X_4 hq e_4 hZ hown hml (k8_92 hw) (rmdg0_1 hw a1 b k1 (5 : Int32) vs d1 w sfv f h0 n0 Z0 E_s F_v F_c V_s S1 hw0 hat hf S2 hsf (by decide)) d8_40 ?_ 0
    rintro T_13 L_13 _ X_13 ⟨⟨⟩, Nq_13, e_13⟩
    have N_13 := Fr.app N_4 Nq_13
    by_cases hc43__14 : (own_dg_0_1 f) = (0 : Int32)
    ·have hv_15 := hv_11.trans (if_pos hc43__14)
     refine o_ifYes X_13 hq (pc' := 64) d8_43 (teq hc43__14).1 (o_iconst X_13 hq 0 d8_64 rfl ?_)
     exact e_Z X_13 e_13 hq hlk hrt d8_65 ⟨(congrArg (fun z => some (Value.int z)) hv_15.symm), N_13, rfl⟩
    ·have hv_16 := hv_11.trans (if_neg hc43__14)
     refine o_ifNo X_13 hq d8_43 (feq hc43__14).1 (o_aloadN X_13 hq d8_46 rfl rfl (o_iloadN X_13 hq d8_47 rfl (o_iconst X_13 hq 1 d8_48 rfl (o_iadd X_13 hq d8_49 ?_))))
     show own_Go _ _ _ _ (T_13.setTop (mkF m 50 #[rv a1, iv 0, iv 1] [(.int 2), (.ref a1)]))
     refine o_aloadN X_13 hq d8_50 rfl rfl ?_
     refine c_U0 X_13 hq e_13 hZ hown hml (k8_89U1 hw) (rmlenN hw a1 b k1 (5 : Int32) vs d1 w h0 n0 Z0 E_s F_v F_c V_s S1 hw0) E_s d8_51 ?_ 2
     rintro T_17 L_17 _ X_17 ⟨⟨⟩, Nq_17, e_17⟩
     have N_17 := Fr.app N_13 Nq_17
     refine c_S3 X_17 hq e_17 hZ hown hml (k8_92 hw) (rmdg2_5 hw a1 b k1 (5 : Int32) vs d1 w sfv f h0 n0 Z0 E_s F_v F_c V_s S1 hw0 hat hf S2 hsf (by decide)) d8_54 ?_ 0
     rintro T_18 L_18 _ X_18 ⟨⟨⟩, Nq_18, e_18⟩
     have N_18 := Fr.app N_17 Nq_18
     by_cases hc57__19 : (own_dg_2_5 f) = (0 : Int32)
     ·have hv_20 := hv_16.trans (if_pos hc57__19)
      refine o_ifYes X_18 hq (pc' := 64) d8_57 (teq hc57__19).1 (o_iconst X_18 hq 0 d8_64 rfl ?_)
      exact e_Z X_18 e_18 hq hlk hrt d8_65 ⟨(congrArg (fun z => some (Value.int z)) hv_20.symm), N_18, rfl⟩
     ·have hv_21 := hv_16.trans (if_neg hc57__19)
      refine o_ifNo X_18 hq d8_57 (feq hc57__19).1 (o_iconst X_18 hq 1 d8_60 rfl (o_goto X_18 hq (pc' := 65) d8_61 ?_))
      exact e_Z X_18 e_18 hq hlk hrt d8_65 ⟨(congrArg (fun z => some (Value.int z)) hv_21.symm), N_18, rfl⟩
   ·have hv_22 := hv_9.trans (if_neg hp_10)
    by_cases hp_23 : (((f (2 : Int32)).toInt8.toInt32).toInt8.toInt32) = (46 : Int32)
    ·have hv_24 := hv_22.trans (if_pos hp_23)
     have hI_25 : own_ix_0_5 f = (2 : Int32) := ((if_neg hp_5).trans ((if_neg hp_10).trans (if_pos hp_23)))
     rw [hI_25]
     show own_Go _ _ _ _ (T_4.setTop (mkF m 21 #[rv a1, iv 0, iv 2] []))
     refine o_iloadN X_4 hq d8_21 rfl (o_ifYes X_4 hq (pc' := 37) d8_22 (by decide) (o_aloadN X_4 hq d8_37 rfl rfl (o_iloadN X_4 hq d8_38 rfl (o_iloadN X_4 hq d8_39 rfl ?_))))
     refine c_S3 X_4 hq e_4 hZ hown hml (k8_92 hw) (rmdg0_2 hw a1 b k1 (5 : Int32) vs d1 w sfv f h0 n0 Z0 E_s F_v F_c V_s S1 hw0 hat hf S2 hsf (by decide)) d8_40 ?_ 0
     rintro T_26 L_26 _ X_26 ⟨⟨⟩, Nq_26, e_26⟩
     have N_26 := Fr.app N_4 Nq_26
     by_cases hc43__27 : (own_dg_0_2 f) = (0 : Int32)
     ·have hv_28 := hv_24.trans (if_pos hc43__27)
      refine o_ifYes X_26 hq (pc' := 64) d8_43 (teq hc43__27).1 (o_iconst X_26 hq 0 d8_64 rfl ?_)
      exact e_Z X_26 e_26 hq hlk hrt d8_65 ⟨(congrArg (fun z => some (Value.int z)) hv_28.symm), N_26, rfl⟩
     ·have hv_29 := hv_24.trans (if_neg hc43__27)
      refine o_ifNo X_26 hq d8_43 (feq hc43__27).1 (o_aloadN X_26 hq d8_46 rfl rfl (o_iloadN X_26 hq d8_47 rfl (o_iconst X_26 hq 1 d8_48 rfl (o_iadd X_26 hq d8_49 ?_))))
      show own_Go _ _ _ _ (T_26.setTop (mkF m 50 #[rv a1, iv 0, iv 2] [(.int 3), (.ref a1)]))
      refine o_aloadN X_26 hq d8_50 rfl rfl ?_
      refine c_U0 X_26 hq e_26 hZ hown hml (k8_89U1 hw) (rmlenN hw a1 b k1 (5 : Int32) vs d1 w h0 n0 Z0 E_s F_v F_c V_s S1 hw0) E_s d8_51 ?_ 2
      rintro T_30 L_30 _ X_30 ⟨⟨⟩, Nq_30, e_30⟩
      have N_30 := Fr.app N_26 Nq_30
      refine c_S3 X_30 hq e_30 hZ hown hml (k8_92 hw) (rmdg3_5 hw a1 b k1 (5 : Int32) vs d1 w sfv f h0 n0 Z0 E_s F_v F_c V_s S1 hw0 hat hf S2 hsf (by decide)) d8_54 ?_ 0
      rintro T_31 L_31 _ X_31 ⟨⟨⟩, Nq_31, e_31⟩
      have N_31 := Fr.app N_30 Nq_31
      by_cases hc57__32 : (own_dg_3_5 f) = (0 : Int32)
      ·have hv_33 := hv_29.trans (if_pos hc57__32)
       refine o_ifYes X_31 hq (pc' := 64) d8_57 (teq hc57__32).1 (o_iconst X_31 hq 0 d8_64 rfl ?_)
       exact e_Z X_31 e_31 hq hlk hrt d8_65 ⟨(congrArg (fun z => some (Value.int z)) hv_33.symm), N_31, rfl⟩
      ·have hv_34 := hv_29.trans (if_neg hc57__32)
       refine o_ifNo X_31 hq d8_57 (feq hc57__32).1 (o_iconst X_31 hq 1 d8_60 rfl (o_goto X_31 hq (pc' := 65) d8_61 ?_))
       exact e_Z X_31 e_31 hq hlk hrt d8_65 ⟨(congrArg (fun z => some (Value.int z)) hv_34.symm), N_31, rfl⟩
    ·have hv_35 := hv_22.trans (if_neg hp_23)
     by_cases hp_36 : (((f (3 : Int32)).toInt8.toInt32).toInt8.toInt32) = (46 : Int32)
     ·have hv_37 := hv_35.trans (if_pos hp_36)
      have hI_38 : own_ix_0_5 f = (3 : Int32) := ((if_neg hp_5).trans ((if_neg hp_10).trans ((if_neg hp_23).trans (if_pos hp_36))))
      rw [hI_38]
      show own_Go _ _ _ _ (T_4.setTop (mkF m 21 #[rv a1, iv 0, iv 3] []))
      refine o_iloadN X_4 hq d8_21 rfl (o_ifYes X_4 hq (pc' := 37) d8_22 (by decide) (o_aloadN X_4 hq d8_37 rfl rfl (o_iloadN X_4 hq d8_38 rfl (o_iloadN X_4 hq d8_39 rfl ?_))))
      refine c_S3 X_4 hq e_4 hZ hown hml (k8_92 hw) (rmdg0_3 hw a1 b k1 (5 : Int32) vs d1 w sfv f h0 n0 Z0 E_s F_v F_c V_s S1 hw0 hat hf S2 hsf (by decide)) d8_40 ?_ 0
      rintro T_39 L_39 _ X_39 ⟨⟨⟩, Nq_39, e_39⟩
      have N_39 := Fr.app N_4 Nq_39
      by_cases hc43__40 : (own_dg_0_3 f) = (0 : Int32)
      ·have hv_41 := hv_37.trans (if_pos hc43__40)
       refine o_ifYes X_39 hq (pc' := 64) d8_43 (teq hc43__40).1 (o_iconst X_39 hq 0 d8_64 rfl ?_)
       exact e_Z X_39 e_39 hq hlk hrt d8_65 ⟨(congrArg (fun z => some (Value.int z)) hv_41.symm), N_39, rfl⟩
      ·have hv_42 := hv_37.trans (if_neg hc43__40)
       refine o_ifNo X_39 hq d8_43 (feq hc43__40).1 (o_aloadN X_39 hq d8_46 rfl rfl (o_iloadN X_39 hq d8_47 rfl (o_iconst X_39 hq 1 d8_48 rfl (o_iadd X_39 hq d8_49 ?_))))
       show own_Go _ _ _ _ (T_39.setTop (mkF m 50 #[rv a1, iv 0, iv 3] [(.int 4), (.ref a1)]))
       refine o_aloadN X_39 hq d8_50 rfl rfl ?_
       refine c_U0 X_39 hq e_39 hZ hown hml (k8_89U1 hw) (rmlenN hw a1 b k1 (5 : Int32) vs d1 w h0 n0 Z0 E_s F_v F_c V_s S1 hw0) E_s d8_51 ?_ 2
       rintro T_43 L_43 _ X_43 ⟨⟨⟩, Nq_43, e_43⟩
       have N_43 := Fr.app N_39 Nq_43
       refine c_S3 X_43 hq e_43 hZ hown hml (k8_92 hw) (rmdg4_5 hw a1 b k1 (5 : Int32) vs d1 w sfv f h0 n0 Z0 E_s F_v F_c V_s S1 hw0 hat hf S2 hsf (by decide)) d8_54 ?_ 0
       rintro T_44 L_44 _ X_44 ⟨⟨⟩, Nq_44, e_44⟩
       have N_44 := Fr.app N_43 Nq_44
       by_cases hc57__45 : (own_dg_4_5 f) = (0 : Int32)
       ·have hv_46 := hv_42.trans (if_pos hc57__45)
        refine o_ifYes X_44 hq (pc' := 64) d8_57 (teq hc57__45).1 (o_iconst X_44 hq 0 d8_64 rfl ?_)
        exact e_Z X_44 e_44 hq hlk hrt d8_65 ⟨(congrArg (fun z => some (Value.int z)) hv_46.symm), N_44, rfl⟩
       ·have hv_47 := hv_42.trans (if_neg hc57__45)
        refine o_ifNo X_44 hq d8_57 (feq hc57__45).1 (o_iconst X_44 hq 1 d8_60 rfl (o_goto X_44 hq (pc' := 65) d8_61 ?_))
        exact e_Z X_44 e_44 hq hlk hrt d8_65 ⟨(congrArg (fun z => some (Value.int z)) hv_47.symm), N_44, rfl⟩
     ·have hv_48 := hv_35.trans (if_neg hp_36)
      by_cases hp_49 : (((f (4 : Int32)).toInt8.toInt32).toInt8.toInt32) = (46 : Int32)
      ·have hv_50 := hv_48.trans (if_pos hp_49)
       have hI_51 : own_ix_0_5 f = (4 : Int32) := ((if_neg hp_5).trans ((if_neg hp_10).trans ((if_neg hp_23).trans ((if_neg hp_36).trans (if_pos hp_49)))))
       rw [hI_51]
       show own_Go _ _ _ _ (T_4.setTop (mkF m 21 #[rv a1, iv 0, iv 4] []))
       refine o_iloadN X_4 hq d8_21 rfl (o_ifYes X_4 hq (pc' := 37) d8_22 (by decide) (o_aloadN X_4 hq d8_37 rfl rfl (o_iloadN X_4 hq d8_38 rfl (o_iloadN X_4 hq d8_39 rfl ?_))))
       refine c_S3 X_4 hq e_4 hZ hown hml (k8_92 hw) (rmdg0_4 hw a1 b k1 (5 : Int32) vs d1 w sfv f h0 n0 Z0 E_s F_v F_c V_s S1 hw0 hat hf S2 hsf (by decide)) d8_40 ?_ 0
       rintro T_52 L_52 _ X_52 ⟨⟨⟩, Nq_52, e_52⟩
       have N_52 := Fr.app N_4 Nq_52
       by_cases hc43__53 : (own_dg_0_4 f) = (0 : Int32)
       ·have hv_54 := hv_50.trans (if_pos hc43__53)
        refine o_ifYes X_52 hq (pc' := 64) d8_43 (teq hc43__53).1 (o_iconst X_52 hq 0 d8_64 rfl ?_)
        exact e_Z X_52 e_52 hq hlk hrt d8_65 ⟨(congrArg (fun z => some (Value.int z)) hv_54.symm), N_52, rfl⟩
       ·have hv_55 := hv_50.trans (if_neg hc43__53)
        refine o_ifNo X_52 hq d8_43 (feq hc43__53).1 (o_aloadN X_52 hq d8_46 rfl rfl (o_iloadN X_52 hq d8_47 rfl (o_iconst X_52 hq 1 d8_48 rfl (o_iadd X_52 hq d8_49 ?_))))
        show own_Go _ _ _ _ (T_52.setTop (mkF m 50 #[rv a1, iv 0, iv 4] [(.int 5), (.ref a1)]))
        refine o_aloadN X_52 hq d8_50 rfl rfl ?_
        refine c_U0 X_52 hq e_52 hZ hown hml (k8_89U1 hw) (rmlenN hw a1 b k1 (5 : Int32) vs d1 w h0 n0 Z0 E_s F_v F_c V_s S1 hw0) E_s d8_51 ?_ 2
        rintro T_56 L_56 _ X_56 ⟨⟨⟩, Nq_56, e_56⟩
        have N_56 := Fr.app N_52 Nq_56
        refine c_S3 X_56 hq e_56 hZ hown hml (k8_92 hw) (rmdg5_5 hw a1  h0 n0 Z0) d8_54 ?_ 0
        rintro T_57 L_57 _ X_57 ⟨⟨⟩, Nq_57, e_57⟩
        have N_57 := Fr.app N_56 Nq_57
        refine o_ifYes X_57 hq (pc' := 64) d8_57 (by decide) (o_iconst X_57 hq 0 d8_64 rfl ?_)
        exact e_Z X_57 e_57 hq hlk hrt d8_65 ⟨(congrArg (fun z => some (Value.int z)) hv_55.symm), N_57, rfl⟩
      ·have hv_58 := hv_48.trans (if_neg hp_49)
       have hI_59 : own_ix_0_5 f = (-1 : Int32) := ((if_neg hp_5).trans ((if_neg hp_10).trans ((if_neg hp_23).trans ((if_neg hp_36).trans (if_neg hp_49)))))
       rw [hI_59]
       show own_Go _ _ _ _ (T_4.setTop (mkF m 21 #[rv a1, iv 0, iv (-1)] []))
       refine o_iloadN X_4 hq d8_21 rfl (o_ifNo X_4 hq d8_22 (by decide) (o_aloadN X_4 hq d8_25 rfl rfl (o_iloadN X_4 hq d8_26 rfl (o_aloadN X_4 hq d8_27 rfl rfl ?_))))
       refine c_U0 X_4 hq e_4 hZ hown hml (k8_89U1 hw) (rmlenN hw a1 b k1 (5 : Int32) vs d1 w h0 n0 Z0 E_s F_v F_c V_s S1 hw0) E_s d8_28 ?_ 2
       rintro T_60 L_60 _ X_60 ⟨⟨⟩, Nq_60, e_60⟩
       have N_60 := Fr.app N_4 Nq_60
       refine c_S3 X_60 hq e_60 hZ hown hml (k8_92 hw) (rmdg0_5 hw a1 b k1 (5 : Int32) vs d1 w sfv f h0 n0 Z0 E_s F_v F_c V_s S1 hw0 hat hf S2 hsf (by decide)) d8_31 ?_ 0
       rintro T_61 L_61 _ X_61 ⟨⟨⟩, Nq_61, e_61⟩
       have N_61 := Fr.app N_60 Nq_61
       refine o_goto X_61 hq (pc' := 65) d8_34 ?_
       exact e_Z X_61 e_61 hq hlk hrt d8_65 ⟨(congrArg (fun z => some (Value.int z)) hv_58.symm), N_61, rfl⟩
 ·have hv_62 := hv.trans (if_neg hc4__2)
  refine o_ifNo X_1 hq d8_4 (feq hc4__2).1 (o_iconst X_1 hq 1 d8_7 rfl (o_goto X_1 hq (pc' := 12) d8_8 (o_istoreN X_1 hq d8_12 (l' := #[rv a1, iv 1, .unset]) rfl (o_aloadN X_1 hq d8_13 rfl rfl (o_bipush X_1 hq 46 d8_14 rfl (o_iloadN X_1 hq d8_16 rfl ?_))))))
  refine c_U2 X_1 hq e_1 hZ hown hml (k8_85U1 hw) (rmsi1_5 hw a1 b k1 vs d1 w sfv f h0 n0 Z0 E_s F_v F_c V_s S1 hw0 hat hf S2 hsf) E_s d8_17 ?_ 0
  rintro T_63 L_63 _ X_63 ⟨⟨⟩, Nq_63, e_63⟩
  have N_63 := Fr.app N_1 Nq_63
  refine o_istoreN X_63 hq d8_20 (l' := #[rv a1, iv 1, iv (own_ix_1_5 f)]) rfl ?_
  by_cases hp_64 : (((f (1 : Int32)).toInt8.toInt32).toInt8.toInt32) = (46 : Int32)
  ·have hv_65 := hv_62.trans (if_pos hp_64)
   have hI_66 : own_ix_1_5 f = (1 : Int32) := (if_pos hp_64)
   rw [hI_66]
   show own_Go _ _ _ _ (T_63.setTop (mkF m 21 #[rv a1, iv 1, iv 1] []))
   refine o_iloadN X_63 hq d8_21 rfl (o_ifYes X_63 hq (pc' := 37) d8_22 (by decide) (o_aloadN X_63 hq d8_37 rfl rfl (o_iloadN X_63 hq d8_38 rfl (o_iloadN X_63 hq d8_39 rfl ?_))))
   refine c_S3 X_63 hq e_63 hZ hown hml (k8_92 hw) (rmdg1_1 hw a1  h0 n0 Z0) d8_40 ?_ 0
   rintro T_67 L_67 _ X_67 ⟨⟨⟩, Nq_67, e_67⟩
   have N_67 := Fr.app N_63 Nq_67
   refine o_ifYes X_67 hq (pc' := 64) d8_43 (by decide) (o_iconst X_67 hq 0 d8_64 rfl ?_)
   exact e_Z X_67 e_67 hq hlk hrt d8_65 ⟨(congrArg (fun z => some (Value.int z)) hv_65.symm), N_67, rfl⟩
  ·have hv_68 := hv_62.trans (if_neg hp_64)
   by_cases hp_69 : (((f (2 : Int32)).toInt8.toInt32).toInt8.toInt32) = (46 : Int32)
   ·have hv_70 := hv_68.trans (if_pos hp_69)
    have hI_71 : own_ix_1_5 f = (2 : Int32) := ((if_neg hp_64).trans (if_pos hp_69))
    rw [hI_71]
    show own_Go _ _ _ _ (T_63.setTop (mkF m 21 #[rv a1, iv 1, iv 2] []))
    refine o_iloadN X_63 hq d8_21 rfl (o_ifYes X_63 hq (pc' := 37) d8_22 (by decide) (o_aloadN X_63 hq d8_37 rfl rfl (o_iloadN X_63 hq d8_38 rfl (o_iloadN X_63 hq d8_39 rfl ?_))))
    refine c_S3 X_63 hq e_63 hZ hown hml (k8_92 hw) (rmdg1_2 hw a1 b k1 (5 : Int32) vs d1 w sfv f h0 n0 Z0 E_s F_v F_c V_s S1 hw0 hat hf S2 hsf (by decide)) d8_40 ?_ 0
    rintro T_72 L_72 _ X_72 ⟨⟨⟩, Nq_72, e_72⟩
    have N_72 := Fr.app N_63 Nq_72
    by_cases hc43__73 : (own_dg_1_2 f) = (0 : Int32)
    ·have hv_74 := hv_70.trans (if_pos hc43__73)
     refine o_ifYes X_72 hq (pc' := 64) d8_43 (teq hc43__73).1 (o_iconst X_72 hq 0 d8_64 rfl ?_)
     exact e_Z X_72 e_72 hq hlk hrt d8_65 ⟨(congrArg (fun z => some (Value.int z)) hv_74.symm), N_72, rfl⟩
    ·have hv_75 := hv_70.trans (if_neg hc43__73)
     refine o_ifNo X_72 hq d8_43 (feq hc43__73).1 (o_aloadN X_72 hq d8_46 rfl rfl (o_iloadN X_72 hq d8_47 rfl (o_iconst X_72 hq 1 d8_48 rfl (o_iadd X_72 hq d8_49 ?_))))
     show own_Go _ _ _ _ (T_72.setTop (mkF m 50 #[rv a1, iv 1, iv 2] [(.int 3), (.ref a1)]))
     refine o_aloadN X_72 hq d8_50 rfl rfl ?_
     refine c_U0 X_72 hq e_72 hZ hown hml (k8_89U1 hw) (rmlenN hw a1 b k1 (5 : Int32) vs d1 w h0 n0 Z0 E_s F_v F_c V_s S1 hw0) E_s d8_51 ?_ 2
     rintro T_76 L_76 _ X_76 ⟨⟨⟩, Nq_76, e_76⟩
     have N_76 := Fr.app N_72 Nq_76
     refine c_S3 X_76 hq e_76 hZ hown hml (k8_92 hw) (rmdg3_5 hw a1 b k1 (5 : Int32) vs d1 w sfv f h0 n0 Z0 E_s F_v F_c V_s S1 hw0 hat hf S2 hsf (by decide)) d8_54 ?_ 0
     rintro T_77 L_77 _ X_77 ⟨⟨⟩, Nq_77, e_77⟩
     have N_77 := Fr.app N_76 Nq_77
     by_cases hc57__78 : (own_dg_3_5 f) = (0 : Int32)
     ·have hv_79 := hv_75.trans (if_pos hc57__78)
      refine o_ifYes X_77 hq (pc' := 64) d8_57 (teq hc57__78).1 (o_iconst X_77 hq 0 d8_64 rfl ?_)
      exact e_Z X_77 e_77 hq hlk hrt d8_65 ⟨(congrArg (fun z => some (Value.int z)) hv_79.symm), N_77, rfl⟩
     ·have hv_80 := hv_75.trans (if_neg hc57__78)
      refine o_ifNo X_77 hq d8_57 (feq hc57__78).1 (o_iconst X_77 hq 1 d8_60 rfl (o_goto X_77 hq (pc' := 65) d8_61 ?_))
      exact e_Z X_77 e_77 hq hlk hrt d8_65 ⟨(congrArg (fun z => some (Value.int z)) hv_80.symm), N_77, rfl⟩
   ·have hv_81 := hv_68.trans (if_neg hp_69)
    by_cases hp_82 : (((f (3 : Int32)).toInt8.toInt32).toInt8.toInt32) = (46 : Int32)
    ·have hv_83 := hv_81.trans (if_pos hp_82)
     have hI_84 : own_ix_1_5 f = (3 : Int32) := ((if_neg hp_64).trans ((if_neg hp_69).trans (if_pos hp_82)))
     rw [hI_84]
     show own_Go _ _ _ _ (T_63.setTop (mkF m 21 #[rv a1, iv 1, iv 3] []))
     refine o_iloadN X_63 hq d8_21 rfl (o_ifYes X_63 hq (pc' := 37) d8_22 (by decide) (o_aloadN X_63 hq d8_37 rfl rfl (o_iloadN X_63 hq d8_38 rfl (o_iloadN X_63 hq d8_39 rfl ?_))))
     refine c_S3 X_63 hq e_63 hZ hown hml (k8_92 hw) (rmdg1_3 hw a1 b k1 (5 : Int32) vs d1 w sfv f h0 n0 Z0 E_s F_v F_c V_s S1 hw0 hat hf S2 hsf (by decide)) d8_40 ?_ 0
     rintro T_85 L_85 _ X_85 ⟨⟨⟩, Nq_85, e_85⟩
     have N_85 := Fr.app N_63 Nq_85
     by_cases hc43__86 : (own_dg_1_3 f) = (0 : Int32)
     ·have hv_87 := hv_83.trans (if_pos hc43__86)
      refine o_ifYes X_85 hq (pc' := 64) d8_43 (teq hc43__86).1 (o_iconst X_85 hq 0 d8_64 rfl ?_)
      exact e_Z X_85 e_85 hq hlk hrt d8_65 ⟨(congrArg (fun z => some (Value.int z)) hv_87.symm), N_85, rfl⟩
     ·have hv_88 := hv_83.trans (if_neg hc43__86)
      refine o_ifNo X_85 hq d8_43 (feq hc43__86).1 (o_aloadN X_85 hq d8_46 rfl rfl (o_iloadN X_85 hq d8_47 rfl (o_iconst X_85 hq 1 d8_48 rfl (o_iadd X_85 hq d8_49 ?_))))
      show own_Go _ _ _ _ (T_85.setTop (mkF m 50 #[rv a1, iv 1, iv 3] [(.int 4), (.ref a1)]))
      refine o_aloadN X_85 hq d8_50 rfl rfl ?_
      refine c_U0 X_85 hq e_85 hZ hown hml (k8_89U1 hw) (rmlenN hw a1 b k1 (5 : Int32) vs d1 w h0 n0 Z0 E_s F_v F_c V_s S1 hw0) E_s d8_51 ?_ 2
      rintro T_89 L_89 _ X_89 ⟨⟨⟩, Nq_89, e_89⟩
      have N_89 := Fr.app N_85 Nq_89
      refine c_S3 X_89 hq e_89 hZ hown hml (k8_92 hw) (rmdg4_5 hw a1 b k1 (5 : Int32) vs d1 w sfv f h0 n0 Z0 E_s F_v F_c V_s S1 hw0 hat hf S2 hsf (by decide)) d8_54 ?_ 0
      rintro T_90 L_90 _ X_90 ⟨⟨⟩, Nq_90, e_90⟩
      have N_90 := Fr.app N_89 Nq_90
      by_cases hc57__91 : (own_dg_4_5 f) = (0 : Int32)
      ·have hv_92 := hv_88.trans (if_pos hc57__91)
       refine o_ifYes X_90 hq (pc' := 64) d8_57 (teq hc57__91).1 (o_iconst X_90 hq 0 d8_64 rfl ?_)
       exact e_Z X_90 e_90 hq hlk hrt d8_65 ⟨(congrArg (fun z => some (Value.int z)) hv_92.symm), N_90, rfl⟩
      ·have hv_93 := hv_88.trans (if_neg hc57__91)
       refine o_ifNo X_90 hq d8_57 (feq hc57__91).1 (o_iconst X_90 hq 1 d8_60 rfl (o_goto X_90 hq (pc' := 65) d8_61 ?_))
       exact e_Z X_90 e_90 hq hlk hrt d8_65 ⟨(congrArg (fun z => some (Value.int z)) hv_93.symm), N_90, rfl⟩
    ·have hv_94 := hv_81.trans (if_neg hp_82)
     by_cases hp_95 : (((f (4 : Int32)).toInt8.toInt32).toInt8.toInt32) = (46 : Int32)
     ·have hv_96 := hv_94.trans (if_pos hp_95)
      have hI_97 : own_ix_1_5 f = (4 : Int32) := ((if_neg hp_64).trans ((if_neg hp_69).trans ((if_neg hp_82).trans (if_pos hp_95))))
      rw [hI_97]
      show own_Go _ _ _ _ (T_63.setTop (mkF m 21 #[rv a1, iv 1, iv 4] []))
      refine o_iloadN X_63 hq d8_21 rfl (o_ifYes X_63 hq (pc' := 37) d8_22 (by decide) (o_aloadN X_63 hq d8_37 rfl rfl (o_iloadN X_63 hq d8_38 rfl (o_iloadN X_63 hq d8_39 rfl ?_))))
      refine c_S3 X_63 hq e_63 hZ hown hml (k8_92 hw) (rmdg1_4 hw a1 b k1 (5 : Int32) vs d1 w sfv f h0 n0 Z0 E_s F_v F_c V_s S1 hw0 hat hf S2 hsf (by decide)) d8_40 ?_ 0
      rintro T_98 L_98 _ X_98 ⟨⟨⟩, Nq_98, e_98⟩
      have N_98 := Fr.app N_63 Nq_98
      by_cases hc43__99 : (own_dg_1_4 f) = (0 : Int32)
      ·have hv_100 := hv_96.trans (if_pos hc43__99)
       refine o_ifYes X_98 hq (pc' := 64) d8_43 (teq hc43__99).1 (o_iconst X_98 hq 0 d8_64 rfl ?_)
       exact e_Z X_98 e_98 hq hlk hrt d8_65 ⟨(congrArg (fun z => some (Value.int z)) hv_100.symm), N_98, rfl⟩
      ·have hv_101 := hv_96.trans (if_neg hc43__99)
       refine o_ifNo X_98 hq d8_43 (feq hc43__99).1 (o_aloadN X_98 hq d8_46 rfl rfl (o_iloadN X_98 hq d8_47 rfl (o_iconst X_98 hq 1 d8_48 rfl (o_iadd X_98 hq d8_49 ?_))))
       show own_Go _ _ _ _ (T_98.setTop (mkF m 50 #[rv a1, iv 1, iv 4] [(.int 5), (.ref a1)]))
       refine o_aloadN X_98 hq d8_50 rfl rfl ?_
       refine c_U0 X_98 hq e_98 hZ hown hml (k8_89U1 hw) (rmlenN hw a1 b k1 (5 : Int32) vs d1 w h0 n0 Z0 E_s F_v F_c V_s S1 hw0) E_s d8_51 ?_ 2
       rintro T_102 L_102 _ X_102 ⟨⟨⟩, Nq_102, e_102⟩
       have N_102 := Fr.app N_98 Nq_102
       refine c_S3 X_102 hq e_102 hZ hown hml (k8_92 hw) (rmdg5_5 hw a1  h0 n0 Z0) d8_54 ?_ 0
       rintro T_103 L_103 _ X_103 ⟨⟨⟩, Nq_103, e_103⟩
       have N_103 := Fr.app N_102 Nq_103
       refine o_ifYes X_103 hq (pc' := 64) d8_57 (by decide) (o_iconst X_103 hq 0 d8_64 rfl ?_)
       exact e_Z X_103 e_103 hq hlk hrt d8_65 ⟨(congrArg (fun z => some (Value.int z)) hv_101.symm), N_103, rfl⟩
     ·have hv_104 := hv_94.trans (if_neg hp_95)
      have hI_105 : own_ix_1_5 f = (-1 : Int32) := ((if_neg hp_64).trans ((if_neg hp_69).trans ((if_neg hp_82).trans (if_neg hp_95))))
      rw [hI_105]
      show own_Go _ _ _ _ (T_63.setTop (mkF m 21 #[rv a1, iv 1, iv (-1)] []))
      refine o_iloadN X_63 hq d8_21 rfl (o_ifNo X_63 hq d8_22 (by decide) (o_aloadN X_63 hq d8_25 rfl rfl (o_iloadN X_63 hq d8_26 rfl (o_aloadN X_63 hq d8_27 rfl rfl ?_))))
      refine c_U0 X_63 hq e_63 hZ hown hml (k8_89U1 hw) (rmlenN hw a1 b k1 (5 : Int32) vs d1 w h0 n0 Z0 E_s F_v F_c V_s S1 hw0) E_s d8_28 ?_ 2
      rintro T_106 L_106 _ X_106 ⟨⟨⟩, Nq_106, e_106⟩
      have N_106 := Fr.app N_63 Nq_106
      refine c_S3 X_106 hq e_106 hZ hown hml (k8_92 hw) (rmdg1_5 hw a1 b k1 (5 : Int32) vs d1 w sfv f h0 n0 Z0 E_s F_v F_c V_s S1 hw0 hat hf S2 hsf (by decide)) d8_31 ?_ 0
      rintro T_107 L_107 _ X_107 ⟨⟨⟩, Nq_107, e_107⟩
      have N_107 := Fr.app N_106 Nq_107
      refine o_goto X_107 hq (pc' := 65) d8_34 ?_
      exact e_Z X_107 e_107 hq hlk hrt d8_65 ⟨(congrArg (fun z => some (Value.int z)) hv_104.symm), N_107, rfl⟩
abbrev D25 := decode method_4_code
theorem d25_0 : D25 0 = .ok (.iload_n 2, 1) := by decide +kernel
theorem d25_1 : D25 1 = .ok (.aload_n 0, 1) := by decide +kernel
theorem d25_2 : D25 2 = .ok (.arraylength, 1) := by decide +kernel
theorem d25_3 : D25 3 = .ok (.if_icmp .ge 20, 3) := by decide +kernel
theorem d25_23 : D25 23 = .ok (.iconst 0, 1) := by decide +kernel
theorem d25_24 : D25 24 = .ok (.ireturn, 1) := by decide +kernel
def Q_rmpointo (Z : State) (a0 : Array Value) (a1 : Addr) (p2 p3 : Int32) (k1 : ClassId) (N : Int32) (vs : List Value) (d1 : Value) (h0 : Heap) (n0 : Nat) (v : Option Value) (h : Heap) (L : List Loc) : Prop := v = some (.int (0 : Int32)) ∧ Fr n0 L ∧ h = h0
theorem rmpointo (hw : HW a0 Z) (a1 : Addr) (p2 p3 : Int32) (k1 : ClassId) (N : Int32) (vs : List Value) (d1 : Value) (h0 : Heap) (n0 : Nat) (Z0 : n0 ≤ h0.size) (V1 : Arv Z h0 a1 k1 .char N vs d1) (ho : ¬ p3 < N) :
  own_Met l y15_ method_4_code 3 (some .int) (R_ 0 0 0 0) #[(.ref a1), (.int p2), (.int p3)] Z h0 (Q_rmpointo Z a0 a1 p2 p3 k1 N vs d1 h0 n0) := by
 refine own_bd (own := "com/example/nimble_anonymizer/nimbleanonymizer/NumericColumnIsNumberPinLaw") rfl (plainFor_of_name pn_1) #[rv a1, iv p2, iv p3] ?_
 intro p e s m below meth c s₁ hx hby hq hml hown hnm hlk hrt hZ X0 e0
 refine o_iloadN X0 hq d25_0 rfl (o_aloadN X0 hq d25_1 rfl rfl ?_)
 obtain ⟨cl_1, Ar_1, qk_1, Sz_1, Ng_1, Hs_1, Gs_1⟩ := id V1
 refine own_st (X0.arraylength hx (by rw [e0]; exact Ar_1.1) (State.isArrayOf_alike hZ.alike Ar_1.2.1) (g := (mkF m 2 #[rv a1, iv p2, iv p3] [(.ref a1), (.int p3)])) rfl rfl (hb hby d25_2)) ?_
 rw [len_of Sz_1 Ng_1]
 show own_Go _ _ _ _ (s₁.setTop (mkF m 3 #[rv a1, iv p2, iv p3] [(.int N), (.int p3)]))
 refine o_icmpYes X0 hq (pc' := 23) d25_3 (flt ho).2.1 (o_iconst X0 hq 0 d25_23 rfl ?_)
 exact e_I X0 e0 hq hlk hrt d25_24 ⟨rfl, (Fr.nil n0), rfl⟩
theorem d25_6 : D25 6 = .ok (.iload_n 2, 1) := by decide +kernel
theorem d25_7 : D25 7 = .ok (.iload_n 1, 1) := by decide +kernel
theorem d25_8 : D25 8 = .ok (.if_icmp .lt 15, 3) := by decide +kernel
def Q_rmpointb (Z : State) (a0 : Array Value) (a1 : Addr) (p2 p3 : Int32) (k1 : ClassId) (N : Int32) (vs : List Value) (d1 : Value) (h0 : Heap) (n0 : Nat) (v : Option Value) (h : Heap) (L : List Loc) : Prop := v = some (.int (0 : Int32)) ∧ Fr n0 L ∧ h = h0
theorem rmpointb (hw : HW a0 Z) (a1 : Addr) (p2 p3 : Int32) (k1 : ClassId) (N : Int32) (vs : List Value) (d1 : Value) (h0 : Heap) (n0 : Nat) (Z0 : n0 ≤ h0.size) (V1 : Arv Z h0 a1 k1 .char N vs d1) (hi1 : p3 < N) (hbf : p3 < p2) :
  own_Met l y15_ method_4_code 3 (some .int) (R_ 0 0 0 0) #[(.ref a1), (.int p2), (.int p3)] Z h0 (Q_rmpointb Z a0 a1 p2 p3 k1 N vs d1 h0 n0) := by
 refine own_bd (own := "com/example/nimble_anonymizer/nimbleanonymizer/NumericColumnIsNumberPinLaw") rfl (plainFor_of_name pn_1) #[rv a1, iv p2, iv p3] ?_
 intro p e s m below meth c s₁ hx hby hq hml hown hnm hlk hrt hZ X0 e0
 refine o_iloadN X0 hq d25_0 rfl (o_aloadN X0 hq d25_1 rfl rfl ?_)
 obtain ⟨cl_1, Ar_1, qk_1, Sz_1, Ng_1, Hs_1, Gs_1⟩ := id V1
 refine own_st (X0.arraylength hx (by rw [e0]; exact Ar_1.1) (State.isArrayOf_alike hZ.alike Ar_1.2.1) (g := (mkF m 2 #[rv a1, iv p2, iv p3] [(.ref a1), (.int p3)])) rfl rfl (hb hby d25_2)) ?_
 rw [len_of Sz_1 Ng_1]
 show own_Go _ _ _ _ (s₁.setTop (mkF m 3 #[rv a1, iv p2, iv p3] [(.int N), (.int p3)]))
 refine o_icmpNo X0 hq d25_3 (tlt hi1).2.1 (o_iloadN X0 hq d25_6 rfl (o_iloadN X0 hq d25_7 rfl (o_icmpYes X0 hq (pc' := 23) d25_8 (tlt hbf).1 (o_iconst X0 hq 0 d25_23 rfl ?_))))
 exact e_I X0 e0 hq hlk hrt d25_24 ⟨rfl, (Fr.nil n0), rfl⟩
abbrev D26 := decode method_5_code
theorem d26_0 : D26 0 = .ok (.iload_n 2, 1) := by decide +kernel
theorem d26_1 : D26 1 = .ok (.aload_n 0, 1) := by decide +kernel
theorem d26_2 : D26 2 = .ok (.arraylength, 1) := by decide +kernel
theorem d26_3 : D26 3 = .ok (.if_icmp .ge 8, 3) := by decide +kernel
theorem d26_11 : D26 11 = .ok (.iconst 1, 1) := by decide +kernel
theorem d26_12 : D26 12 = .ok (.ireturn, 1) := by decide +kernel
def Q_rmgoodo (Z : State) (a0 : Array Value) (a1 : Addr) (p2 p3 : Int32) (k1 : ClassId) (N : Int32) (vs : List Value) (d1 : Value) (h0 : Heap) (n0 : Nat) (v : Option Value) (h : Heap) (L : List Loc) : Prop := v = some (.int (1 : Int32)) ∧ Fr n0 L ∧ h = h0
theorem rmgoodo (hw : HW a0 Z) (a1 : Addr) (p2 p3 : Int32) (k1 : ClassId) (N : Int32) (vs : List Value) (d1 : Value) (h0 : Heap) (n0 : Nat) (Z0 : n0 ≤ h0.size) (V1 : Arv Z h0 a1 k1 .char N vs d1) (ho : ¬ p3 < N) :
  own_Met l y11_ method_5_code 4 (some .boolean) (R_ 0 0 0 0) #[(.ref a1), (.int p2), (.int p3)] Z h0 (Q_rmgoodo Z a0 a1 p2 p3 k1 N vs d1 h0 n0) := by
 refine own_bd (own := "com/example/nimble_anonymizer/nimbleanonymizer/NumericColumnIsNumberPinLaw") rfl (plainFor_of_name pn_1) #[rv a1, iv p2, iv p3, .unset] ?_
 intro p e s m below meth c s₁ hx hby hq hml hown hnm hlk hrt hZ X0 e0
 refine o_iloadN X0 hq d26_0 rfl (o_aloadN X0 hq d26_1 rfl rfl ?_)
 obtain ⟨cl_1, Ar_1, qk_1, Sz_1, Ng_1, Hs_1, Gs_1⟩ := id V1
 refine own_st (X0.arraylength hx (by rw [e0]; exact Ar_1.1) (State.isArrayOf_alike hZ.alike Ar_1.2.1) (g := (mkF m 2 #[rv a1, iv p2, iv p3, .unset] [(.ref a1), (.int p3)])) rfl rfl (hb hby d26_2)) ?_
 rw [len_of Sz_1 Ng_1]
 show own_Go _ _ _ _ (s₁.setTop (mkF m 3 #[rv a1, iv p2, iv p3, .unset] [(.int N), (.int p3)]))
 refine o_icmpYes X0 hq (pc' := 11) d26_3 (flt ho).2.1 (o_iconst X0 hq 1 d26_11 rfl ?_)
 exact e_Z X0 e0 hq hlk hrt d26_12 ⟨rfl, (Fr.nil n0), rfl⟩
theorem d26_6 : D26 6 = .ok (.iload_n 2, 1) := by decide +kernel
theorem d26_7 : D26 7 = .ok (.iload_n 1, 1) := by decide +kernel
theorem d26_8 : D26 8 = .ok (.if_icmp .ge 5, 3) := by decide +kernel
def Q_rmgoodb (Z : State) (a0 : Array Value) (a1 : Addr) (p2 p3 : Int32) (k1 : ClassId) (N : Int32) (vs : List Value) (d1 : Value) (h0 : Heap) (n0 : Nat) (v : Option Value) (h : Heap) (L : List Loc) : Prop := v = some (.int (1 : Int32)) ∧ Fr n0 L ∧ h = h0
theorem rmgoodb (hw : HW a0 Z) (a1 : Addr) (p2 p3 : Int32) (k1 : ClassId) (N : Int32) (vs : List Value) (d1 : Value) (h0 : Heap) (n0 : Nat) (Z0 : n0 ≤ h0.size) (V1 : Arv Z h0 a1 k1 .char N vs d1) (hi1 : p3 < N) (hbf : p3 < p2) :
  own_Met l y11_ method_5_code 4 (some .boolean) (R_ 0 0 0 0) #[(.ref a1), (.int p2), (.int p3)] Z h0 (Q_rmgoodb Z a0 a1 p2 p3 k1 N vs d1 h0 n0) := by
 refine own_bd (own := "com/example/nimble_anonymizer/nimbleanonymizer/NumericColumnIsNumberPinLaw") rfl (plainFor_of_name pn_1) #[rv a1, iv p2, iv p3, .unset] ?_
 intro p e s m below meth c s₁ hx hby hq hml hown hnm hlk hrt hZ X0 e0
 refine o_iloadN X0 hq d26_0 rfl (o_aloadN X0 hq d26_1 rfl rfl ?_)
 obtain ⟨cl_1, Ar_1, qk_1, Sz_1, Ng_1, Hs_1, Gs_1⟩ := id V1
 refine own_st (X0.arraylength hx (by rw [e0]; exact Ar_1.1) (State.isArrayOf_alike hZ.alike Ar_1.2.1) (g := (mkF m 2 #[rv a1, iv p2, iv p3, .unset] [(.ref a1), (.int p3)])) rfl rfl (hb hby d26_2)) ?_
 rw [len_of Sz_1 Ng_1]
 show own_Go _ _ _ _ (s₁.setTop (mkF m 3 #[rv a1, iv p2, iv p3, .unset] [(.int N), (.int p3)]))
 refine o_icmpNo X0 hq d26_3 (tlt hi1).2.1 (o_iloadN X0 hq d26_6 rfl (o_iloadN X0 hq d26_7 rfl (o_icmpNo X0 hq d26_8 (tlt hbf).2.1 (o_iconst X0 hq 1 d26_11 rfl ?_))))
 exact e_Z X0 e0 hq hlk hrt d26_12 ⟨rfl, (Fr.nil n0), rfl⟩
def own_pt (x : Int32) : Int32 := (if x = (46 : Int32) then (1 : Int32) else (0 : Int32))
theorem d25_11 : D25 11 = .ok (.aload_n 0, 1) := by decide +kernel
theorem d25_12 : D25 12 = .ok (.iload_n 2, 1) := by decide +kernel
theorem d25_13 : D25 13 = .ok (.caload, 1) := by decide +kernel
theorem d25_14 : D25 14 = .ok (.bipush 46, 2) := by decide +kernel
theorem d25_16 : D25 16 = .ok (.if_icmp .ne 7, 3) := by decide +kernel
theorem d25_19 : D25 19 = .ok (.iconst 1, 1) := by decide +kernel
theorem d25_20 : D25 20 = .ok (.goto 4, 3) := by decide +kernel
def Q_rmpti (Z : State) (a0 : Array Value) (a1 : Addr) (p2 p3 : Int32) (k1 : ClassId) (N : Int32) (vs : List Value) (d1 : Value) (x : Int32) (h0 : Heap) (n0 : Nat) (v : Option Value) (h : Heap) (L : List Loc) : Prop := v = some (.int (own_pt x)) ∧ Fr n0 L ∧ h = h0
theorem rmpti (hw : HW a0 Z) (a1 : Addr) (p2 p3 : Int32) (k1 : ClassId) (N : Int32) (vs : List Value) (d1 : Value) (x : Int32) (h0 : Heap) (n0 : Nat) (Z0 : n0 ≤ h0.size) (V1 : Arv Z h0 a1 k1 .char N vs d1) (hi0 : ¬ p3 < 0) (hi1 : p3 < N) (hi2 : ¬ p3 < p2) (hx1 : vs.getD p3.toNatClampNeg d1 = .int x) :
  own_Met l y15_ method_4_code 3 (some .int) (R_ 0 0 0 0) #[(.ref a1), (.int p2), (.int p3)] Z h0 (Q_rmpti Z a0 a1 p2 p3 k1 N vs d1 x h0 n0) := by
 refine own_bd (own := "com/example/nimble_anonymizer/nimbleanonymizer/NumericColumnIsNumberPinLaw") rfl (plainFor_of_name pn_1) #[rv a1, iv p2, iv p3] ?_
 intro p e s m below meth c s₁ hx hby hq hml hown hnm hlk hrt hZ X0 e0
 have hv : own_pt x = (if x = (46 : Int32) then (1 : Int32) else (0 : Int32)) := rfl
 show own_Go _ _ _ _ (s₁.setTop (mkF m 0 #[rv a1, iv p2, iv p3] []))
 refine o_iloadN X0 hq d25_0 rfl (o_aloadN X0 hq d25_1 rfl rfl ?_)
 obtain ⟨cl_1, Ar_1, qk_1, Sz_1, Ng_1, Hs_1, Gs_1⟩ := id V1
 refine own_st (X0.arraylength hx (by rw [e0]; exact Ar_1.1) (State.isArrayOf_alike hZ.alike Ar_1.2.1) (g := (mkF m 2 #[rv a1, iv p2, iv p3] [(.ref a1), (.int p3)])) rfl rfl (hb hby d25_2)) ?_
 rw [len_of Sz_1 Ng_1]
 show own_Go _ _ _ _ (s₁.setTop (mkF m 3 #[rv a1, iv p2, iv p3] [(.int N), (.int p3)]))
 refine o_icmpNo X0 hq d25_3 (tlt hi1).2.1 (o_iloadN X0 hq d25_6 rfl (o_iloadN X0 hq d25_7 rfl (o_icmpNo X0 hq d25_8 (flt hi2).1 (o_aloadN X0 hq d25_11 rfl rfl (o_iloadN X0 hq d25_12 rfl ?_)))))
 obtain ⟨cl_2, Ar_2, qk_2, Sz_2, Ng_2, Hs_2, Gs_2⟩ := id V1
 refine own_st (X0.caload hx (j := p3) (v := (.int x)) (by rw [e0]; exact Ar_2.1) (State.isArrayOf_alike hZ.alike Ar_2.2.1) Ar_2.2.2 (inb_of Sz_2 ⟨hi0, hi1⟩) (Hs_2.at (j := p3) (inb_of Sz_2 ⟨hi0, hi1⟩) hx1) (g := (mkF m 13 #[rv a1, iv p2, iv p3] [(.int p3), (.ref a1)])) rfl rfl (hb hby d25_13)) ?_
 show own_Go _ _ _ _ (s₁.setTop (mkF m 14 #[rv a1, iv p2, iv p3] [(.int x)]))
 refine o_bipush X0 hq 46 d25_14 rfl ?_
 by_cases hc16__3 : x = (46 : Int32)
 ·have hv_4 := hv.trans (if_pos hc16__3)
  refine o_icmpNo X0 hq d25_16 (teq hc16__3).2 (o_iconst X0 hq 1 d25_19 rfl (o_goto X0 hq (pc' := 24) d25_20 ?_))
  exact e_I X0 e0 hq hlk hrt d25_24 ⟨(congrArg (fun z => some (Value.int z)) hv_4.symm), (Fr.nil n0), rfl⟩
 ·have hv_5 := hv.trans (if_neg hc16__3)
  refine o_icmpYes X0 hq (pc' := 23) d25_16 (feq hc16__3).2 (o_iconst X0 hq 0 d25_23 rfl ?_)
  exact e_I X0 e0 hq hlk hrt d25_24 ⟨(congrArg (fun z => some (Value.int z)) hv_5.symm), (Fr.nil n0), rfl⟩
def own_gd_mid (x : Int32) : Int32 := (if x < (48 : Int32) then (if x = (46 : Int32) then (1 : Int32) else (0 : Int32)) else (if (57 : Int32) < x then (if x = (46 : Int32) then (1 : Int32) else (0 : Int32)) else (1 : Int32)))
theorem d26_13 : D26 13 = .ok (.aload_n 0, 1) := by decide +kernel
theorem d26_14 : D26 14 = .ok (.iload_n 2, 1) := by decide +kernel
theorem d26_15 : D26 15 = .ok (.caload, 1) := by decide +kernel
theorem d26_16 : D26 16 = .ok (.istore_n 3, 1) := by decide +kernel
theorem d26_17 : D26 17 = .ok (.iload_n 3, 1) := by decide +kernel
theorem d26_18 : D26 18 = .ok (.bipush 48, 2) := by decide +kernel
theorem d26_20 : D26 20 = .ok (.if_icmp .lt 11, 3) := by decide +kernel
theorem d26_31 : D26 31 = .ok (.iload_n 3, 1) := by decide +kernel
theorem d26_32 : D26 32 = .ok (.bipush 46, 2) := by decide +kernel
theorem d26_34 : D26 34 = .ok (.if_icmp .ne 20, 3) := by decide +kernel
theorem d26_37 : D26 37 = .ok (.iload_n 2, 1) := by decide +kernel
theorem d26_38 : D26 38 = .ok (.iload_n 1, 1) := by decide +kernel
theorem d26_39 : D26 39 = .ok (.if_icmp .le 15, 3) := by decide +kernel
theorem d26_42 : D26 42 = .ok (.iload_n 2, 1) := by decide +kernel
theorem d26_43 : D26 43 = .ok (.aload_n 0, 1) := by decide +kernel
theorem d26_44 : D26 44 = .ok (.arraylength, 1) := by decide +kernel
theorem d26_45 : D26 45 = .ok (.iconst 1, 1) := by decide +kernel
theorem d26_46 : D26 46 = .ok (.isub, 1) := by decide +kernel
theorem d26_47 : D26 47 = .ok (.if_icmp .ge 7, 3) := by decide +kernel
theorem d26_50 : D26 50 = .ok (.iconst 1, 1) := by decide +kernel
theorem d26_51 : D26 51 = .ok (.goto 4, 3) := by decide +kernel
theorem d26_55 : D26 55 = .ok (.ireturn, 1) := by decide +kernel
theorem d26_54 : D26 54 = .ok (.iconst 0, 1) := by decide +kernel
theorem d26_23 : D26 23 = .ok (.iload_n 3, 1) := by decide +kernel
theorem d26_24 : D26 24 = .ok (.bipush 57, 2) := by decide +kernel
theorem d26_26 : D26 26 = .ok (.if_icmp .gt 5, 3) := by decide +kernel
theorem d26_29 : D26 29 = .ok (.iconst 1, 1) := by decide +kernel
theorem d26_30 : D26 30 = .ok (.ireturn, 1) := by decide +kernel
def Q_rmgdmid (Z : State) (a0 : Array Value) (a1 : Addr) (p2 p3 : Int32) (k1 : ClassId) (N : Int32) (vs : List Value) (d1 : Value) (x : Int32) (h0 : Heap) (n0 : Nat) (v : Option Value) (h : Heap) (L : List Loc) : Prop := v = some (.int (own_gd_mid x)) ∧ Fr n0 L ∧ h = h0
theorem rmgdmid (hw : HW a0 Z) (a1 : Addr) (p2 p3 : Int32) (k1 : ClassId) (N : Int32) (vs : List Value) (d1 : Value) (x : Int32) (h0 : Heap) (n0 : Nat) (Z0 : n0 ≤ h0.size) (V1 : Arv Z h0 a1 k1 .char N vs d1) (hi0 : ¬ p3 < 0) (hi1 : p3 < N) (hi2 : ¬ p3 < p2) (hx1 : vs.getD p3.toNatClampNeg d1 = .int x) (hm1 : p2 < p3) (hm2 : p3 < (N - (1 : Int32))) :
  own_Met l y11_ method_5_code 4 (some .boolean) (R_ 0 0 0 0) #[(.ref a1), (.int p2), (.int p3)] Z h0 (Q_rmgdmid Z a0 a1 p2 p3 k1 N vs d1 x h0 n0) := by
 refine own_bd (own := "com/example/nimble_anonymizer/nimbleanonymizer/NumericColumnIsNumberPinLaw") rfl (plainFor_of_name pn_1) #[rv a1, iv p2, iv p3, .unset] ?_
 intro p e s m below meth c s₁ hx hby hq hml hown hnm hlk hrt hZ X0 e0
 have hv : own_gd_mid x = (if x < (48 : Int32) then (if x = (46 : Int32) then (1 : Int32) else (0 : Int32)) else (if (57 : Int32) < x then (if x = (46 : Int32) then (1 : Int32) else (0 : Int32)) else (1 : Int32))) := rfl
 show own_Go _ _ _ _ (s₁.setTop (mkF m 0 #[rv a1, iv p2, iv p3, .unset] []))
 refine o_iloadN X0 hq d26_0 rfl (o_aloadN X0 hq d26_1 rfl rfl ?_)
 obtain ⟨cl_1, Ar_1, qk_1, Sz_1, Ng_1, Hs_1, Gs_1⟩ := id V1
 refine own_st (X0.arraylength hx (by rw [e0]; exact Ar_1.1) (State.isArrayOf_alike hZ.alike Ar_1.2.1) (g := (mkF m 2 #[rv a1, iv p2, iv p3, .unset] [(.ref a1), (.int p3)])) rfl rfl (hb hby d26_2)) ?_
 rw [len_of Sz_1 Ng_1]
 show own_Go _ _ _ _ (s₁.setTop (mkF m 3 #[rv a1, iv p2, iv p3, .unset] [(.int N), (.int p3)]))
 refine o_icmpNo X0 hq d26_3 (tlt hi1).2.1 (o_iloadN X0 hq d26_6 rfl (o_iloadN X0 hq d26_7 rfl (o_icmpYes X0 hq (pc' := 13) d26_8 (flt hi2).2.1 (o_aloadN X0 hq d26_13 rfl rfl (o_iloadN X0 hq d26_14 rfl ?_)))))
 obtain ⟨cl_2, Ar_2, qk_2, Sz_2, Ng_2, Hs_2, Gs_2⟩ := id V1
 refine own_st (X0.caload hx (j := p3) (v := (.int x)) (by rw [e0]; exact Ar_2.1) (State.isArrayOf_alike hZ.alike Ar_2.2.1) Ar_2.2.2 (inb_of Sz_2 ⟨hi0, hi1⟩) (Hs_2.at (j := p3) (inb_of Sz_2 ⟨hi0, hi1⟩) hx1) (g := (mkF m 15 #[rv a1, iv p2, iv p3, .unset] [(.int p3), (.ref a1)])) rfl rfl (hb hby d26_15)) ?_
 show own_Go _ _ _ _ (s₁.setTop (mkF m 16 #[rv a1, iv p2, iv p3, .unset] [(.int x)]))
 refine o_istoreN X0 hq d26_16 (l' := #[rv a1, iv p2, iv p3, iv x]) rfl (o_iloadN X0 hq d26_17 rfl (o_bipush X0 hq 48 d26_18 rfl ?_))
 by_cases hc20__3 : x < (48 : Int32)
 ·have hv_4 := hv.trans (if_pos hc20__3)
  refine o_icmpYes X0 hq (pc' := 31) d26_20 (tlt hc20__3).1 (o_iloadN X0 hq d26_31 rfl (o_bipush X0 hq 46 d26_32 rfl ?_))
  by_cases hc34__5 : x = (46 : Int32)
  ·have hv_6 := hv_4.trans (if_pos hc34__5)
   refine o_icmpNo X0 hq d26_34 (teq hc34__5).2 (o_iloadN X0 hq d26_37 rfl (o_iloadN X0 hq d26_38 rfl (o_icmpNo X0 hq d26_39 (tlt hm1).2.2.2 (o_iloadN X0 hq d26_42 rfl (o_aloadN X0 hq d26_43 rfl rfl ?_)))))
   obtain ⟨cl_7, Ar_7, qk_7, Sz_7, Ng_7, Hs_7, Gs_7⟩ := id V1
   refine own_st (X0.arraylength hx (by rw [e0]; exact Ar_7.1) (State.isArrayOf_alike hZ.alike Ar_7.2.1) (g := (mkF m 44 #[rv a1, iv p2, iv p3, iv x] [(.ref a1), (.int p3)])) rfl rfl (hb hby d26_44)) ?_
   rw [len_of Sz_7 Ng_7]
   show own_Go _ _ _ _ (s₁.setTop (mkF m 45 #[rv a1, iv p2, iv p3, iv x] [(.int N), (.int p3)]))
   refine o_iconst X0 hq 1 d26_45 rfl (o_isub X0 hq d26_46 (o_icmpNo X0 hq d26_47 (tlt hm2).2.1 (o_iconst X0 hq 1 d26_50 rfl (o_goto X0 hq (pc' := 55) d26_51 ?_))))
   exact e_Z X0 e0 hq hlk hrt d26_55 ⟨(congrArg (fun z => some (Value.int z)) hv_6.symm), (Fr.nil n0), rfl⟩
  ·have hv_8 := hv_4.trans (if_neg hc34__5)
   refine o_icmpYes X0 hq (pc' := 54) d26_34 (feq hc34__5).2 (o_iconst X0 hq 0 d26_54 rfl ?_)
   exact e_Z X0 e0 hq hlk hrt d26_55 ⟨(congrArg (fun z => some (Value.int z)) hv_8.symm), (Fr.nil n0), rfl⟩
 ·have hv_9 := hv.trans (if_neg hc20__3)
  refine o_icmpNo X0 hq d26_20 (flt hc20__3).1 (o_iloadN X0 hq d26_23 rfl (o_bipush X0 hq 57 d26_24 rfl ?_))
  by_cases hc26__10 : (57 : Int32) < x
  ·have hv_11 := hv_9.trans (if_pos hc26__10)
   refine o_icmpYes X0 hq (pc' := 31) d26_26 (tlt hc26__10).2.2.1 (o_iloadN X0 hq d26_31 rfl (o_bipush X0 hq 46 d26_32 rfl ?_))
   by_cases hc34__12 : x = (46 : Int32)
   ·have hv_13 := hv_11.trans (if_pos hc34__12)
    refine o_icmpNo X0 hq d26_34 (teq hc34__12).2 (o_iloadN X0 hq d26_37 rfl (o_iloadN X0 hq d26_38 rfl (o_icmpNo X0 hq d26_39 (tlt hm1).2.2.2 (o_iloadN X0 hq d26_42 rfl (o_aloadN X0 hq d26_43 rfl rfl ?_)))))
    obtain ⟨cl_14, Ar_14, qk_14, Sz_14, Ng_14, Hs_14, Gs_14⟩ := id V1
    refine own_st (X0.arraylength hx (by rw [e0]; exact Ar_14.1) (State.isArrayOf_alike hZ.alike Ar_14.2.1) (g := (mkF m 44 #[rv a1, iv p2, iv p3, iv x] [(.ref a1), (.int p3)])) rfl rfl (hb hby d26_44)) ?_
    rw [len_of Sz_14 Ng_14]
    show own_Go _ _ _ _ (s₁.setTop (mkF m 45 #[rv a1, iv p2, iv p3, iv x] [(.int N), (.int p3)]))
    refine o_iconst X0 hq 1 d26_45 rfl (o_isub X0 hq d26_46 (o_icmpNo X0 hq d26_47 (tlt hm2).2.1 (o_iconst X0 hq 1 d26_50 rfl (o_goto X0 hq (pc' := 55) d26_51 ?_))))
    exact e_Z X0 e0 hq hlk hrt d26_55 ⟨(congrArg (fun z => some (Value.int z)) hv_13.symm), (Fr.nil n0), rfl⟩
   ·have hv_15 := hv_11.trans (if_neg hc34__12)
    refine o_icmpYes X0 hq (pc' := 54) d26_34 (feq hc34__12).2 (o_iconst X0 hq 0 d26_54 rfl ?_)
    exact e_Z X0 e0 hq hlk hrt d26_55 ⟨(congrArg (fun z => some (Value.int z)) hv_15.symm), (Fr.nil n0), rfl⟩
  ·have hv_16 := hv_9.trans (if_neg hc26__10)
   refine o_icmpNo X0 hq d26_26 (flt hc26__10).2.2.1 (o_iconst X0 hq 1 d26_29 rfl ?_)
   exact e_Z X0 e0 hq hlk hrt d26_30 ⟨(congrArg (fun z => some (Value.int z)) hv_16.symm), (Fr.nil n0), rfl⟩
def own_gd_lo (x : Int32) : Int32 := (if x < (48 : Int32) then (if x = (46 : Int32) then (0 : Int32) else (0 : Int32)) else (if (57 : Int32) < x then (if x = (46 : Int32) then (0 : Int32) else (0 : Int32)) else (1 : Int32)))
def Q_rmgdlo (Z : State) (a0 : Array Value) (a1 : Addr) (p2 p3 : Int32) (k1 : ClassId) (N : Int32) (vs : List Value) (d1 : Value) (x : Int32) (h0 : Heap) (n0 : Nat) (v : Option Value) (h : Heap) (L : List Loc) : Prop := v = some (.int (own_gd_lo x)) ∧ Fr n0 L ∧ h = h0
theorem rmgdlo (hw : HW a0 Z) (a1 : Addr) (p2 p3 : Int32) (k1 : ClassId) (N : Int32) (vs : List Value) (d1 : Value) (x : Int32) (h0 : Heap) (n0 : Nat) (Z0 : n0 ≤ h0.size) (V1 : Arv Z h0 a1 k1 .char N vs d1) (hi0 : ¬ p3 < 0) (hi1 : p3 < N) (hi2 : ¬ p3 < p2) (hx1 : vs.getD p3.toNatClampNeg d1 = .int x) (hm1 : ¬ p2 < p3) :
  own_Met l y11_ method_5_code 4 (some .boolean) (R_ 0 0 0 0) #[(.ref a1), (.int p2), (.int p3)] Z h0 (Q_rmgdlo Z a0 a1 p2 p3 k1 N vs d1 x h0 n0) := by
 refine own_bd (own := "com/example/nimble_anonymizer/nimbleanonymizer/NumericColumnIsNumberPinLaw") rfl (plainFor_of_name pn_1) #[rv a1, iv p2, iv p3, .unset] ?_
 intro p e s m below meth c s₁ hx hby hq hml hown hnm hlk hrt hZ X0 e0
 have hv : own_gd_lo x = (if x < (48 : Int32) then (if x = (46 : Int32) then (0 : Int32) else (0 : Int32)) else (if (57 : Int32) < x then (if x = (46 : Int32) then (0 : Int32) else (0 : Int32)) else (1 : Int32))) := rfl
 show own_Go _ _ _ _ (s₁.setTop (mkF m 0 #[rv a1, iv p2, iv p3, .unset] []))
 refine o_iloadN X0 hq d26_0 rfl (o_aloadN X0 hq d26_1 rfl rfl ?_)
 obtain ⟨cl_1, Ar_1, qk_1, Sz_1, Ng_1, Hs_1, Gs_1⟩ := id V1
 refine own_st (X0.arraylength hx (by rw [e0]; exact Ar_1.1) (State.isArrayOf_alike hZ.alike Ar_1.2.1) (g := (mkF m 2 #[rv a1, iv p2, iv p3, .unset] [(.ref a1), (.int p3)])) rfl rfl (hb hby d26_2)) ?_
 rw [len_of Sz_1 Ng_1]
 show own_Go _ _ _ _ (s₁.setTop (mkF m 3 #[rv a1, iv p2, iv p3, .unset] [(.int N), (.int p3)]))
 refine o_icmpNo X0 hq d26_3 (tlt hi1).2.1 (o_iloadN X0 hq d26_6 rfl (o_iloadN X0 hq d26_7 rfl (o_icmpYes X0 hq (pc' := 13) d26_8 (flt hi2).2.1 (o_aloadN X0 hq d26_13 rfl rfl (o_iloadN X0 hq d26_14 rfl ?_)))))
 obtain ⟨cl_2, Ar_2, qk_2, Sz_2, Ng_2, Hs_2, Gs_2⟩ := id V1
 refine own_st (X0.caload hx (j := p3) (v := (.int x)) (by rw [e0]; exact Ar_2.1) (State.isArrayOf_alike hZ.alike Ar_2.2.1) Ar_2.2.2 (inb_of Sz_2 ⟨hi0, hi1⟩) (Hs_2.at (j := p3) (inb_of Sz_2 ⟨hi0, hi1⟩) hx1) (g := (mkF m 15 #[rv a1, iv p2, iv p3, .unset] [(.int p3), (.ref a1)])) rfl rfl (hb hby d26_15)) ?_
 show own_Go _ _ _ _ (s₁.setTop (mkF m 16 #[rv a1, iv p2, iv p3, .unset] [(.int x)]))
 refine o_istoreN X0 hq d26_16 (l' := #[rv a1, iv p2, iv p3, iv x]) rfl (o_iloadN X0 hq d26_17 rfl (o_bipush X0 hq 48 d26_18 rfl ?_))
 by_cases hc20__3 : x < (48 : Int32)
 ·have hv_4 := hv.trans (if_pos hc20__3)
  refine o_icmpYes X0 hq (pc' := 31) d26_20 (tlt hc20__3).1 (o_iloadN X0 hq d26_31 rfl (o_bipush X0 hq 46 d26_32 rfl ?_))
  by_cases hc34__5 : x = (46 : Int32)
  ·have hv_6 := hv_4.trans (if_pos hc34__5)
   refine o_icmpNo X0 hq d26_34 (teq hc34__5).2 (o_iloadN X0 hq d26_37 rfl (o_iloadN X0 hq d26_38 rfl (o_icmpYes X0 hq (pc' := 54) d26_39 (flt hm1).2.2.2 (o_iconst X0 hq 0 d26_54 rfl ?_))))
   exact e_Z X0 e0 hq hlk hrt d26_55 ⟨(congrArg (fun z => some (Value.int z)) hv_6.symm), (Fr.nil n0), rfl⟩
  ·have hv_7 := hv_4.trans (if_neg hc34__5)
   refine o_icmpYes X0 hq (pc' := 54) d26_34 (feq hc34__5).2 (o_iconst X0 hq 0 d26_54 rfl ?_)
   exact e_Z X0 e0 hq hlk hrt d26_55 ⟨(congrArg (fun z => some (Value.int z)) hv_7.symm), (Fr.nil n0), rfl⟩
 ·have hv_8 := hv.trans (if_neg hc20__3)
  refine o_icmpNo X0 hq d26_20 (flt hc20__3).1 (o_iloadN X0 hq d26_23 rfl (o_bipush X0 hq 57 d26_24 rfl ?_))
  by_cases hc26__9 : (57 : Int32) < x
  ·have hv_10 := hv_8.trans (if_pos hc26__9)
   refine o_icmpYes X0 hq (pc' := 31) d26_26 (tlt hc26__9).2.2.1 (o_iloadN X0 hq d26_31 rfl (o_bipush X0 hq 46 d26_32 rfl ?_))
   by_cases hc34__11 : x = (46 : Int32)
   ·have hv_12 := hv_10.trans (if_pos hc34__11)
    refine o_icmpNo X0 hq d26_34 (teq hc34__11).2 (o_iloadN X0 hq d26_37 rfl (o_iloadN X0 hq d26_38 rfl (o_icmpYes X0 hq (pc' := 54) d26_39 (flt hm1).2.2.2 (o_iconst X0 hq 0 d26_54 rfl ?_))))
    exact e_Z X0 e0 hq hlk hrt d26_55 ⟨(congrArg (fun z => some (Value.int z)) hv_12.symm), (Fr.nil n0), rfl⟩
   ·have hv_13 := hv_10.trans (if_neg hc34__11)
    refine o_icmpYes X0 hq (pc' := 54) d26_34 (feq hc34__11).2 (o_iconst X0 hq 0 d26_54 rfl ?_)
    exact e_Z X0 e0 hq hlk hrt d26_55 ⟨(congrArg (fun z => some (Value.int z)) hv_13.symm), (Fr.nil n0), rfl⟩
  ·have hv_14 := hv_8.trans (if_neg hc26__9)
   refine o_icmpNo X0 hq d26_26 (flt hc26__9).2.2.1 (o_iconst X0 hq 1 d26_29 rfl ?_)
   exact e_Z X0 e0 hq hlk hrt d26_30 ⟨(congrArg (fun z => some (Value.int z)) hv_14.symm), (Fr.nil n0), rfl⟩
def own_gd_hi (x : Int32) : Int32 := (if x < (48 : Int32) then (if x = (46 : Int32) then (0 : Int32) else (0 : Int32)) else (if (57 : Int32) < x then (if x = (46 : Int32) then (0 : Int32) else (0 : Int32)) else (1 : Int32)))
def Q_rmgdhi (Z : State) (a0 : Array Value) (a1 : Addr) (p2 p3 : Int32) (k1 : ClassId) (N : Int32) (vs : List Value) (d1 : Value) (x : Int32) (h0 : Heap) (n0 : Nat) (v : Option Value) (h : Heap) (L : List Loc) : Prop := v = some (.int (own_gd_hi x)) ∧ Fr n0 L ∧ h = h0
theorem rmgdhi (hw : HW a0 Z) (a1 : Addr) (p2 p3 : Int32) (k1 : ClassId) (N : Int32) (vs : List Value) (d1 : Value) (x : Int32) (h0 : Heap) (n0 : Nat) (Z0 : n0 ≤ h0.size) (V1 : Arv Z h0 a1 k1 .char N vs d1) (hi0 : ¬ p3 < 0) (hi1 : p3 < N) (hi2 : ¬ p3 < p2) (hx1 : vs.getD p3.toNatClampNeg d1 = .int x) (hm1 : p2 < p3) (hm2 : ¬ p3 < (N - (1 : Int32))) :
  own_Met l y11_ method_5_code 4 (some .boolean) (R_ 0 0 0 0) #[(.ref a1), (.int p2), (.int p3)] Z h0 (Q_rmgdhi Z a0 a1 p2 p3 k1 N vs d1 x h0 n0) := by
 refine own_bd (own := "com/example/nimble_anonymizer/nimbleanonymizer/NumericColumnIsNumberPinLaw") rfl (plainFor_of_name pn_1) #[rv a1, iv p2, iv p3, .unset] ?_
 intro p e s m below meth c s₁ hx hby hq hml hown hnm hlk hrt hZ X0 e0
 have hv : own_gd_hi x = (if x < (48 : Int32) then (if x = (46 : Int32) then (0 : Int32) else (0 : Int32)) else (if (57 : Int32) < x then (if x = (46 : Int32) then (0 : Int32) else (0 : Int32)) else (1 : Int32))) := rfl
 show own_Go _ _ _ _ (s₁.setTop (mkF m 0 #[rv a1, iv p2, iv p3, .unset] []))
 refine o_iloadN X0 hq d26_0 rfl (o_aloadN X0 hq d26_1 rfl rfl ?_)
 obtain ⟨cl_1, Ar_1, qk_1, Sz_1, Ng_1, Hs_1, Gs_1⟩ := id V1
 refine own_st (X0.arraylength hx (by rw [e0]; exact Ar_1.1) (State.isArrayOf_alike hZ.alike Ar_1.2.1) (g := (mkF m 2 #[rv a1, iv p2, iv p3, .unset] [(.ref a1), (.int p3)])) rfl rfl (hb hby d26_2)) ?_
 rw [len_of Sz_1 Ng_1]
 show own_Go _ _ _ _ (s₁.setTop (mkF m 3 #[rv a1, iv p2, iv p3, .unset] [(.int N), (.int p3)]))
 refine o_icmpNo X0 hq d26_3 (tlt hi1).2.1 (o_iloadN X0 hq d26_6 rfl (o_iloadN X0 hq d26_7 rfl (o_icmpYes X0 hq (pc' := 13) d26_8 (flt hi2).2.1 (o_aloadN X0 hq d26_13 rfl rfl (o_iloadN X0 hq d26_14 rfl ?_)))))
 obtain ⟨cl_2, Ar_2, qk_2, Sz_2, Ng_2, Hs_2, Gs_2⟩ := id V1
 refine own_st (X0.caload hx (j := p3) (v := (.int x)) (by rw [e0]; exact Ar_2.1) (State.isArrayOf_alike hZ.alike Ar_2.2.1) Ar_2.2.2 (inb_of Sz_2 ⟨hi0, hi1⟩) (Hs_2.at (j := p3) (inb_of Sz_2 ⟨hi0, hi1⟩) hx1) (g := (mkF m 15 #[rv a1, iv p2, iv p3, .unset] [(.int p3), (.ref a1)])) rfl rfl (hb hby d26_15)) ?_
 show own_Go _ _ _ _ (s₁.setTop (mkF m 16 #[rv a1, iv p2, iv p3, .unset] [(.int x)]))
 refine o_istoreN X0 hq d26_16 (l' := #[rv a1, iv p2, iv p3, iv x]) rfl (o_iloadN X0 hq d26_17 rfl (o_bipush X0 hq 48 d26_18 rfl ?_))
 by_cases hc20__3 : x < (48 : Int32)
 ·have hv_4 := hv.trans (if_pos hc20__3)
  refine o_icmpYes X0 hq (pc' := 31) d26_20 (tlt hc20__3).1 (o_iloadN X0 hq d26_31 rfl (o_bipush X0 hq 46 d26_32 rfl ?_))
  by_cases hc34__5 : x = (46 : Int32)
  ·have hv_6 := hv_4.trans (if_pos hc34__5)
   refine o_icmpNo X0 hq d26_34 (teq hc34__5).2 (o_iloadN X0 hq d26_37 rfl (o_iloadN X0 hq d26_38 rfl (o_icmpNo X0 hq d26_39 (tlt hm1).2.2.2 (o_iloadN X0 hq d26_42 rfl (o_aloadN X0 hq d26_43 rfl rfl ?_)))))
   obtain ⟨cl_7, Ar_7, qk_7, Sz_7, Ng_7, Hs_7, Gs_7⟩ := id V1
   refine own_st (X0.arraylength hx (by rw [e0]; exact Ar_7.1) (State.isArrayOf_alike hZ.alike Ar_7.2.1) (g := (mkF m 44 #[rv a1, iv p2, iv p3, iv x] [(.ref a1), (.int p3)])) rfl rfl (hb hby d26_44)) ?_
   rw [len_of Sz_7 Ng_7]
   show own_Go _ _ _ _ (s₁.setTop (mkF m 45 #[rv a1, iv p2, iv p3, iv x] [(.int N), (.int p3)]))
   refine o_iconst X0 hq 1 d26_45 rfl (o_isub X0 hq d26_46 (o_icmpYes X0 hq (pc' := 54) d26_47 (flt hm2).2.1 (o_iconst X0 hq 0 d26_54 rfl ?_)))
   exact e_Z X0 e0 hq hlk hrt d26_55 ⟨(congrArg (fun z => some (Value.int z)) hv_6.symm), (Fr.nil n0), rfl⟩
  ·have hv_8 := hv_4.trans (if_neg hc34__5)
   refine o_icmpYes X0 hq (pc' := 54) d26_34 (feq hc34__5).2 (o_iconst X0 hq 0 d26_54 rfl ?_)
   exact e_Z X0 e0 hq hlk hrt d26_55 ⟨(congrArg (fun z => some (Value.int z)) hv_8.symm), (Fr.nil n0), rfl⟩
 ·have hv_9 := hv.trans (if_neg hc20__3)
  refine o_icmpNo X0 hq d26_20 (flt hc20__3).1 (o_iloadN X0 hq d26_23 rfl (o_bipush X0 hq 57 d26_24 rfl ?_))
  by_cases hc26__10 : (57 : Int32) < x
  ·have hv_11 := hv_9.trans (if_pos hc26__10)
   refine o_icmpYes X0 hq (pc' := 31) d26_26 (tlt hc26__10).2.2.1 (o_iloadN X0 hq d26_31 rfl (o_bipush X0 hq 46 d26_32 rfl ?_))
   by_cases hc34__12 : x = (46 : Int32)
   ·have hv_13 := hv_11.trans (if_pos hc34__12)
    refine o_icmpNo X0 hq d26_34 (teq hc34__12).2 (o_iloadN X0 hq d26_37 rfl (o_iloadN X0 hq d26_38 rfl (o_icmpNo X0 hq d26_39 (tlt hm1).2.2.2 (o_iloadN X0 hq d26_42 rfl (o_aloadN X0 hq d26_43 rfl rfl ?_)))))
    obtain ⟨cl_14, Ar_14, qk_14, Sz_14, Ng_14, Hs_14, Gs_14⟩ := id V1
    refine own_st (X0.arraylength hx (by rw [e0]; exact Ar_14.1) (State.isArrayOf_alike hZ.alike Ar_14.2.1) (g := (mkF m 44 #[rv a1, iv p2, iv p3, iv x] [(.ref a1), (.int p3)])) rfl rfl (hb hby d26_44)) ?_
    rw [len_of Sz_14 Ng_14]
    show own_Go _ _ _ _ (s₁.setTop (mkF m 45 #[rv a1, iv p2, iv p3, iv x] [(.int N), (.int p3)]))
    refine o_iconst X0 hq 1 d26_45 rfl (o_isub X0 hq d26_46 (o_icmpYes X0 hq (pc' := 54) d26_47 (flt hm2).2.1 (o_iconst X0 hq 0 d26_54 rfl ?_)))
    exact e_Z X0 e0 hq hlk hrt d26_55 ⟨(congrArg (fun z => some (Value.int z)) hv_13.symm), (Fr.nil n0), rfl⟩
   ·have hv_15 := hv_11.trans (if_neg hc34__12)
    refine o_icmpYes X0 hq (pc' := 54) d26_34 (feq hc34__12).2 (o_iconst X0 hq 0 d26_54 rfl ?_)
    exact e_Z X0 e0 hq hlk hrt d26_55 ⟨(congrArg (fun z => some (Value.int z)) hv_15.symm), (Fr.nil n0), rfl⟩
  ·have hv_16 := hv_9.trans (if_neg hc26__10)
   refine o_icmpNo X0 hq d26_26 (flt hc26__10).2.2.1 (o_iconst X0 hq 1 d26_29 rfl ?_)
   exact e_Z X0 e0 hq hlk hrt d26_30 ⟨(congrArg (fun z => some (Value.int z)) hv_16.symm), (Fr.nil n0), rfl⟩
theorem own_f5_0 (c0 c1 c2 c3 c4 : Int32) : own_f5 c0 c1 c2 c3 c4 (0 : Int32) = c0 := rfl
theorem own_f5_1 (c0 c1 c2 c3 c4 : Int32) : own_f5 c0 c1 c2 c3 c4 (1 : Int32) = c1 := rfl
theorem own_f5_2 (c0 c1 c2 c3 c4 : Int32) : own_f5 c0 c1 c2 c3 c4 (2 : Int32) = c2 := rfl
theorem own_f5_3 (c0 c1 c2 c3 c4 : Int32) : own_f5 c0 c1 c2 c3 c4 (3 : Int32) = c3 := rfl
theorem own_f5_4 (c0 c1 c2 c3 c4 : Int32) : own_f5 c0 c1 c2 c3 c4 (4 : Int32) = c4 := rfl
theorem own_law_0 (c0 c1 c2 c3 c4 : Int32) (h0 : ¬ (255 : Int32) < c0 ∧ ¬ c0 < 0) (h1 : ¬ (255 : Int32) < c1 ∧ ¬ c1 < 0) (h2 : ¬ (255 : Int32) < c2 ∧ ¬ c2 < 0) (h3 : ¬ (255 : Int32) < c3 ∧ ¬ c3 < 0) (h4 : ¬ (255 : Int32) < c4 ∧ ¬ c4 < 0) : own_isn_0 (own_f5 c0 c1 c2 c3 c4) = (0 : Int32) := by
 simp only [own_isn_0, own_sg, own_pt, own_gd_lo, own_gd_mid, own_gd_hi, own_dg_0_1, own_dg_0_2, own_dg_1_2, own_dg_0_3, own_dg_1_3, own_dg_2_3, own_dg_0_4, own_dg_1_4, own_dg_2_4, own_dg_3_4, own_dg_0_5, own_dg_1_5, own_dg_2_5, own_dg_3_5, own_dg_4_5, own_f5_0, own_f5_1, own_f5_2, own_f5_3, own_f5_4, own_b46 h0, own_b46 h1, own_b46 h2, own_b46 h3, own_b46 h4, own_k43, own_k45, own_k46, own_k48, own_k57]
theorem own_law_1 (c0 c1 c2 c3 c4 : Int32) (h0 : ¬ (255 : Int32) < c0 ∧ ¬ c0 < 0) (h1 : ¬ (255 : Int32) < c1 ∧ ¬ c1 < 0) (h2 : ¬ (255 : Int32) < c2 ∧ ¬ c2 < 0) (h3 : ¬ (255 : Int32) < c3 ∧ ¬ c3 < 0) (h4 : ¬ (255 : Int32) < c4 ∧ ¬ c4 < 0) : own_isn_1 (own_f5 c0 c1 c2 c3 c4) = (if c0 = (43 : Int32) then (0 : Int32) else (if c0 = (45 : Int32) then (0 : Int32) else (if (1 : Int32) < (((((own_pt c0) + (0 : Int32)) + (0 : Int32)) + (0 : Int32)) + (0 : Int32)) then (0 : Int32) else (if (own_gd_lo c0) = (0 : Int32) then (0 : Int32) else (1 : Int32))))) := by
 simp only [own_isn_1, own_sg, own_pt, own_gd_lo, own_gd_mid, own_gd_hi, own_dg_0_1, own_dg_0_2, own_dg_1_2, own_dg_0_3, own_dg_1_3, own_dg_2_3, own_dg_0_4, own_dg_1_4, own_dg_2_4, own_dg_3_4, own_dg_0_5, own_dg_1_5, own_dg_2_5, own_dg_3_5, own_dg_4_5, own_f5_0, own_f5_1, own_f5_2, own_f5_3, own_f5_4, own_b46 h0, own_b46 h1, own_b46 h2, own_b46 h3, own_b46 h4, own_k43, own_k45, own_k46, own_k48, own_k57]
 generalize own_cls c0 = k0
 clear h0 h1 h2 h3 h4
 revert k0
 decide +kernel
theorem own_law_2 (c0 c1 c2 c3 c4 : Int32) (h0 : ¬ (255 : Int32) < c0 ∧ ¬ c0 < 0) (h1 : ¬ (255 : Int32) < c1 ∧ ¬ c1 < 0) (h2 : ¬ (255 : Int32) < c2 ∧ ¬ c2 < 0) (h3 : ¬ (255 : Int32) < c3 ∧ ¬ c3 < 0) (h4 : ¬ (255 : Int32) < c4 ∧ ¬ c4 < 0) : own_isn_2 (own_f5 c0 c1 c2 c3 c4) = (if c0 = (43 : Int32) then (if (1 : Int32) < (((((0 : Int32) + (own_pt c1)) + (0 : Int32)) + (0 : Int32)) + (0 : Int32)) then (0 : Int32) else (if (own_gd_lo c1) = (0 : Int32) then (0 : Int32) else (1 : Int32))) else (if c0 = (45 : Int32) then (if (1 : Int32) < (((((0 : Int32) + (own_pt c1)) + (0 : Int32)) + (0 : Int32)) + (0 : Int32)) then (0 : Int32) else (if (own_gd_lo c1) = (0 : Int32) then (0 : Int32) else (1 : Int32))) else (if (1 : Int32) < (((((own_pt c0) + (own_pt c1)) + (0 : Int32)) + (0 : Int32)) + (0 : Int32)) then (0 : Int32) else (if (own_gd_lo c0) = (0 : Int32) then (0 : Int32) else (if (own_gd_hi c1) = (0 : Int32) then (0 : Int32) else (1 : Int32)))))) := by
 simp only [own_isn_2, own_sg, own_pt, own_gd_lo, own_gd_mid, own_gd_hi, own_dg_0_1, own_dg_0_2, own_dg_1_2, own_dg_0_3, own_dg_1_3, own_dg_2_3, own_dg_0_4, own_dg_1_4, own_dg_2_4, own_dg_3_4, own_dg_0_5, own_dg_1_5, own_dg_2_5, own_dg_3_5, own_dg_4_5, own_f5_0, own_f5_1, own_f5_2, own_f5_3, own_f5_4, own_b46 h0, own_b46 h1, own_b46 h2, own_b46 h3, own_b46 h4, own_k43, own_k45, own_k46, own_k48, own_k57]
 generalize own_cls c0 = k0
 generalize own_cls c1 = k1
 clear h0 h1 h2 h3 h4
 revert k0 k1
 decide +kernel
theorem own_law_3 (c0 c1 c2 c3 c4 : Int32) (h0 : ¬ (255 : Int32) < c0 ∧ ¬ c0 < 0) (h1 : ¬ (255 : Int32) < c1 ∧ ¬ c1 < 0) (h2 : ¬ (255 : Int32) < c2 ∧ ¬ c2 < 0) (h3 : ¬ (255 : Int32) < c3 ∧ ¬ c3 < 0) (h4 : ¬ (255 : Int32) < c4 ∧ ¬ c4 < 0) : own_isn_3 (own_f5 c0 c1 c2 c3 c4) = (if c0 = (43 : Int32) then (if (1 : Int32) < (((((0 : Int32) + (own_pt c1)) + (own_pt c2)) + (0 : Int32)) + (0 : Int32)) then (0 : Int32) else (if (own_gd_lo c1) = (0 : Int32) then (0 : Int32) else (if (own_gd_hi c2) = (0 : Int32) then (0 : Int32) else (1 : Int32)))) else (if c0 = (45 : Int32) then (if (1 : Int32) < (((((0 : Int32) + (own_pt c1)) + (own_pt c2)) + (0 : Int32)) + (0 : Int32)) then (0 : Int32) else (if (own_gd_lo c1) = (0 : Int32) then (0 : Int32) else (if (own_gd_hi c2) = (0 : Int32) then (0 : Int32) else (1 : Int32)))) else (if (1 : Int32) < (((((own_pt c0) + (own_pt c1)) + (own_pt c2)) + (0 : Int32)) + (0 : Int32)) then (0 : Int32) else (if (own_gd_lo c0) = (0 : Int32) then (0 : Int32) else (if (own_gd_mid c1) = (0 : Int32) then (0 : Int32) else (if (own_gd_hi c2) = (0 : Int32) then (0 : Int32) else (1 : Int32))))))) := by
 simp only [own_isn_3, own_sg, own_pt, own_gd_lo, own_gd_mid, own_gd_hi, own_dg_0_1, own_dg_0_2, own_dg_1_2, own_dg_0_3, own_dg_1_3, own_dg_2_3, own_dg_0_4, own_dg_1_4, own_dg_2_4, own_dg_3_4, own_dg_0_5, own_dg_1_5, own_dg_2_5, own_dg_3_5, own_dg_4_5, own_f5_0, own_f5_1, own_f5_2, own_f5_3, own_f5_4, own_b46 h0, own_b46 h1, own_b46 h2, own_b46 h3, own_b46 h4, own_k43, own_k45, own_k46, own_k48, own_k57]
 generalize own_cls c0 = k0
 generalize own_cls c1 = k1
 generalize own_cls c2 = k2
 clear h0 h1 h2 h3 h4
 revert k0 k1 k2
 decide +kernel
theorem own_law_4 (c0 c1 c2 c3 c4 : Int32) (h0 : ¬ (255 : Int32) < c0 ∧ ¬ c0 < 0) (h1 : ¬ (255 : Int32) < c1 ∧ ¬ c1 < 0) (h2 : ¬ (255 : Int32) < c2 ∧ ¬ c2 < 0) (h3 : ¬ (255 : Int32) < c3 ∧ ¬ c3 < 0) (h4 : ¬ (255 : Int32) < c4 ∧ ¬ c4 < 0) : own_isn_4 (own_f5 c0 c1 c2 c3 c4) = (if c0 = (43 : Int32) then (if (1 : Int32) < (((((0 : Int32) + (own_pt c1)) + (own_pt c2)) + (own_pt c3)) + (0 : Int32)) then (0 : Int32) else (if (own_gd_lo c1) = (0 : Int32) then (0 : Int32) else (if (own_gd_mid c2) = (0 : Int32) then (0 : Int32) else (if (own_gd_hi c3) = (0 : Int32) then (0 : Int32) else (1 : Int32))))) else (if c0 = (45 : Int32) then (if (1 : Int32) < (((((0 : Int32) + (own_pt c1)) + (own_pt c2)) + (own_pt c3)) + (0 : Int32)) then (0 : Int32) else (if (own_gd_lo c1) = (0 : Int32) then (0 : Int32) else (if (own_gd_mid c2) = (0 : Int32) then (0 : Int32) else (if (own_gd_hi c3) = (0 : Int32) then (0 : Int32) else (1 : Int32))))) else (if (1 : Int32) < (((((own_pt c0) + (own_pt c1)) + (own_pt c2)) + (own_pt c3)) + (0 : Int32)) then (0 : Int32) else (if (own_gd_lo c0) = (0 : Int32) then (0 : Int32) else (if (own_gd_mid c1) = (0 : Int32) then (0 : Int32) else (if (own_gd_mid c2) = (0 : Int32) then (0 : Int32) else (if (own_gd_hi c3) = (0 : Int32) then (0 : Int32) else (1 : Int32)))))))) := by
 simp only [own_isn_4, own_sg, own_pt, own_gd_lo, own_gd_mid, own_gd_hi, own_dg_0_1, own_dg_0_2, own_dg_1_2, own_dg_0_3, own_dg_1_3, own_dg_2_3, own_dg_0_4, own_dg_1_4, own_dg_2_4, own_dg_3_4, own_dg_0_5, own_dg_1_5, own_dg_2_5, own_dg_3_5, own_dg_4_5, own_f5_0, own_f5_1, own_f5_2, own_f5_3, own_f5_4, own_b46 h0, own_b46 h1, own_b46 h2, own_b46 h3, own_b46 h4, own_k43, own_k45, own_k46, own_k48, own_k57]
 generalize own_cls c0 = k0
 generalize own_cls c1 = k1
 generalize own_cls c2 = k2
 generalize own_cls c3 = k3
 clear h0 h1 h2 h3 h4
 revert k0 k1 k2 k3
 decide +kernel
theorem own_law_5 (c0 c1 c2 c3 c4 : Int32) (h0 : ¬ (255 : Int32) < c0 ∧ ¬ c0 < 0) (h1 : ¬ (255 : Int32) < c1 ∧ ¬ c1 < 0) (h2 : ¬ (255 : Int32) < c2 ∧ ¬ c2 < 0) (h3 : ¬ (255 : Int32) < c3 ∧ ¬ c3 < 0) (h4 : ¬ (255 : Int32) < c4 ∧ ¬ c4 < 0) : own_isn_5 (own_f5 c0 c1 c2 c3 c4) = (if c0 = (43 : Int32) then (if (1 : Int32) < (((((0 : Int32) + (own_pt c1)) + (own_pt c2)) + (own_pt c3)) + (own_pt c4)) then (0 : Int32) else (if (own_gd_lo c1) = (0 : Int32) then (0 : Int32) else (if (own_gd_mid c2) = (0 : Int32) then (0 : Int32) else (if (own_gd_mid c3) = (0 : Int32) then (0 : Int32) else (if (own_gd_hi c4) = (0 : Int32) then (0 : Int32) else (1 : Int32)))))) else (if c0 = (45 : Int32) then (if (1 : Int32) < (((((0 : Int32) + (own_pt c1)) + (own_pt c2)) + (own_pt c3)) + (own_pt c4)) then (0 : Int32) else (if (own_gd_lo c1) = (0 : Int32) then (0 : Int32) else (if (own_gd_mid c2) = (0 : Int32) then (0 : Int32) else (if (own_gd_mid c3) = (0 : Int32) then (0 : Int32) else (if (own_gd_hi c4) = (0 : Int32) then (0 : Int32) else (1 : Int32)))))) else (if (1 : Int32) < (((((own_pt c0) + (own_pt c1)) + (own_pt c2)) + (own_pt c3)) + (own_pt c4)) then (0 : Int32) else (if (own_gd_lo c0) = (0 : Int32) then (0 : Int32) else (if (own_gd_mid c1) = (0 : Int32) then (0 : Int32) else (if (own_gd_mid c2) = (0 : Int32) then (0 : Int32) else (if (own_gd_mid c3) = (0 : Int32) then (0 : Int32) else (if (own_gd_hi c4) = (0 : Int32) then (0 : Int32) else (1 : Int32))))))))) := by
 simp only [own_isn_5, own_sg, own_pt, own_gd_lo, own_gd_mid, own_gd_hi, own_dg_0_1, own_dg_0_2, own_dg_1_2, own_dg_0_3, own_dg_1_3, own_dg_2_3, own_dg_0_4, own_dg_1_4, own_dg_2_4, own_dg_3_4, own_dg_0_5, own_dg_1_5, own_dg_2_5, own_dg_3_5, own_dg_4_5, own_f5_0, own_f5_1, own_f5_2, own_f5_3, own_f5_4, own_b46 h0, own_b46 h1, own_b46 h2, own_b46 h3, own_b46 h4, own_k43, own_k45, own_k46, own_k48, own_k57]
 generalize own_cls c0 = k0
 generalize own_cls c1 = k1
 generalize own_cls c2 = k2
 generalize own_cls c3 = k3
 generalize own_cls c4 = k4
 clear h0 h1 h2 h3 h4
 revert k0 k1 k2 k3 k4
 decide +kernel
theorem pd_17 : parseMethodDescriptor "([C)V" = some ⟨[(.array .char)], none⟩ := by decide +kernel
theorem k0_19 {a0 : Array Value} {Z : State} (hw : HW a0 Z) : own_KS a0 Z "com/example/nimble_anonymizer/nimbleanonymizer/NumericColumnIsNumberPinLaw" "" 19 y7_ y7_ prog_24_method_4_code 3 (some .boolean) 1 := ⟨⟨(w_ hw 35 rfl), ⟨_, _, pd_15, rfl⟩, by decide⟩, (w_ hw 36 rfl), (w_ hw 37 rfl), (w_ hw 38 rfl)⟩
theorem pd_18 : parseMethodDescriptor "([CII)I" = some ⟨[(.array .char), .int, .int], some .int⟩ := by decide +kernel
theorem k0_25 {a0 : Array Value} {Z : State} (hw : HW a0 Z) : own_KS a0 Z "com/example/nimble_anonymizer/nimbleanonymizer/NumericColumnIsNumberPinLaw" "" 25 y15_ y15_ method_4_code 3 (some .int) 3 := ⟨⟨(w_ hw 104 rfl), ⟨_, _, pd_18, rfl⟩, by decide⟩, (w_ hw 105 rfl), (w_ hw 4 rfl), (w_ hw 106 rfl)⟩
section Sm
variable {p : Program} {l : Launch} {e : Env} {R : Room} {s : State} {m : MethodId} {args : Array Value} {below : List Frame} {meth : Method} {c : Code} {T : State} {locs : List Loc} {cells slots : Nat} {P : Outcome → State → Prop} {pc : Nat} {Ls : Array Slot} {st : List Value}
theorem e_ZW {vm₁ : Vm} (X : Stand p l e R (s.setVm vm₁) m args below meth c T locs cells slots) {n : Nat} (hS : s.Since vm₁ n) {h : Heap} (eT : T.heap = h) (hn : n ≤ h.size) {cb : ByteArray} (hq : p.tables.exec = Jvm.exec ∧ c.code = cb) (hlk : meth.locks = false) {z : Int32} {rest : List Value} (hrt : meth.sig.returnType = some .boolean) (hd : decode cb pc = .ok (.ireturn, 1)) {Q : Option Value → Heap → List Loc → Prop} (hQ : Q (some (.int (nar .boolean z))) h locs) (hcs : cells ≤ R.cells ∧ slots ≤ R.slots := by decide) :
  own_Go p.tables e below (own_PW s Q R) (T.setTop (mkF m pc Ls (.int z :: rest))) := own_endW X hS eT hn (v := (some (.int (nar .boolean z)))) (fun h => by rw [hrt] at h; cases h) hlk (fun fs hr => retN X hq.1 (z := z) (t := .boolean) hrt (by simp) (hb hq.2 hd) hr) (Q := Q) hQ hcs.1 hcs.2
end Sm
theorem k0_8 {a0 : Array Value} {Z : State} (hw : HW a0 Z) : own_KS a0 Z "com/example/nimble_anonymizer/nimbleanonymizer/NumericColumnIsNumberPinLaw" "" 8 y23_ y23_ method_3_code 4 (some .char) 1 := ⟨⟨(w_ hw 2 rfl), ⟨_, _, pd_10, rfl⟩, by decide⟩, (w_ hw 3 rfl), (w_ hw 4 rfl), (w_ hw 5 rfl)⟩
section Sm
variable {p : Program} {l : Launch} {e : Env} {R : Room} {s : State} {m : MethodId} {args : Array Value} {below : List Frame} {meth : Method} {c : Code} {T : State} {locs : List Loc} {cells slots : Nat} {P : Outcome → State → Prop} {pc : Nat} {Ls : Array Slot} {st : List Value}
theorem c_I1v (X : Stand p l e R s m args below meth c T locs cells slots) {cb : ByteArray} (hq : p.tables.exec = Jvm.exec ∧ c.code = cb) {Z : State} {a0 : Array Value} {h : Heap} {own C : String} {index : Nat} {y z : MethodName} {bytes : ByteArray} {maxL ML : Nat} {ret : Option FieldType} {rm : Room} {Q : Option Value → Heap → List Loc → Prop} {a : Addr} {v1 : Value}
  (eT : T.heap = h) (hZ : Z.Warmed39 s.vm) (hown : s.vm.findClass own = some m.cls) (hml : c.maxLocals = ML) (hK : own_KI a0 Z own C index y z bytes maxL ret 1) (hM : own_Met l y bytes maxL none rm #[(.ref a), v1] Z h Q)
  (hd : decode cb pc = .ok (.invokespecial index, 3)) 
  (k : ∀ (T' : State) (L : List Loc), Stand p l e R s m args below meth c T' (locs ++ L) (cells + rm.cells) (slots + rm.slots) → Q none T'.heap L → own_Go p.tables e below P (T'.setTop (mkF m (pc + 3) Ls st))) (W : Nat) (hsz : Ls.size = ML := by rfl) (hW : (st.map fun v => v.category).sum = W := by rfl) (sd : rm.frames + 1 ≤ R.frames ∧ W + (maxL + 11) + rm.locals ≤ R.locals ∧ cells + rm.cells ≤ R.cells ∧ slots + rm.slots ≤ R.slots := by decide) (hv : ∀ v h L, Q v h L → v = none := by intro v h L q; first | exact id q.1 | (obtain ⟨_, q⟩ := q; exact id q.1) | (obtain ⟨_, _, q⟩ := q; exact id q.1) | (obtain ⟨_, _, _, q⟩ := q; exact id q.1)) : own_Go p.tables e below P (T.setTop (mkF m pc Ls (v1 :: (.ref a) :: st))) := by
 obtain ⟨⟨w1, ⟨ps, r, hp, hlen⟩, hy⟩, hn, w2, w3, w4⟩ := hK
 obtain ⟨v, vm1, ⟨T', L0, k0, n0⟩, -, X', ⟨L, hQ, e1, e2, e3⟩, hst⟩ := X.specialBack hq.1 (y := y) hn hown (mvT hZ w1) (mvT hZ w2) (mvT hZ w4) hy (backOf (W := W) (Q := Q) hM hZ w4 w3 sd.1 sd.2.1) (g := mkF m pc Ls (v1 :: (.ref a) :: st)) rfl (by rw [hml]; exact hsz) (Steps.refl _) (a := a) (argsL := [v1]) (rest := st) (lenOf hp hlen) rfl (by show 2 * 0 + _ ≤ _; rw [Nat.mul_zero, Nat.zero_add]; exact Nat.le_of_eq hW) (hb hq.2 hd) (fun _ _ => ⟨rfl, eT, sd.2.2.1, sd.2.2.2⟩)
 dsimp only [Pt.U, Pt.locs, Pt.cells, Pt.slots] at X' e1 e2 e3 hst hQ
 subst e1 e2 e3
 obtain rfl := hv _ _ _ hQ
 exact own_tr hst (k _ _ X' hQ)
end Sm
theorem k0_16 {a0 : Array Value} {Z : State} (hw : HW a0 Z) : own_KI a0 Z "com/example/nimble_anonymizer/nimbleanonymizer/NumericColumnIsNumberPinLaw" "" 16 y5_ y5_ jdk_42_method_3_code 2 none 1 := ⟨⟨(w_ hw 9 rfl), ⟨_, _, pd_17, rfl⟩, by decide⟩, rfl, (w_ hw 10 rfl), (w_ hw 8 rfl), (w_ hw 11 rfl)⟩
theorem pd_19 : parseMethodDescriptor "([CII)Z" = some ⟨[(.array .char), .int, .int], some .boolean⟩ := by decide +kernel
theorem k0_29 {a0 : Array Value} {Z : State} (hw : HW a0 Z) : own_KS a0 Z "com/example/nimble_anonymizer/nimbleanonymizer/NumericColumnIsNumberPinLaw" "" 29 y11_ y11_ method_5_code 4 (some .boolean) 3 := ⟨⟨(w_ hw 107 rfl), ⟨_, _, pd_19, rfl⟩, by decide⟩, (w_ hw 108 rfl), (w_ hw 4 rfl), (w_ hw 109 rfl)⟩
theorem ef_rm0 (m : MethodId) (p1 p2 p3 p4 p5 p6 : Int32) : entryFrame m #[(.int p1), (.int p2), (.int p3), (.int p4), (.int p5), (.int p6)] maxLocals = mkF m 0 #[iv p1, iv p2, iv p3, iv p4, iv p5, iv p6, .unset, .unset, .unset, .unset, .unset, .unset, .unset] [] := by first | (simp [entryFrame, mkF, argsToLocals, Value.category, maxLocals]; done) | rfl
def Q_rm0 (Z : State) (a0 : Array Value) (p1 p2 p3 p4 p5 p6 w : Int32) (sfv : Value) (h0 : Heap) (n0 : Nat) (v : Option Value) (h : Heap) (L : List Loc) : Prop := v = some (.int (1 : Int32)) ∧ Fr n0 L ∧ Keep h0 h []
theorem rm0 (l : Launch) (Z : State) (a0 : Array Value) (hw : HW a0 Z) (ws : List Jvm.Cond) (p1 p2 p3 p4 p5 p6 w : Int32) (sfv : Value) (h0 : Heap) (n0 : Nat) (Z0 : n0 ≤ h0.size) (S1 : Sta Z h0 "java/lang/String" "COMPACT_STRINGS" "Z" (.int w)) (hw0 : ¬ w = (0 : Int32)) (S2 : Sta Z h0 "jdk/internal/util/Preconditions" "SIOOBE_FORMATTER" "Ljava/util/function/BiFunction;" sfv) (hsf : sfv.isRef = true) :
  MetFree l x (head1 (Jvm.Cond.code x code maxLocals ret :: ws) room_1) (fun a U => a = #[(.int p1), (.int p2), (.int p3), (.int p4), (.int p5), (.int p6)] ∧ Z.Warmed39 U.vm ∧ U.heap = h0 ∧ CHv Z consts_1 U.vm h0) (fun _ _ _ _ _ => True) (fun _ U o U' => ∃ v L, o = .returned v ∧ Q_rm0 Z a0 p1 p2 p3 p4 p5 p6 w sfv h0 n0 v U'.heap L ∧ ReturnedEndW U o U' L room_1.cells room_1.slots) := by
 refine MetFree.of_bodySF (plainFor_of_name pn_1) hisR ?_
 intro p e s m args below meth c s₁ Bd hml0 hP hK
 obtain ⟨rfl, hZ, hh, hC0⟩ := hP
 have hx := Bd.exec
 have hby := Bd.bytes
 have hml : c.maxLocals = 13 := hml0
 have hown : s.vm.findClass "com/example/nimble_anonymizer/nimbleanonymizer/NumericColumnIsNumberPinLaw" = some m.cls := findClass_of_methodNamed Bd.named
 have hnm := (name_of_methodNamed Bd.named Bd.method).1
 have hlk : meth.locks = false := BodyLoose.notSynchronized (by assumption)
 have X0 : Stand p l e room_1 (s.setVm s.vm) m #[(.int p1), (.int p2), (.int p3), (.int p4), (.int p5), (.int p6)] below meth c s₁ [] 0 0 := Stand.of_body Bd
 have e0 : s₁.heap = h0 := by rw [← hh, Bd.state]; rfl
 have N0 := Fr.nil n0
 have hq := And.intro hx hby
 have hrt := Bd.returns
 show own_Go p.tables e below (own_PW s (Q_rm0 Z a0 p1 p2 p3 p4 p5 p6 w sfv h0 n0) room_1) (s₁.setTop (entryFrame m #[(.int p1), (.int p2), (.int p3), (.int p4), (.int p5), (.int p6)] maxLocals))
 refine own_st (fun t k => castTop (ef_rm0 m p1 p2 p3 p4 p5 p6) k) ?_
 have hEL : EW Z a0 consts_1 := own_EW hw
 have hS0 : s.Since s.vm h0.size := (State.WarmedH.refl s).since _
 show own_Go _ _ _ _ (s₁.setTop (mkF m 0 #[iv p1, iv p2, iv p3, iv p4, iv p5, iv p6, .unset, .unset, .unset, .unset, .unset, .unset, .unset] []))
 refine o_iload X0 hq at_0 rfl (o_ldc X0 hq hown at_2 (v_ hZ hw 0 rfl) (o_iand X0 hq at_4 (o_bipush X0 hq 6 at_5 rfl (o_irem X0 hq at_7 (by decide) (o_istore X0 hq at_8 (l' := #[iv p1, iv p2, iv p3, iv p4, iv p5, iv p6, iv ((p6 &&& (2147483647 : Int32)) - (p6 &&& (2147483647 : Int32)) / (6 : Int32) * (6 : Int32)), .unset, .unset, .unset, .unset, .unset, .unset]) rfl ?_)))))
 rcases own_six p6 with hL | hL | hL | hL | hL | hL
 ·rw [hL]
  show own_Go _ _ _ _ (s₁.setTop (mkF m 10 #[iv p1, iv p2, iv p3, iv p4, iv p5, iv p6, iv 0, .unset, .unset, .unset, .unset, .unset, .unset] []))
  refine o_iload X0 hq at_10 rfl ?_
  obtain ⟨T_1, h_1, k_1, X_1, e_1, E_1, A_1, st_1⟩ := newP X0 hx hZ (w_ hw 1 rfl) e0 (g := (mkF m 12 #[iv p1, iv p2, iv p3, iv p4, iv p5, iv p6, iv 0, .unset, .unset, .unset, .unset, .unset, .unset] [(.int 0)])) rfl (hb hby at_12) rfl (by decide) (cap := 0) (by decide) (by decide) (by decide) (by decide)
  obtain ⟨b_1, g_1⟩ : ∃ z, z = h0.size := ⟨_, rfl⟩
  rw [← g_1] at A_1 st_1
  have V_1 : Arv Z h_1 b_1 k_1 .char (0 : Int32) [] (.int (0 : Int32)) := (Arv.new A_1 (by decide)).pad (pad_rep [] (.int (0 : Int32)) 0)
  have gg_1 : n0 ≤ b_1 := Nat.le_trans Z0 (Nat.le_of_eq g_1.symm)
  have sz_1 : h0.size ≤ b_1 := Nat.le_trans (Keep.refl h0 []).1 (Nat.le_of_eq g_1.symm)
  refine own_st st_1 ?_
  show own_Go _ _ _ _ (T_1.setTop (mkF m 14 #[iv p1, iv p2, iv p3, iv p4, iv p5, iv p6, iv 0, .unset, .unset, .unset, .unset, .unset, .unset] [(.ref b_1)]))
  refine o_astore X_1 hq at_14 rfl (l' := #[iv p1, iv p2, iv p3, iv p4, iv p5, iv p6, iv 0, rv b_1, .unset, .unset, .unset, .unset, .unset]) rfl (o_iload X_1 hq at_16 rfl (o_ifYes X_1 hq (pc' := 29) at_18 (by decide) (o_iload X_1 hq at_29 rfl (o_iconst X_1 hq 1 at_31 rfl (o_icmpYes X_1 hq (pc' := 43) at_32 (by decide) (o_iload X_1 hq at_43 rfl (o_iconst X_1 hq 2 at_45 rfl (o_icmpYes X_1 hq (pc' := 57) at_46 (by decide) (o_iload X_1 hq at_57 rfl (o_iconst X_1 hq 3 at_59 rfl (o_icmpYes X_1 hq (pc' := 71) at_60 (by decide) (o_iload X_1 hq at_71 rfl (o_iconst X_1 hq 4 at_73 rfl (o_icmpYes X_1 hq (pc' := 86) at_74 (by decide) ?_))))))))))))))
  have Zs_2 : n0 ≤ h_1.size := (Nat.le_trans Z0 E_1.1)
  have Kp_3 : Keep h0 h_1 [] := ((Keep.refl h0 []).ext E_1)
  obtain ⟨T_4, h_4, X_4, e_4, E_4, A_4, D_4, -, st_4⟩ := newO X_1 hx hZ hown (w_ hw 6 rfl) (w_ hw 7 rfl) (w_ hw 8 rfl) e_1 (g := (mkF m 86 #[iv p1, iv p2, iv p3, iv p4, iv p5, iv p6, iv 0, rv b_1, .unset, .unset, .unset, .unset, .unset] [])) rfl (hb hby at_86) (by decide) (by decide)
  obtain ⟨b_4, g_4⟩ : ∃ z, z = h_1.size := ⟨_, rfl⟩
  rw [← g_4] at A_4 D_4 st_4
  have gg_4 : n0 ≤ b_4 := Nat.le_trans Zs_2 (Nat.le_of_eq g_4.symm)
  have sz_4 : h0.size ≤ b_4 := Nat.le_trans Kp_3.1 (Nat.le_of_eq g_4.symm)
  have Fi_4_coder : Fld Z h_4 b_4 "java/lang/String" "coder" "B" (.int (0 : Int32)) := D_4 (Or.inr (w_ hw 32 rfl)) (ty := .byte) (by decide)
  have Fi_4_value : Fld Z h_4 b_4 "java/lang/String" "value" "[B" .null := D_4 (Or.inr (w_ hw 34 rfl)) (ty := (.array .byte)) (by decide)
  refine own_st st_4 ?_
  show own_Go _ _ _ _ (T_4.setTop (mkF m 89 #[iv p1, iv p2, iv p3, iv p4, iv p5, iv p6, iv 0, rv b_1, .unset, .unset, .unset, .unset, .unset] [(.ref b_4)]))
  refine o_dup X_4 hq at_89 rfl (o_aload X_4 hq at_90 rfl rfl ?_)
  have Fa_6 := (V_1.ext E_4)
  have Zs_7 : n0 ≤ h_4.size := (Nat.le_trans Zs_2 E_4.1)
  have Ks_8 := (Nat.le_trans (Nat.le_trans (Nat.le_refl h0.size) E_1.1) E_4.1)
  have Kp_9 : Keep h0 h_4 [] := (Kp_3.ext E_4)
  obtain ⟨_, _, ⟨T_5, L_5, k_5, n_5⟩, -, X_5, hSq_5, hgq_5, ⟨Lc_5, hQ_5, l_5, y_5, z_5, hCq_5⟩, st_5⟩ := X_4.specialBackS hx (y := y5_) rfl hown (v_ hZ hw 9 rfl) (v_ hZ hw 10 rfl) (v_ hZ hw 11 rfl) (by decide) (backOfSH (W := 1) (rmiA0 l Z a0 hw [] b_4 b_1 k_1 (.int (0 : Int32)) h_4 n0 Zs_7 A_4 gg_4 Fi_4_value Fi_4_coder Fa_6) hZ (w_ hw 11 rfl) (w_ hw 8 rfl) (by decide) (by decide) hEL (hC0.keep Kp_9 sf0)) (g := (mkF m 92 #[iv p1, iv p2, iv p3, iv p4, iv p5, iv p6, iv 0, rv b_1, .unset, .unset, .unset, .unset, .unset] [(.ref b_1), (.ref b_4), (.ref b_4)])) rfl (by rw [hml]; rfl) (Steps.refl _) (a := b_4) (argsL := [(.ref b_1)]) (rest := [(.ref b_4)]) (lenOf pd_17 rfl) rfl (z_ rfl) (hb hby at_92) (fun _ _ => ⟨rfl, e_4, (by decide : 2 + 4 ≤ _), (by decide : 4 + 8 ≤ _)⟩)
  dsimp only [Pt.U, Pt.locs, Pt.cells, Pt.slots] at X_5 l_5 y_5 z_5 st_5 hQ_5 hSq_5 hgq_5 hCq_5
  subst l_5 y_5 z_5
  obtain ⟨Xr_5, hSr_5, hZr_5, hownr_5⟩ := rebS hS0 (Nat.le_trans Ks_8 (Nat.le_of_eq (congrArg Array.size (e_4).symm))) X_5 hSq_5 hgq_5 hZ hown
  obtain ⟨b__5, kb__5, rfl, Nq_5, K_5, Fq_5_0, Fq_5_1, Fq_5_2, Fq_5_3⟩ := hQ_5
  have N_5 := Fr.app N0 Nq_5
  refine own_tr st_5 ?_
  show own_Go _ _ _ _ (T_5.setTop (mkF m 95 #[iv p1, iv p2, iv p3, iv p4, iv p5, iv p6, iv 0, rv b_1, .unset, .unset, .unset, .unset, .unset] [(.ref b_4)]))
  refine o_astore Xr_5 hq at_95 rfl (l' := #[iv p1, iv p2, iv p3, iv p4, iv p5, iv p6, iv 0, rv b_1, rv b_4, .unset, .unset, .unset, .unset]) rfl (o_aload Xr_5 hq at_97 rfl rfl ?_)
  have Fa_11 := (A_4.keep K_5)
  have Fa_12 := (own_Sta_keep ((S1.ext E_1).ext E_4) K_5 (nsS (A_4.nostat) ns0))
  have Fa_13 := (own_Sta_keep ((S2.ext E_1).ext E_4) K_5 (nsS (A_4.nostat) ns0))
  have Zs_14 : n0 ≤ T_5.heap.size := (Nat.le_trans Zs_7 K_5.1)
  refine c_S1 Xr_5 hq rfl hZr_5 hownr_5 hml (k0_19 hw) (rmisn0 hw b_4 b__5 kb__5 [] (.int (0 : Int32)) w sfv (own_f5 (own_draw p1) (own_draw p2) (own_draw p3) (own_draw p4) (own_draw p5)) T_5.heap n0 Zs_14 Fa_11 Fq_5_0 Fq_5_1 Fq_5_2 Fa_12 hw0 (own_fat0 _ _ _ _ _) (own_fbd (own_drb p1) (own_drb p2) (own_drb p3) (own_drb p4) (own_drb p5)) Fa_13 hsf) at_99 ?_ 0
  rintro T_10 L_10 _ X_10 ⟨⟨⟩, Nq_10, e_10⟩
  have N_10 := Fr.app N_5 Nq_10
  refine o_istore X_10 hq at_102 (l' := #[iv p1, iv p2, iv p3, iv p4, iv p5, iv p6, iv 0, rv b_1, rv b_4, iv (own_isn_0 (own_f5 (own_draw p1) (own_draw p2) (own_draw p3) (own_draw p4) (own_draw p5))), .unset, .unset, .unset]) rfl (o_iload X_10 hq at_104 rfl (o_ifYes X_10 hq (pc' := 131) at_106 (by decide) (o_iconst X_10 hq 0 at_131 rfl (o_istore X_10 hq at_132 (l' := #[iv p1, iv p2, iv p3, iv p4, iv p5, iv p6, iv 0, rv b_1, rv b_4, iv (own_isn_0 (own_f5 (own_draw p1) (own_draw p2) (own_draw p3) (own_draw p4) (own_draw p5))), iv 0, .unset, .unset]) rfl (o_aload X_10 hq at_134 rfl rfl (o_iload X_10 hq at_136 rfl (o_iconst X_10 hq 0 at_138 rfl ?_)))))))
  have Fa_16 := (Fa_6.keep K_5 (ninS (Nat.ne_of_lt (Nat.lt_of_lt_of_le V_1.lt (Nat.le_of_eq g_4.symm))) nin0))
  refine c_S3 X_10 hq e_10 hZr_5 hownr_5 hml (k0_25 hw) (rmpointo hw b_1 (0 : Int32) (0 : Int32) k_1 (0 : Int32) [] (.int (0 : Int32)) T_5.heap n0 Zs_14 Fa_16 (by decide)) at_139 ?_ 0
  rintro T_15 L_15 _ X_15 ⟨⟨⟩, Nq_15, e_15⟩
  have N_15 := Fr.app N_10 Nq_15
  refine o_aload X_15 hq at_142 rfl rfl (o_iload X_15 hq at_144 rfl (o_iconst X_15 hq 1 at_146 rfl ?_))
  refine c_S3 X_15 hq e_15 hZr_5 hownr_5 hml (k0_25 hw) (rmpointo hw b_1 (0 : Int32) (1 : Int32) k_1 (0 : Int32) [] (.int (0 : Int32)) T_5.heap n0 Zs_14 Fa_16 (by decide)) at_147 ?_ 1
  rintro T_17 L_17 _ X_17 ⟨⟨⟩, Nq_17, e_17⟩
  have N_17 := Fr.app N_15 Nq_17
  refine o_iadd X_17 hq at_150 ?_
  show own_Go _ _ _ _ (T_17.setTop (mkF m 151 #[iv p1, iv p2, iv p3, iv p4, iv p5, iv p6, iv 0, rv b_1, rv b_4, iv (own_isn_0 (own_f5 (own_draw p1) (own_draw p2) (own_draw p3) (own_draw p4) (own_draw p5))), iv 0, .unset, .unset] [(.int 0)]))
  refine o_aload X_17 hq at_151 rfl rfl (o_iload X_17 hq at_153 rfl (o_iconst X_17 hq 2 at_155 rfl ?_))
  refine c_S3 X_17 hq e_17 hZr_5 hownr_5 hml (k0_25 hw) (rmpointo hw b_1 (0 : Int32) (2 : Int32) k_1 (0 : Int32) [] (.int (0 : Int32)) T_5.heap n0 Zs_14 Fa_16 (by decide)) at_156 ?_ 1
  rintro T_18 L_18 _ X_18 ⟨⟨⟩, Nq_18, e_18⟩
  have N_18 := Fr.app N_17 Nq_18
  refine o_iadd X_18 hq at_159 ?_
  show own_Go _ _ _ _ (T_18.setTop (mkF m 160 #[iv p1, iv p2, iv p3, iv p4, iv p5, iv p6, iv 0, rv b_1, rv b_4, iv (own_isn_0 (own_f5 (own_draw p1) (own_draw p2) (own_draw p3) (own_draw p4) (own_draw p5))), iv 0, .unset, .unset] [(.int 0)]))
  refine o_aload X_18 hq at_160 rfl rfl (o_iload X_18 hq at_162 rfl (o_iconst X_18 hq 3 at_164 rfl ?_))
  refine c_S3 X_18 hq e_18 hZr_5 hownr_5 hml (k0_25 hw) (rmpointo hw b_1 (0 : Int32) (3 : Int32) k_1 (0 : Int32) [] (.int (0 : Int32)) T_5.heap n0 Zs_14 Fa_16 (by decide)) at_165 ?_ 1
  rintro T_19 L_19 _ X_19 ⟨⟨⟩, Nq_19, e_19⟩
  have N_19 := Fr.app N_18 Nq_19
  refine o_iadd X_19 hq at_168 ?_
  show own_Go _ _ _ _ (T_19.setTop (mkF m 169 #[iv p1, iv p2, iv p3, iv p4, iv p5, iv p6, iv 0, rv b_1, rv b_4, iv (own_isn_0 (own_f5 (own_draw p1) (own_draw p2) (own_draw p3) (own_draw p4) (own_draw p5))), iv 0, .unset, .unset] [(.int 0)]))
  refine o_aload X_19 hq at_169 rfl rfl (o_iload X_19 hq at_171 rfl (o_iconst X_19 hq 4 at_173 rfl ?_))
  refine c_S3 X_19 hq e_19 hZr_5 hownr_5 hml (k0_25 hw) (rmpointo hw b_1 (0 : Int32) (4 : Int32) k_1 (0 : Int32) [] (.int (0 : Int32)) T_5.heap n0 Zs_14 Fa_16 (by decide)) at_174 ?_ 1
  rintro T_20 L_20 _ X_20 ⟨⟨⟩, Nq_20, e_20⟩
  have N_20 := Fr.app N_19 Nq_20
  refine o_iadd X_20 hq at_177 ?_
  show own_Go _ _ _ _ (T_20.setTop (mkF m 178 #[iv p1, iv p2, iv p3, iv p4, iv p5, iv p6, iv 0, rv b_1, rv b_4, iv (own_isn_0 (own_f5 (own_draw p1) (own_draw p2) (own_draw p3) (own_draw p4) (own_draw p5))), iv 0, .unset, .unset] [(.int 0)]))
  refine o_istore X_20 hq at_178 (l' := #[iv p1, iv p2, iv p3, iv p4, iv p5, iv p6, iv 0, rv b_1, rv b_4, iv (own_isn_0 (own_f5 (own_draw p1) (own_draw p2) (own_draw p3) (own_draw p4) (own_draw p5))), iv 0, iv 0, .unset]) rfl (o_iload X_20 hq at_180 rfl (o_iload X_20 hq at_182 rfl (o_icmpYes X_20 hq (pc' := 252) at_184 (by decide) (o_iconst X_20 hq 0 at_252 rfl (o_istore X_20 hq at_253 (l' := #[iv p1, iv p2, iv p3, iv p4, iv p5, iv p6, iv 0, rv b_1, rv b_4, iv (own_isn_0 (own_f5 (own_draw p1) (own_draw p2) (own_draw p3) (own_draw p4) (own_draw p5))), iv 0, iv 0, iv 0]) rfl (o_iload X_20 hq at_255 rfl (o_iload X_20 hq at_257 rfl (o_icmpNo X_20 hq at_259 (teq (own_law_0 (own_draw p1) (own_draw p2) (own_draw p3) (own_draw p4) (own_draw p5) (own_drb p1) (own_drb p2) (own_drb p3) (own_drb p4) (own_drb p5))).2 (o_iconst X_20 hq 1 at_262 rfl (o_goto X_20 hq (pc' := 267) at_263 ?_))))))))))
  have Kp_21 : Keep h0 T_5.heap [] := (Kp_9.trans K_5 (allS (Or.inr sz_4) all0))
  have Ks_22 := (Nat.le_refl T_5.heap.size)
  exact e_ZW X_20 hSr_5 e_20 Ks_22 hq hlk hrt at_267 ⟨rfl, N_20, Kp_21⟩
 ·rw [hL]
  show own_Go _ _ _ _ (s₁.setTop (mkF m 10 #[iv p1, iv p2, iv p3, iv p4, iv p5, iv p6, iv 1, .unset, .unset, .unset, .unset, .unset, .unset] []))
  refine o_iload X0 hq at_10 rfl ?_
  obtain ⟨T_23, h_23, k_23, X_23, e_23, E_23, A_23, st_23⟩ := newP X0 hx hZ (w_ hw 1 rfl) e0 (g := (mkF m 12 #[iv p1, iv p2, iv p3, iv p4, iv p5, iv p6, iv 1, .unset, .unset, .unset, .unset, .unset, .unset] [(.int 1)])) rfl (hb hby at_12) rfl (by decide) (cap := 1) (by decide) (by decide) (by decide) (by decide)
  obtain ⟨b_23, g_23⟩ : ∃ z, z = h0.size := ⟨_, rfl⟩
  rw [← g_23] at A_23 st_23
  have V_23 : Arv Z h_23 b_23 k_23 .char (1 : Int32) [(.int (0 : Int32))] (.int (0 : Int32)) := (Arv.new A_23 (by decide)).pad (pad_rep [] (.int (0 : Int32)) 1)
  have gg_23 : n0 ≤ b_23 := Nat.le_trans Z0 (Nat.le_of_eq g_23.symm)
  have sz_23 : h0.size ≤ b_23 := Nat.le_trans (Keep.refl h0 []).1 (Nat.le_of_eq g_23.symm)
  refine own_st st_23 ?_
  show own_Go _ _ _ _ (T_23.setTop (mkF m 14 #[iv p1, iv p2, iv p3, iv p4, iv p5, iv p6, iv 1, .unset, .unset, .unset, .unset, .unset, .unset] [(.ref b_23)]))
  refine o_astore X_23 hq at_14 rfl (l' := #[iv p1, iv p2, iv p3, iv p4, iv p5, iv p6, iv 1, rv b_23, .unset, .unset, .unset, .unset, .unset]) rfl (o_iload X_23 hq at_16 rfl (o_ifNo X_23 hq at_18 (by decide) (o_aload X_23 hq at_21 rfl rfl (o_iconst X_23 hq 0 at_23 rfl (o_iloadN X_23 hq at_24 rfl ?_)))))
  have Zs_25 : n0 ≤ h_23.size := (Nat.le_trans Z0 E_23.1)
  refine c_S1 X_23 hq e_23 hZ hown hml (k0_8 hw) (rm1 hw p1  h_23 n0 Zs_25) at_25 ?_ 2
  rintro T_24 L_24 _ X_24 ⟨⟨⟩, Nq_24, e_24⟩
  have N_24 := Fr.app N0 Nq_24
  obtain ⟨cl_26, Ar_26, qk_26, Sz_26, Ng_26, Hs_26, Gs_26⟩ := id V_23
  obtain ⟨T_27, h_27, X_27, e_27, W_27, st_27⟩ := stC X_24 hx hZ e_24 Ar_26 (j := (0 : Int32)) (inb_of Sz_26 ⟨by decide, by decide⟩) (g := (mkF m 28 #[iv p1, iv p2, iv p3, iv p4, iv p5, iv p6, iv 1, rv b_23, .unset, .unset, .unset, .unset, .unset] [(.int (own_draw p1)), (.int 0), (.ref b_23)])) rfl rfl (hb hby at_28)
  refine own_st st_27 ?_
  have V_27 : Arv Z h_27 b_23 k_23 .char (1 : Int32) [(.int (own_draw p1))] (.int (0 : Int32)) := by have q := Arv.set Ar_26 qk_26 Sz_26 Ng_26 Hs_26 Gs_26 (fits_nar_char _) W_27 0 rfl (Nat.le_of_ble_eq_true rfl); rw [own_drn] at q; exact q
  have N_27 := Fr.snoc X_27 N_24 gg_23
  show own_Go _ _ _ _ (T_27.setTop (mkF m 29 #[iv p1, iv p2, iv p3, iv p4, iv p5, iv p6, iv 1, rv b_23, .unset, .unset, .unset, .unset, .unset] []))
  refine o_iload X_27 hq at_29 rfl (o_iconst X_27 hq 1 at_31 rfl (o_icmpYes X_27 hq (pc' := 43) at_32 (by decide) (o_iload X_27 hq at_43 rfl (o_iconst X_27 hq 2 at_45 rfl (o_icmpYes X_27 hq (pc' := 57) at_46 (by decide) (o_iload X_27 hq at_57 rfl (o_iconst X_27 hq 3 at_59 rfl (o_icmpYes X_27 hq (pc' := 71) at_60 (by decide) (o_iload X_27 hq at_71 rfl (o_iconst X_27 hq 4 at_73 rfl (o_icmpYes X_27 hq (pc' := 86) at_74 (by decide) ?_)))))))))))
  have Zs_28 : n0 ≤ h_27.size := (Nat.le_trans Zs_25 (Keep.of_wr W_27).1)
  have Kp_29 : Keep h0 h_27 [] := (((Keep.refl h0 []).ext E_23).wr W_27 (Or.inr sz_23))
  obtain ⟨T_30, h_30, X_30, e_30, E_30, A_30, D_30, -, st_30⟩ := newO X_27 hx hZ hown (w_ hw 6 rfl) (w_ hw 7 rfl) (w_ hw 8 rfl) e_27 (g := (mkF m 86 #[iv p1, iv p2, iv p3, iv p4, iv p5, iv p6, iv 1, rv b_23, .unset, .unset, .unset, .unset, .unset] [])) rfl (hb hby at_86) (by decide) (by decide)
  obtain ⟨b_30, g_30⟩ : ∃ z, z = h_27.size := ⟨_, rfl⟩
  rw [← g_30] at A_30 D_30 st_30
  have gg_30 : n0 ≤ b_30 := Nat.le_trans Zs_28 (Nat.le_of_eq g_30.symm)
  have sz_30 : h0.size ≤ b_30 := Nat.le_trans Kp_29.1 (Nat.le_of_eq g_30.symm)
  have Fi_30_coder : Fld Z h_30 b_30 "java/lang/String" "coder" "B" (.int (0 : Int32)) := D_30 (Or.inr (w_ hw 32 rfl)) (ty := .byte) (by decide)
  have Fi_30_value : Fld Z h_30 b_30 "java/lang/String" "value" "[B" .null := D_30 (Or.inr (w_ hw 34 rfl)) (ty := (.array .byte)) (by decide)
  refine own_st st_30 ?_
  show own_Go _ _ _ _ (T_30.setTop (mkF m 89 #[iv p1, iv p2, iv p3, iv p4, iv p5, iv p6, iv 1, rv b_23, .unset, .unset, .unset, .unset, .unset] [(.ref b_30)]))
  refine o_dup X_30 hq at_89 rfl (o_aload X_30 hq at_90 rfl rfl ?_)
  have Fa_32 := (V_27.ext E_30)
  have Fa_33 := (((S1.ext E_23).wr W_27).ext E_30)
  have Zs_34 : n0 ≤ h_30.size := (Nat.le_trans Zs_28 E_30.1)
  refine c_I1v X_30 hq e_30 hZ hown hml (k0_16 hw) (rmiA1 hw b_30 b_23 k_23 (.int (0 : Int32)) w (own_draw p1) h_30 n0 Zs_34 A_30 gg_30 Fi_30_value Fi_30_coder Fa_32 (own_drb _).1 Fa_33 hw0) at_92 ?_ 1
  rintro T_31 L_31 X_31 ⟨b__31, kb__31, -, Nq_31, K_31, gq_31_b, sq_31_b, Fq_31_0, Fq_31_1, Fq_31_2⟩
  have N_31 := Fr.app N_27 Nq_31
  have Kp_35 : Keep h0 h_30 [] := (Kp_29.ext E_30)
  have szq_31_b : h0.size ≤ b__31 := Nat.le_trans Kp_35.1 sq_31_b
  refine o_astore X_31 hq at_95 rfl (l' := #[iv p1, iv p2, iv p3, iv p4, iv p5, iv p6, iv 1, rv b_23, rv b_30, .unset, .unset, .unset, .unset]) rfl (o_aload X_31 hq at_97 rfl rfl ?_)
  have Fa_37 := (A_30.keep K_31)
  have Fa_38 := (own_Sta_keep Fa_33 K_31 (nsS (A_30.nostat) ns0))
  have Fa_39 := (own_Sta_keep (((S2.ext E_23).wr W_27).ext E_30) K_31 (nsS (A_30.nostat) ns0))
  have Zs_40 : n0 ≤ T_31.heap.size := (Nat.le_trans Zs_34 K_31.1)
  refine c_S1 X_31 hq rfl hZ hown hml (k0_19 hw) (rmisn1 hw b_30 b__31 kb__31 [(.int (((own_draw p1).toInt8.toInt32).toInt8.toInt32))] (.int (0 : Int32)) w sfv (own_f5 (own_draw p1) (own_draw p2) (own_draw p3) (own_draw p4) (own_draw p5)) T_31.heap n0 Zs_40 Fa_37 Fq_31_0 Fq_31_1 Fq_31_2 Fa_38 hw0 (own_fat1 _ _ _ _ _) (own_fbd (own_drb p1) (own_drb p2) (own_drb p3) (own_drb p4) (own_drb p5)) Fa_39 hsf) at_99 ?_ 0
  rintro T_36 L_36 _ X_36 ⟨⟨⟩, Nq_36, e_36⟩
  have N_36 := Fr.app N_31 Nq_36
  refine o_istore X_36 hq at_102 (l' := #[iv p1, iv p2, iv p3, iv p4, iv p5, iv p6, iv 1, rv b_23, rv b_30, iv (own_isn_1 (own_f5 (own_draw p1) (own_draw p2) (own_draw p3) (own_draw p4) (own_draw p5))), .unset, .unset, .unset]) rfl (o_iload X_36 hq at_104 rfl (o_ifNo X_36 hq at_106 (by decide) (o_aload X_36 hq at_109 rfl rfl (o_iconst X_36 hq 0 at_111 rfl ?_))))
  have Fa_41 := (Fa_32.keep K_31 (ninS (Nat.ne_of_lt (Nat.lt_of_lt_of_le V_27.lt (Nat.le_of_eq g_30.symm))) nin0))
  obtain ⟨cl_42, Ar_42, qk_42, Sz_42, Ng_42, Hs_42, Gs_42⟩ := id Fa_41
  refine own_st (X_36.caload hx (j := (0 : Int32)) (v := (.int (own_draw p1))) (by rw [e_36]; exact Ar_42.1) (State.isArrayOf_alike hZ.alike Ar_42.2.1) Ar_42.2.2 (inb_of Sz_42 ⟨by decide, by decide⟩) (Hs_42.at (j := (0 : Int32)) (inb_of Sz_42 ⟨by decide, by decide⟩) rfl) (g := (mkF m 112 #[iv p1, iv p2, iv p3, iv p4, iv p5, iv p6, iv 1, rv b_23, rv b_30, iv (own_isn_1 (own_f5 (own_draw p1) (own_draw p2) (own_draw p3) (own_draw p4) (own_draw p5))), .unset, .unset, .unset] [(.int 0), (.ref b_23)])) rfl rfl (hb hby at_112)) ?_
  show own_Go _ _ _ _ (T_36.setTop (mkF m 113 #[iv p1, iv p2, iv p3, iv p4, iv p5, iv p6, iv 1, rv b_23, rv b_30, iv (own_isn_1 (own_f5 (own_draw p1) (own_draw p2) (own_draw p3) (own_draw p4) (own_draw p5))), .unset, .unset, .unset] [(.int (own_draw p1))]))
  refine o_bipush X_36 hq 43 at_113 rfl ?_
  by_cases hc115__43 : (own_draw p1) = (43 : Int32)
  ·refine o_icmpYes X_36 hq (pc' := 127) at_115 (teq hc115__43).1 (o_iconst X_36 hq 1 at_127 rfl (o_goto X_36 hq (pc' := 132) at_128 (o_istore X_36 hq at_132 (l' := #[iv p1, iv p2, iv p3, iv p4, iv p5, iv p6, iv 1, rv b_23, rv b_30, iv (own_isn_1 (own_f5 (own_draw p1) (own_draw p2) (own_draw p3) (own_draw p4) (own_draw p5))), iv 1, .unset, .unset]) rfl (o_aload X_36 hq at_134 rfl rfl (o_iload X_36 hq at_136 rfl (o_iconst X_36 hq 0 at_138 rfl ?_))))))
   refine c_S3 X_36 hq e_36 hZ hown hml (k0_25 hw) (rmpointb hw b_23 (1 : Int32) (0 : Int32) k_23 (1 : Int32) [(.int (own_draw p1))] (.int (0 : Int32)) T_31.heap n0 Zs_40 Fa_41 (by decide) (by decide)) at_139 ?_ 0
   rintro T_44 L_44 _ X_44 ⟨⟨⟩, Nq_44, e_44⟩
   have N_44 := Fr.app N_36 Nq_44
   refine o_aload X_44 hq at_142 rfl rfl (o_iload X_44 hq at_144 rfl (o_iconst X_44 hq 1 at_146 rfl ?_))
   refine c_S3 X_44 hq e_44 hZ hown hml (k0_25 hw) (rmpointo hw b_23 (1 : Int32) (1 : Int32) k_23 (1 : Int32) [(.int (own_draw p1))] (.int (0 : Int32)) T_31.heap n0 Zs_40 Fa_41 (by decide)) at_147 ?_ 1
   rintro T_45 L_45 _ X_45 ⟨⟨⟩, Nq_45, e_45⟩
   have N_45 := Fr.app N_44 Nq_45
   refine o_iadd X_45 hq at_150 ?_
   show own_Go _ _ _ _ (T_45.setTop (mkF m 151 #[iv p1, iv p2, iv p3, iv p4, iv p5, iv p6, iv 1, rv b_23, rv b_30, iv (own_isn_1 (own_f5 (own_draw p1) (own_draw p2) (own_draw p3) (own_draw p4) (own_draw p5))), iv 1, .unset, .unset] [(.int 0)]))
   refine o_aload X_45 hq at_151 rfl rfl (o_iload X_45 hq at_153 rfl (o_iconst X_45 hq 2 at_155 rfl ?_))
   refine c_S3 X_45 hq e_45 hZ hown hml (k0_25 hw) (rmpointo hw b_23 (1 : Int32) (2 : Int32) k_23 (1 : Int32) [(.int (own_draw p1))] (.int (0 : Int32)) T_31.heap n0 Zs_40 Fa_41 (by decide)) at_156 ?_ 1
   rintro T_46 L_46 _ X_46 ⟨⟨⟩, Nq_46, e_46⟩
   have N_46 := Fr.app N_45 Nq_46
   refine o_iadd X_46 hq at_159 ?_
   show own_Go _ _ _ _ (T_46.setTop (mkF m 160 #[iv p1, iv p2, iv p3, iv p4, iv p5, iv p6, iv 1, rv b_23, rv b_30, iv (own_isn_1 (own_f5 (own_draw p1) (own_draw p2) (own_draw p3) (own_draw p4) (own_draw p5))), iv 1, .unset, .unset] [(.int 0)]))
   refine o_aload X_46 hq at_160 rfl rfl (o_iload X_46 hq at_162 rfl (o_iconst X_46 hq 3 at_164 rfl ?_))
   refine c_S3 X_46 hq e_46 hZ hown hml (k0_25 hw) (rmpointo hw b_23 (1 : Int32) (3 : Int32) k_23 (1 : Int32) [(.int (own_draw p1))] (.int (0 : Int32)) T_31.heap n0 Zs_40 Fa_41 (by decide)) at_165 ?_ 1
   rintro T_47 L_47 _ X_47 ⟨⟨⟩, Nq_47, e_47⟩
   have N_47 := Fr.app N_46 Nq_47
   refine o_iadd X_47 hq at_168 ?_
   show own_Go _ _ _ _ (T_47.setTop (mkF m 169 #[iv p1, iv p2, iv p3, iv p4, iv p5, iv p6, iv 1, rv b_23, rv b_30, iv (own_isn_1 (own_f5 (own_draw p1) (own_draw p2) (own_draw p3) (own_draw p4) (own_draw p5))), iv 1, .unset, .unset] [(.int 0)]))
   refine o_aload X_47 hq at_169 rfl rfl (o_iload X_47 hq at_171 rfl (o_iconst X_47 hq 4 at_173 rfl ?_))
   refine c_S3 X_47 hq e_47 hZ hown hml (k0_25 hw) (rmpointo hw b_23 (1 : Int32) (4 : Int32) k_23 (1 : Int32) [(.int (own_draw p1))] (.int (0 : Int32)) T_31.heap n0 Zs_40 Fa_41 (by decide)) at_174 ?_ 1
   rintro T_48 L_48 _ X_48 ⟨⟨⟩, Nq_48, e_48⟩
   have N_48 := Fr.app N_47 Nq_48
   refine o_iadd X_48 hq at_177 ?_
   show own_Go _ _ _ _ (T_48.setTop (mkF m 178 #[iv p1, iv p2, iv p3, iv p4, iv p5, iv p6, iv 1, rv b_23, rv b_30, iv (own_isn_1 (own_f5 (own_draw p1) (own_draw p2) (own_draw p3) (own_draw p4) (own_draw p5))), iv 1, .unset, .unset] [(.int 0)]))
   refine o_istore X_48 hq at_178 (l' := #[iv p1, iv p2, iv p3, iv p4, iv p5, iv p6, iv 1, rv b_23, rv b_30, iv (own_isn_1 (own_f5 (own_draw p1) (own_draw p2) (own_draw p3) (own_draw p4) (own_draw p5))), iv 1, iv 0, .unset]) rfl (o_iload X_48 hq at_180 rfl (o_iload X_48 hq at_182 rfl (o_icmpYes X_48 hq (pc' := 252) at_184 (by decide) (o_iconst X_48 hq 0 at_252 rfl (o_istore X_48 hq at_253 (l' := #[iv p1, iv p2, iv p3, iv p4, iv p5, iv p6, iv 1, rv b_23, rv b_30, iv (own_isn_1 (own_f5 (own_draw p1) (own_draw p2) (own_draw p3) (own_draw p4) (own_draw p5))), iv 1, iv 0, iv 0]) rfl (o_iload X_48 hq at_255 rfl (o_iload X_48 hq at_257 rfl (o_icmpNo X_48 hq at_259 (teq ((own_law_1 (own_draw p1) (own_draw p2) (own_draw p3) (own_draw p4) (own_draw p5) (own_drb p1) (own_drb p2) (own_drb p3) (own_drb p4) (own_drb p5)).trans (if_pos hc115__43))).2 (o_iconst X_48 hq 1 at_262 rfl (o_goto X_48 hq (pc' := 267) at_263 ?_))))))))))
   have Kp_49 : Keep h0 T_31.heap [] := (Kp_35.trans K_31 (allS (Or.inr sz_30) all0))
   have Ks_50 := (Nat.le_trans (Nat.le_trans (Nat.le_trans (Nat.le_trans (Nat.le_refl h0.size) E_23.1) (Keep.of_wr W_27).1) E_30.1) K_31.1)
   exact e_ZW X_48 hS0 e_48 Ks_50 hq hlk hrt at_267 ⟨rfl, N_48, Kp_49⟩
  ·refine o_icmpNo X_36 hq at_115 (feq hc115__43).1 (o_aload X_36 hq at_118 rfl rfl (o_iconst X_36 hq 0 at_120 rfl ?_))
   obtain ⟨cl_51, Ar_51, qk_51, Sz_51, Ng_51, Hs_51, Gs_51⟩ := id Fa_41
   refine own_st (X_36.caload hx (j := (0 : Int32)) (v := (.int (own_draw p1))) (by rw [e_36]; exact Ar_51.1) (State.isArrayOf_alike hZ.alike Ar_51.2.1) Ar_51.2.2 (inb_of Sz_51 ⟨by decide, by decide⟩) (Hs_51.at (j := (0 : Int32)) (inb_of Sz_51 ⟨by decide, by decide⟩) rfl) (g := (mkF m 121 #[iv p1, iv p2, iv p3, iv p4, iv p5, iv p6, iv 1, rv b_23, rv b_30, iv (own_isn_1 (own_f5 (own_draw p1) (own_draw p2) (own_draw p3) (own_draw p4) (own_draw p5))), .unset, .unset, .unset] [(.int 0), (.ref b_23)])) rfl rfl (hb hby at_121)) ?_
   show own_Go _ _ _ _ (T_36.setTop (mkF m 122 #[iv p1, iv p2, iv p3, iv p4, iv p5, iv p6, iv 1, rv b_23, rv b_30, iv (own_isn_1 (own_f5 (own_draw p1) (own_draw p2) (own_draw p3) (own_draw p4) (own_draw p5))), .unset, .unset, .unset] [(.int (own_draw p1))]))
   refine o_bipush X_36 hq 45 at_122 rfl ?_
   by_cases hc124__52 : (own_draw p1) = (45 : Int32)
   ·refine o_icmpNo X_36 hq at_124 (teq hc124__52).2 (o_iconst X_36 hq 1 at_127 rfl (o_goto X_36 hq (pc' := 132) at_128 (o_istore X_36 hq at_132 (l' := #[iv p1, iv p2, iv p3, iv p4, iv p5, iv p6, iv 1, rv b_23, rv b_30, iv (own_isn_1 (own_f5 (own_draw p1) (own_draw p2) (own_draw p3) (own_draw p4) (own_draw p5))), iv 1, .unset, .unset]) rfl (o_aload X_36 hq at_134 rfl rfl (o_iload X_36 hq at_136 rfl (o_iconst X_36 hq 0 at_138 rfl ?_))))))
    refine c_S3 X_36 hq e_36 hZ hown hml (k0_25 hw) (rmpointb hw b_23 (1 : Int32) (0 : Int32) k_23 (1 : Int32) [(.int (own_draw p1))] (.int (0 : Int32)) T_31.heap n0 Zs_40 Fa_41 (by decide) (by decide)) at_139 ?_ 0
    rintro T_53 L_53 _ X_53 ⟨⟨⟩, Nq_53, e_53⟩
    have N_53 := Fr.app N_36 Nq_53
    refine o_aload X_53 hq at_142 rfl rfl (o_iload X_53 hq at_144 rfl (o_iconst X_53 hq 1 at_146 rfl ?_))
    refine c_S3 X_53 hq e_53 hZ hown hml (k0_25 hw) (rmpointo hw b_23 (1 : Int32) (1 : Int32) k_23 (1 : Int32) [(.int (own_draw p1))] (.int (0 : Int32)) T_31.heap n0 Zs_40 Fa_41 (by decide)) at_147 ?_ 1
    rintro T_54 L_54 _ X_54 ⟨⟨⟩, Nq_54, e_54⟩
    have N_54 := Fr.app N_53 Nq_54
    refine o_iadd X_54 hq at_150 ?_
    show own_Go _ _ _ _ (T_54.setTop (mkF m 151 #[iv p1, iv p2, iv p3, iv p4, iv p5, iv p6, iv 1, rv b_23, rv b_30, iv (own_isn_1 (own_f5 (own_draw p1) (own_draw p2) (own_draw p3) (own_draw p4) (own_draw p5))), iv 1, .unset, .unset] [(.int 0)]))
    refine o_aload X_54 hq at_151 rfl rfl (o_iload X_54 hq at_153 rfl (o_iconst X_54 hq 2 at_155 rfl ?_))
    refine c_S3 X_54 hq e_54 hZ hown hml (k0_25 hw) (rmpointo hw b_23 (1 : Int32) (2 : Int32) k_23 (1 : Int32) [(.int (own_draw p1))] (.int (0 : Int32)) T_31.heap n0 Zs_40 Fa_41 (by decide)) at_156 ?_ 1
    rintro T_55 L_55 _ X_55 ⟨⟨⟩, Nq_55, e_55⟩
    have N_55 := Fr.app N_54 Nq_55
    refine o_iadd X_55 hq at_159 ?_
    show own_Go _ _ _ _ (T_55.setTop (mkF m 160 #[iv p1, iv p2, iv p3, iv p4, iv p5, iv p6, iv 1, rv b_23, rv b_30, iv (own_isn_1 (own_f5 (own_draw p1) (own_draw p2) (own_draw p3) (own_draw p4) (own_draw p5))), iv 1, .unset, .unset] [(.int 0)]))
    refine o_aload X_55 hq at_160 rfl rfl (o_iload X_55 hq at_162 rfl (o_iconst X_55 hq 3 at_164 rfl ?_))
    refine c_S3 X_55 hq e_55 hZ hown hml (k0_25 hw) (rmpointo hw b_23 (1 : Int32) (3 : Int32) k_23 (1 : Int32) [(.int (own_draw p1))] (.int (0 : Int32)) T_31.heap n0 Zs_40 Fa_41 (by decide)) at_165 ?_ 1
    rintro T_56 L_56 _ X_56 ⟨⟨⟩, Nq_56, e_56⟩
    have N_56 := Fr.app N_55 Nq_56
    refine o_iadd X_56 hq at_168 ?_
    show own_Go _ _ _ _ (T_56.setTop (mkF m 169 #[iv p1, iv p2, iv p3, iv p4, iv p5, iv p6, iv 1, rv b_23, rv b_30, iv (own_isn_1 (own_f5 (own_draw p1) (own_draw p2) (own_draw p3) (own_draw p4) (own_draw p5))), iv 1, .unset, .unset] [(.int 0)]))
    refine o_aload X_56 hq at_169 rfl rfl (o_iload X_56 hq at_171 rfl (o_iconst X_56 hq 4 at_173 rfl ?_))
    refine c_S3 X_56 hq e_56 hZ hown hml (k0_25 hw) (rmpointo hw b_23 (1 : Int32) (4 : Int32) k_23 (1 : Int32) [(.int (own_draw p1))] (.int (0 : Int32)) T_31.heap n0 Zs_40 Fa_41 (by decide)) at_174 ?_ 1
    rintro T_57 L_57 _ X_57 ⟨⟨⟩, Nq_57, e_57⟩
    have N_57 := Fr.app N_56 Nq_57
    refine o_iadd X_57 hq at_177 ?_
    show own_Go _ _ _ _ (T_57.setTop (mkF m 178 #[iv p1, iv p2, iv p3, iv p4, iv p5, iv p6, iv 1, rv b_23, rv b_30, iv (own_isn_1 (own_f5 (own_draw p1) (own_draw p2) (own_draw p3) (own_draw p4) (own_draw p5))), iv 1, .unset, .unset] [(.int 0)]))
    refine o_istore X_57 hq at_178 (l' := #[iv p1, iv p2, iv p3, iv p4, iv p5, iv p6, iv 1, rv b_23, rv b_30, iv (own_isn_1 (own_f5 (own_draw p1) (own_draw p2) (own_draw p3) (own_draw p4) (own_draw p5))), iv 1, iv 0, .unset]) rfl (o_iload X_57 hq at_180 rfl (o_iload X_57 hq at_182 rfl (o_icmpYes X_57 hq (pc' := 252) at_184 (by decide) (o_iconst X_57 hq 0 at_252 rfl (o_istore X_57 hq at_253 (l' := #[iv p1, iv p2, iv p3, iv p4, iv p5, iv p6, iv 1, rv b_23, rv b_30, iv (own_isn_1 (own_f5 (own_draw p1) (own_draw p2) (own_draw p3) (own_draw p4) (own_draw p5))), iv 1, iv 0, iv 0]) rfl (o_iload X_57 hq at_255 rfl (o_iload X_57 hq at_257 rfl (o_icmpNo X_57 hq at_259 (teq (((own_law_1 (own_draw p1) (own_draw p2) (own_draw p3) (own_draw p4) (own_draw p5) (own_drb p1) (own_drb p2) (own_drb p3) (own_drb p4) (own_drb p5)).trans (if_neg hc115__43)).trans (if_pos hc124__52))).2 (o_iconst X_57 hq 1 at_262 rfl (o_goto X_57 hq (pc' := 267) at_263 ?_))))))))))
    have Kp_58 : Keep h0 T_31.heap [] := (Kp_35.trans K_31 (allS (Or.inr sz_30) all0))
    have Ks_59 := (Nat.le_trans (Nat.le_trans (Nat.le_trans (Nat.le_trans (Nat.le_refl h0.size) E_23.1) (Keep.of_wr W_27).1) E_30.1) K_31.1)
    exact e_ZW X_57 hS0 e_57 Ks_59 hq hlk hrt at_267 ⟨rfl, N_57, Kp_58⟩
   ·refine o_icmpYes X_36 hq (pc' := 131) at_124 (feq hc124__52).2 (o_iconst X_36 hq 0 at_131 rfl (o_istore X_36 hq at_132 (l' := #[iv p1, iv p2, iv p3, iv p4, iv p5, iv p6, iv 1, rv b_23, rv b_30, iv (own_isn_1 (own_f5 (own_draw p1) (own_draw p2) (own_draw p3) (own_draw p4) (own_draw p5))), iv 0, .unset, .unset]) rfl (o_aload X_36 hq at_134 rfl rfl (o_iload X_36 hq at_136 rfl (o_iconst X_36 hq 0 at_138 rfl ?_)))))
    refine c_S3 X_36 hq e_36 hZ hown hml (k0_25 hw) (rmpti hw b_23 (0 : Int32) (0 : Int32) k_23 (1 : Int32) [(.int (own_draw p1))] (.int (0 : Int32)) (own_draw p1) T_31.heap n0 Zs_40 Fa_41 (by decide) (by decide) (by decide) rfl) at_139 ?_ 0
    rintro T_60 L_60 _ X_60 ⟨⟨⟩, Nq_60, e_60⟩
    have N_60 := Fr.app N_36 Nq_60
    refine o_aload X_60 hq at_142 rfl rfl (o_iload X_60 hq at_144 rfl (o_iconst X_60 hq 1 at_146 rfl ?_))
    refine c_S3 X_60 hq e_60 hZ hown hml (k0_25 hw) (rmpointo hw b_23 (0 : Int32) (1 : Int32) k_23 (1 : Int32) [(.int (own_draw p1))] (.int (0 : Int32)) T_31.heap n0 Zs_40 Fa_41 (by decide)) at_147 ?_ 1
    rintro T_61 L_61 _ X_61 ⟨⟨⟩, Nq_61, e_61⟩
    have N_61 := Fr.app N_60 Nq_61
    refine o_iadd X_61 hq at_150 (o_aload X_61 hq at_151 rfl rfl (o_iload X_61 hq at_153 rfl (o_iconst X_61 hq 2 at_155 rfl ?_)))
    refine c_S3 X_61 hq e_61 hZ hown hml (k0_25 hw) (rmpointo hw b_23 (0 : Int32) (2 : Int32) k_23 (1 : Int32) [(.int (own_draw p1))] (.int (0 : Int32)) T_31.heap n0 Zs_40 Fa_41 (by decide)) at_156 ?_ 1
    rintro T_62 L_62 _ X_62 ⟨⟨⟩, Nq_62, e_62⟩
    have N_62 := Fr.app N_61 Nq_62
    refine o_iadd X_62 hq at_159 (o_aload X_62 hq at_160 rfl rfl (o_iload X_62 hq at_162 rfl (o_iconst X_62 hq 3 at_164 rfl ?_)))
    refine c_S3 X_62 hq e_62 hZ hown hml (k0_25 hw) (rmpointo hw b_23 (0 : Int32) (3 : Int32) k_23 (1 : Int32) [(.int (own_draw p1))] (.int (0 : Int32)) T_31.heap n0 Zs_40 Fa_41 (by decide)) at_165 ?_ 1
    rintro T_63 L_63 _ X_63 ⟨⟨⟩, Nq_63, e_63⟩
    have N_63 := Fr.app N_62 Nq_63
    refine o_iadd X_63 hq at_168 (o_aload X_63 hq at_169 rfl rfl (o_iload X_63 hq at_171 rfl (o_iconst X_63 hq 4 at_173 rfl ?_)))
    refine c_S3 X_63 hq e_63 hZ hown hml (k0_25 hw) (rmpointo hw b_23 (0 : Int32) (4 : Int32) k_23 (1 : Int32) [(.int (own_draw p1))] (.int (0 : Int32)) T_31.heap n0 Zs_40 Fa_41 (by decide)) at_174 ?_ 1
    rintro T_64 L_64 _ X_64 ⟨⟨⟩, Nq_64, e_64⟩
    have N_64 := Fr.app N_63 Nq_64
    refine o_iadd X_64 hq at_177 (o_istore X_64 hq at_178 (l' := #[iv p1, iv p2, iv p3, iv p4, iv p5, iv p6, iv 1, rv b_23, rv b_30, iv (own_isn_1 (own_f5 (own_draw p1) (own_draw p2) (own_draw p3) (own_draw p4) (own_draw p5))), iv 0, iv (((((own_pt (own_draw p1)) + (0 : Int32)) + (0 : Int32)) + (0 : Int32)) + (0 : Int32)), .unset]) rfl (o_iload X_64 hq at_180 rfl (o_iload X_64 hq at_182 rfl (o_icmpNo X_64 hq at_184 (by decide) (o_iload X_64 hq at_187 rfl (o_iconst X_64 hq 1 at_189 rfl ?_))))))
    by_cases hc190__65 : (1 : Int32) < (((((own_pt (own_draw p1)) + (0 : Int32)) + (0 : Int32)) + (0 : Int32)) + (0 : Int32))
    ·refine o_icmpYes X_64 hq (pc' := 252) at_190 (tlt hc190__65).2.2.1 (o_iconst X_64 hq 0 at_252 rfl (o_istore X_64 hq at_253 (l' := #[iv p1, iv p2, iv p3, iv p4, iv p5, iv p6, iv 1, rv b_23, rv b_30, iv (own_isn_1 (own_f5 (own_draw p1) (own_draw p2) (own_draw p3) (own_draw p4) (own_draw p5))), iv 0, iv (((((own_pt (own_draw p1)) + (0 : Int32)) + (0 : Int32)) + (0 : Int32)) + (0 : Int32)), iv 0]) rfl (o_iload X_64 hq at_255 rfl (o_iload X_64 hq at_257 rfl (o_icmpNo X_64 hq at_259 (teq ((((own_law_1 (own_draw p1) (own_draw p2) (own_draw p3) (own_draw p4) (own_draw p5) (own_drb p1) (own_drb p2) (own_drb p3) (own_drb p4) (own_drb p5)).trans (if_neg hc115__43)).trans (if_neg hc124__52)).trans (if_pos hc190__65))).2 (o_iconst X_64 hq 1 at_262 rfl (o_goto X_64 hq (pc' := 267) at_263 ?_)))))))
     have Kp_66 : Keep h0 T_31.heap [] := (Kp_35.trans K_31 (allS (Or.inr sz_30) all0))
     have Ks_67 := (Nat.le_trans (Nat.le_trans (Nat.le_trans (Nat.le_trans (Nat.le_refl h0.size) E_23.1) (Keep.of_wr W_27).1) E_30.1) K_31.1)
     exact e_ZW X_64 hS0 e_64 Ks_67 hq hlk hrt at_267 ⟨rfl, N_64, Kp_66⟩
    ·refine o_icmpNo X_64 hq at_190 (flt hc190__65).2.2.1 (o_aload X_64 hq at_193 rfl rfl (o_iload X_64 hq at_195 rfl (o_iconst X_64 hq 0 at_197 rfl ?_)))
     refine c_S3 X_64 hq e_64 hZ hown hml (k0_29 hw) (rmgdlo hw b_23 (0 : Int32) (0 : Int32) k_23 (1 : Int32) [(.int (own_draw p1))] (.int (0 : Int32)) (own_draw p1) T_31.heap n0 Zs_40 Fa_41 (by decide) (by decide) (by decide) rfl (by decide)) at_198 ?_ 0
     rintro T_68 L_68 _ X_68 ⟨⟨⟩, Nq_68, e_68⟩
     have N_68 := Fr.app N_64 Nq_68
     by_cases hc201__69 : (own_gd_lo (own_draw p1)) = (0 : Int32)
     ·refine o_ifYes X_68 hq (pc' := 252) at_201 (teq hc201__69).1 (o_iconst X_68 hq 0 at_252 rfl (o_istore X_68 hq at_253 (l' := #[iv p1, iv p2, iv p3, iv p4, iv p5, iv p6, iv 1, rv b_23, rv b_30, iv (own_isn_1 (own_f5 (own_draw p1) (own_draw p2) (own_draw p3) (own_draw p4) (own_draw p5))), iv 0, iv (((((own_pt (own_draw p1)) + (0 : Int32)) + (0 : Int32)) + (0 : Int32)) + (0 : Int32)), iv 0]) rfl (o_iload X_68 hq at_255 rfl (o_iload X_68 hq at_257 rfl (o_icmpNo X_68 hq at_259 (teq (((((own_law_1 (own_draw p1) (own_draw p2) (own_draw p3) (own_draw p4) (own_draw p5) (own_drb p1) (own_drb p2) (own_drb p3) (own_drb p4) (own_drb p5)).trans (if_neg hc115__43)).trans (if_neg hc124__52)).trans (if_neg hc190__65)).trans (if_pos hc201__69))).2 (o_iconst X_68 hq 1 at_262 rfl (o_goto X_68 hq (pc' := 267) at_263 ?_)))))))
      have Kp_70 : Keep h0 T_31.heap [] := (Kp_35.trans K_31 (allS (Or.inr sz_30) all0))
      have Ks_71 := (Nat.le_trans (Nat.le_trans (Nat.le_trans (Nat.le_trans (Nat.le_refl h0.size) E_23.1) (Keep.of_wr W_27).1) E_30.1) K_31.1)
      exact e_ZW X_68 hS0 e_68 Ks_71 hq hlk hrt at_267 ⟨rfl, N_68, Kp_70⟩
     ·refine o_ifNo X_68 hq at_201 (feq hc201__69).1 (o_aload X_68 hq at_204 rfl rfl (o_iload X_68 hq at_206 rfl (o_iconst X_68 hq 1 at_208 rfl ?_)))
      refine c_S3 X_68 hq e_68 hZ hown hml (k0_29 hw) (rmgoodo hw b_23 (0 : Int32) (1 : Int32) k_23 (1 : Int32) [(.int (own_draw p1))] (.int (0 : Int32)) T_31.heap n0 Zs_40 Fa_41 (by decide)) at_209 ?_ 0
      rintro T_72 L_72 _ X_72 ⟨⟨⟩, Nq_72, e_72⟩
      have N_72 := Fr.app N_68 Nq_72
      refine o_ifNo X_72 hq at_212 (by decide) (o_aload X_72 hq at_215 rfl rfl (o_iload X_72 hq at_217 rfl (o_iconst X_72 hq 2 at_219 rfl ?_)))
      refine c_S3 X_72 hq e_72 hZ hown hml (k0_29 hw) (rmgoodo hw b_23 (0 : Int32) (2 : Int32) k_23 (1 : Int32) [(.int (own_draw p1))] (.int (0 : Int32)) T_31.heap n0 Zs_40 Fa_41 (by decide)) at_220 ?_ 0
      rintro T_73 L_73 _ X_73 ⟨⟨⟩, Nq_73, e_73⟩
      have N_73 := Fr.app N_72 Nq_73
      refine o_ifNo X_73 hq at_223 (by decide) (o_aload X_73 hq at_226 rfl rfl (o_iload X_73 hq at_228 rfl (o_iconst X_73 hq 3 at_230 rfl ?_)))
      refine c_S3 X_73 hq e_73 hZ hown hml (k0_29 hw) (rmgoodo hw b_23 (0 : Int32) (3 : Int32) k_23 (1 : Int32) [(.int (own_draw p1))] (.int (0 : Int32)) T_31.heap n0 Zs_40 Fa_41 (by decide)) at_231 ?_ 0
      rintro T_74 L_74 _ X_74 ⟨⟨⟩, Nq_74, e_74⟩
      have N_74 := Fr.app N_73 Nq_74
      refine o_ifNo X_74 hq at_234 (by decide) (o_aload X_74 hq at_237 rfl rfl (o_iload X_74 hq at_239 rfl (o_iconst X_74 hq 4 at_241 rfl ?_)))
      refine c_S3 X_74 hq e_74 hZ hown hml (k0_29 hw) (rmgoodo hw b_23 (0 : Int32) (4 : Int32) k_23 (1 : Int32) [(.int (own_draw p1))] (.int (0 : Int32)) T_31.heap n0 Zs_40 Fa_41 (by decide)) at_242 ?_ 0
      rintro T_75 L_75 _ X_75 ⟨⟨⟩, Nq_75, e_75⟩
      have N_75 := Fr.app N_74 Nq_75
      refine o_ifNo X_75 hq at_245 (by decide) (o_iconst X_75 hq 1 at_248 rfl (o_goto X_75 hq (pc' := 253) at_249 (o_istore X_75 hq at_253 (l' := #[iv p1, iv p2, iv p3, iv p4, iv p5, iv p6, iv 1, rv b_23, rv b_30, iv (own_isn_1 (own_f5 (own_draw p1) (own_draw p2) (own_draw p3) (own_draw p4) (own_draw p5))), iv 0, iv (((((own_pt (own_draw p1)) + (0 : Int32)) + (0 : Int32)) + (0 : Int32)) + (0 : Int32)), iv 1]) rfl (o_iload X_75 hq at_255 rfl (o_iload X_75 hq at_257 rfl (o_icmpNo X_75 hq at_259 (teq (((((own_law_1 (own_draw p1) (own_draw p2) (own_draw p3) (own_draw p4) (own_draw p5) (own_drb p1) (own_drb p2) (own_drb p3) (own_drb p4) (own_drb p5)).trans (if_neg hc115__43)).trans (if_neg hc124__52)).trans (if_neg hc190__65)).trans (if_neg hc201__69))).2 (o_iconst X_75 hq 1 at_262 rfl (o_goto X_75 hq (pc' := 267) at_263 ?_))))))))
      have Kp_76 : Keep h0 T_31.heap [] := (Kp_35.trans K_31 (allS (Or.inr sz_30) all0))
      have Ks_77 := (Nat.le_trans (Nat.le_trans (Nat.le_trans (Nat.le_trans (Nat.le_refl h0.size) E_23.1) (Keep.of_wr W_27).1) E_30.1) K_31.1)
      exact e_ZW X_75 hS0 e_75 Ks_77 hq hlk hrt at_267 ⟨rfl, N_75, Kp_76⟩
 ·rw [hL]
  show own_Go _ _ _ _ (s₁.setTop (mkF m 10 #[iv p1, iv p2, iv p3, iv p4, iv p5, iv p6, iv 2, .unset, .unset, .unset, .unset, .unset, .unset] []))
  refine o_iload X0 hq at_10 rfl ?_
  obtain ⟨T_78, h_78, k_78, X_78, e_78, E_78, A_78, st_78⟩ := newP X0 hx hZ (w_ hw 1 rfl) e0 (g := (mkF m 12 #[iv p1, iv p2, iv p3, iv p4, iv p5, iv p6, iv 2, .unset, .unset, .unset, .unset, .unset, .unset] [(.int 2)])) rfl (hb hby at_12) rfl (by decide) (cap := 2) (by decide) (by decide) (by decide) (by decide)
  obtain ⟨b_78, g_78⟩ : ∃ z, z = h0.size := ⟨_, rfl⟩
  rw [← g_78] at A_78 st_78
  have V_78 : Arv Z h_78 b_78 k_78 .char (2 : Int32) [(.int (0 : Int32)), (.int (0 : Int32))] (.int (0 : Int32)) := (Arv.new A_78 (by decide)).pad (pad_rep [] (.int (0 : Int32)) 2)
  have gg_78 : n0 ≤ b_78 := Nat.le_trans Z0 (Nat.le_of_eq g_78.symm)
  have sz_78 : h0.size ≤ b_78 := Nat.le_trans (Keep.refl h0 []).1 (Nat.le_of_eq g_78.symm)
  refine own_st st_78 ?_
  show own_Go _ _ _ _ (T_78.setTop (mkF m 14 #[iv p1, iv p2, iv p3, iv p4, iv p5, iv p6, iv 2, .unset, .unset, .unset, .unset, .unset, .unset] [(.ref b_78)]))
  refine o_astore X_78 hq at_14 rfl (l' := #[iv p1, iv p2, iv p3, iv p4, iv p5, iv p6, iv 2, rv b_78, .unset, .unset, .unset, .unset, .unset]) rfl (o_iload X_78 hq at_16 rfl (o_ifNo X_78 hq at_18 (by decide) (o_aload X_78 hq at_21 rfl rfl (o_iconst X_78 hq 0 at_23 rfl (o_iloadN X_78 hq at_24 rfl ?_)))))
  have Zs_80 : n0 ≤ h_78.size := (Nat.le_trans Z0 E_78.1)
  refine c_S1 X_78 hq e_78 hZ hown hml (k0_8 hw) (rm1 hw p1  h_78 n0 Zs_80) at_25 ?_ 2
  rintro T_79 L_79 _ X_79 ⟨⟨⟩, Nq_79, e_79⟩
  have N_79 := Fr.app N0 Nq_79
  obtain ⟨cl_81, Ar_81, qk_81, Sz_81, Ng_81, Hs_81, Gs_81⟩ := id V_78
  obtain ⟨T_82, h_82, X_82, e_82, W_82, st_82⟩ := stC X_79 hx hZ e_79 Ar_81 (j := (0 : Int32)) (inb_of Sz_81 ⟨by decide, by decide⟩) (g := (mkF m 28 #[iv p1, iv p2, iv p3, iv p4, iv p5, iv p6, iv 2, rv b_78, .unset, .unset, .unset, .unset, .unset] [(.int (own_draw p1)), (.int 0), (.ref b_78)])) rfl rfl (hb hby at_28)
  refine own_st st_82 ?_
  have V_82 : Arv Z h_82 b_78 k_78 .char (2 : Int32) [(.int (own_draw p1)), (.int (0 : Int32))] (.int (0 : Int32)) := by have q := Arv.set Ar_81 qk_81 Sz_81 Ng_81 Hs_81 Gs_81 (fits_nar_char _) W_82 0 rfl (Nat.le_of_ble_eq_true rfl); rw [own_drn] at q; exact q
  have N_82 := Fr.snoc X_82 N_79 gg_78
  show own_Go _ _ _ _ (T_82.setTop (mkF m 29 #[iv p1, iv p2, iv p3, iv p4, iv p5, iv p6, iv 2, rv b_78, .unset, .unset, .unset, .unset, .unset] []))
  refine o_iload X_82 hq at_29 rfl (o_iconst X_82 hq 1 at_31 rfl (o_icmpNo X_82 hq at_32 (by decide) (o_aload X_82 hq at_35 rfl rfl (o_iconst X_82 hq 1 at_37 rfl (o_iloadN X_82 hq at_38 rfl ?_)))))
  have Zs_84 : n0 ≤ h_82.size := (Nat.le_trans Zs_80 (Keep.of_wr W_82).1)
  refine c_S1 X_82 hq e_82 hZ hown hml (k0_8 hw) (rm1 hw p2  h_82 n0 Zs_84) at_39 ?_ 2
  rintro T_83 L_83 _ X_83 ⟨⟨⟩, Nq_83, e_83⟩
  have N_83 := Fr.app N_82 Nq_83
  obtain ⟨cl_85, Ar_85, qk_85, Sz_85, Ng_85, Hs_85, Gs_85⟩ := id V_82
  obtain ⟨T_86, h_86, X_86, e_86, W_86, st_86⟩ := stC X_83 hx hZ e_83 Ar_85 (j := (1 : Int32)) (inb_of Sz_85 ⟨by decide, by decide⟩) (g := (mkF m 42 #[iv p1, iv p2, iv p3, iv p4, iv p5, iv p6, iv 2, rv b_78, .unset, .unset, .unset, .unset, .unset] [(.int (own_draw p2)), (.int 1), (.ref b_78)])) rfl rfl (hb hby at_42)
  refine own_st st_86 ?_
  have V_86 : Arv Z h_86 b_78 k_78 .char (2 : Int32) [(.int (own_draw p1)), (.int (own_draw p2))] (.int (0 : Int32)) := by have q := Arv.set Ar_85 qk_85 Sz_85 Ng_85 Hs_85 Gs_85 (fits_nar_char _) W_86 1 rfl (Nat.le_of_ble_eq_true rfl); rw [own_drn] at q; exact q
  have N_86 := Fr.snoc X_86 N_83 gg_78
  show own_Go _ _ _ _ (T_86.setTop (mkF m 43 #[iv p1, iv p2, iv p3, iv p4, iv p5, iv p6, iv 2, rv b_78, .unset, .unset, .unset, .unset, .unset] []))
  refine o_iload X_86 hq at_43 rfl (o_iconst X_86 hq 2 at_45 rfl (o_icmpYes X_86 hq (pc' := 57) at_46 (by decide) (o_iload X_86 hq at_57 rfl (o_iconst X_86 hq 3 at_59 rfl (o_icmpYes X_86 hq (pc' := 71) at_60 (by decide) (o_iload X_86 hq at_71 rfl (o_iconst X_86 hq 4 at_73 rfl (o_icmpYes X_86 hq (pc' := 86) at_74 (by decide) ?_))))))))
  have Zs_87 : n0 ≤ h_86.size := (Nat.le_trans Zs_84 (Keep.of_wr W_86).1)
  have Kp_88 : Keep h0 h_86 [] := ((((Keep.refl h0 []).ext E_78).wr W_82 (Or.inr sz_78)).wr W_86 (Or.inr sz_78))
  obtain ⟨T_89, h_89, X_89, e_89, E_89, A_89, D_89, -, st_89⟩ := newO X_86 hx hZ hown (w_ hw 6 rfl) (w_ hw 7 rfl) (w_ hw 8 rfl) e_86 (g := (mkF m 86 #[iv p1, iv p2, iv p3, iv p4, iv p5, iv p6, iv 2, rv b_78, .unset, .unset, .unset, .unset, .unset] [])) rfl (hb hby at_86) (by decide) (by decide)
  obtain ⟨b_89, g_89⟩ : ∃ z, z = h_86.size := ⟨_, rfl⟩
  rw [← g_89] at A_89 D_89 st_89
  have gg_89 : n0 ≤ b_89 := Nat.le_trans Zs_87 (Nat.le_of_eq g_89.symm)
  have sz_89 : h0.size ≤ b_89 := Nat.le_trans Kp_88.1 (Nat.le_of_eq g_89.symm)
  have Fi_89_coder : Fld Z h_89 b_89 "java/lang/String" "coder" "B" (.int (0 : Int32)) := D_89 (Or.inr (w_ hw 32 rfl)) (ty := .byte) (by decide)
  have Fi_89_value : Fld Z h_89 b_89 "java/lang/String" "value" "[B" .null := D_89 (Or.inr (w_ hw 34 rfl)) (ty := (.array .byte)) (by decide)
  refine own_st st_89 ?_
  show own_Go _ _ _ _ (T_89.setTop (mkF m 89 #[iv p1, iv p2, iv p3, iv p4, iv p5, iv p6, iv 2, rv b_78, .unset, .unset, .unset, .unset, .unset] [(.ref b_89)]))
  refine o_dup X_89 hq at_89 rfl (o_aload X_89 hq at_90 rfl rfl ?_)
  have Fa_91 := (V_86.ext E_89)
  have Fa_92 := ((((S1.ext E_78).wr W_82).wr W_86).ext E_89)
  have Zs_93 : n0 ≤ h_89.size := (Nat.le_trans Zs_87 E_89.1)
  refine c_I1v X_89 hq e_89 hZ hown hml (k0_16 hw) (rmiA2 hw b_89 b_78 k_78 (.int (0 : Int32)) w (own_draw p1) (own_draw p2) h_89 n0 Zs_93 A_89 gg_89 Fi_89_value Fi_89_coder Fa_91 (own_drb _).1 (own_drb _).1 Fa_92 hw0) at_92 ?_ 1
  rintro T_90 L_90 X_90 ⟨b__90, kb__90, -, Nq_90, K_90, gq_90_b, sq_90_b, Fq_90_0, Fq_90_1, Fq_90_2⟩
  have N_90 := Fr.app N_86 Nq_90
  have Kp_94 : Keep h0 h_89 [] := (Kp_88.ext E_89)
  have szq_90_b : h0.size ≤ b__90 := Nat.le_trans Kp_94.1 sq_90_b
  refine o_astore X_90 hq at_95 rfl (l' := #[iv p1, iv p2, iv p3, iv p4, iv p5, iv p6, iv 2, rv b_78, rv b_89, .unset, .unset, .unset, .unset]) rfl (o_aload X_90 hq at_97 rfl rfl ?_)
  have Fa_96 := (A_89.keep K_90)
  have Fa_97 := (own_Sta_keep Fa_92 K_90 (nsS (A_89.nostat) ns0))
  have Fa_98 := (own_Sta_keep ((((S2.ext E_78).wr W_82).wr W_86).ext E_89) K_90 (nsS (A_89.nostat) ns0))
  have Zs_99 : n0 ≤ T_90.heap.size := (Nat.le_trans Zs_93 K_90.1)
  refine c_S1 X_90 hq rfl hZ hown hml (k0_19 hw) (rmisn2 hw b_89 b__90 kb__90 [(.int (((own_draw p1).toInt8.toInt32).toInt8.toInt32)), (.int (((own_draw p2).toInt8.toInt32).toInt8.toInt32))] (.int (0 : Int32)) w sfv (own_f5 (own_draw p1) (own_draw p2) (own_draw p3) (own_draw p4) (own_draw p5)) T_90.heap n0 Zs_99 Fa_96 Fq_90_0 Fq_90_1 Fq_90_2 Fa_97 hw0 (own_fat2 _ _ _ _ _) (own_fbd (own_drb p1) (own_drb p2) (own_drb p3) (own_drb p4) (own_drb p5)) Fa_98 hsf) at_99 ?_ 0
  rintro T_95 L_95 _ X_95 ⟨⟨⟩, Nq_95, e_95⟩
  have N_95 := Fr.app N_90 Nq_95
  refine o_istore X_95 hq at_102 (l' := #[iv p1, iv p2, iv p3, iv p4, iv p5, iv p6, iv 2, rv b_78, rv b_89, iv (own_isn_2 (own_f5 (own_draw p1) (own_draw p2) (own_draw p3) (own_draw p4) (own_draw p5))), .unset, .unset, .unset]) rfl (o_iload X_95 hq at_104 rfl (o_ifNo X_95 hq at_106 (by decide) (o_aload X_95 hq at_109 rfl rfl (o_iconst X_95 hq 0 at_111 rfl ?_))))
  have Fa_100 := (Fa_91.keep K_90 (ninS (Nat.ne_of_lt (Nat.lt_of_lt_of_le V_86.lt (Nat.le_of_eq g_89.symm))) nin0))
  obtain ⟨cl_101, Ar_101, qk_101, Sz_101, Ng_101, Hs_101, Gs_101⟩ := id Fa_100
  refine own_st (X_95.caload hx (j := (0 : Int32)) (v := (.int (own_draw p1))) (by rw [e_95]; exact Ar_101.1) (State.isArrayOf_alike hZ.alike Ar_101.2.1) Ar_101.2.2 (inb_of Sz_101 ⟨by decide, by decide⟩) (Hs_101.at (j := (0 : Int32)) (inb_of Sz_101 ⟨by decide, by decide⟩) rfl) (g := (mkF m 112 #[iv p1, iv p2, iv p3, iv p4, iv p5, iv p6, iv 2, rv b_78, rv b_89, iv (own_isn_2 (own_f5 (own_draw p1) (own_draw p2) (own_draw p3) (own_draw p4) (own_draw p5))), .unset, .unset, .unset] [(.int 0), (.ref b_78)])) rfl rfl (hb hby at_112)) ?_
  show own_Go _ _ _ _ (T_95.setTop (mkF m 113 #[iv p1, iv p2, iv p3, iv p4, iv p5, iv p6, iv 2, rv b_78, rv b_89, iv (own_isn_2 (own_f5 (own_draw p1) (own_draw p2) (own_draw p3) (own_draw p4) (own_draw p5))), .unset, .unset, .unset] [(.int (own_draw p1))]))
  refine o_bipush X_95 hq 43 at_113 rfl ?_
  by_cases hc115__102 : (own_draw p1) = (43 : Int32)
  ·refine o_icmpYes X_95 hq (pc' := 127) at_115 (teq hc115__102).1 (o_iconst X_95 hq 1 at_127 rfl (o_goto X_95 hq (pc' := 132) at_128 (o_istore X_95 hq at_132 (l' := #[iv p1, iv p2, iv p3, iv p4, iv p5, iv p6, iv 2, rv b_78, rv b_89, iv (own_isn_2 (own_f5 (own_draw p1) (own_draw p2) (own_draw p3) (own_draw p4) (own_draw p5))), iv 1, .unset, .unset]) rfl (o_aload X_95 hq at_134 rfl rfl (o_iload X_95 hq at_136 rfl (o_iconst X_95 hq 0 at_138 rfl ?_))))))
   refine c_S3 X_95 hq e_95 hZ hown hml (k0_25 hw) (rmpointb hw b_78 (1 : Int32) (0 : Int32) k_78 (2 : Int32) [(.int (own_draw p1)), (.int (own_draw p2))] (.int (0 : Int32)) T_90.heap n0 Zs_99 Fa_100 (by decide) (by decide)) at_139 ?_ 0
   rintro T_103 L_103 _ X_103 ⟨⟨⟩, Nq_103, e_103⟩
   have N_103 := Fr.app N_95 Nq_103
   refine o_aload X_103 hq at_142 rfl rfl (o_iload X_103 hq at_144 rfl (o_iconst X_103 hq 1 at_146 rfl ?_))
   refine c_S3 X_103 hq e_103 hZ hown hml (k0_25 hw) (rmpti hw b_78 (1 : Int32) (1 : Int32) k_78 (2 : Int32) [(.int (own_draw p1)), (.int (own_draw p2))] (.int (0 : Int32)) (own_draw p2) T_90.heap n0 Zs_99 Fa_100 (by decide) (by decide) (by decide) rfl) at_147 ?_ 1
   rintro T_104 L_104 _ X_104 ⟨⟨⟩, Nq_104, e_104⟩
   have N_104 := Fr.app N_103 Nq_104
   refine o_iadd X_104 hq at_150 (o_aload X_104 hq at_151 rfl rfl (o_iload X_104 hq at_153 rfl (o_iconst X_104 hq 2 at_155 rfl ?_)))
   refine c_S3 X_104 hq e_104 hZ hown hml (k0_25 hw) (rmpointo hw b_78 (1 : Int32) (2 : Int32) k_78 (2 : Int32) [(.int (own_draw p1)), (.int (own_draw p2))] (.int (0 : Int32)) T_90.heap n0 Zs_99 Fa_100 (by decide)) at_156 ?_ 1
   rintro T_105 L_105 _ X_105 ⟨⟨⟩, Nq_105, e_105⟩
   have N_105 := Fr.app N_104 Nq_105
   refine o_iadd X_105 hq at_159 (o_aload X_105 hq at_160 rfl rfl (o_iload X_105 hq at_162 rfl (o_iconst X_105 hq 3 at_164 rfl ?_)))
   refine c_S3 X_105 hq e_105 hZ hown hml (k0_25 hw) (rmpointo hw b_78 (1 : Int32) (3 : Int32) k_78 (2 : Int32) [(.int (own_draw p1)), (.int (own_draw p2))] (.int (0 : Int32)) T_90.heap n0 Zs_99 Fa_100 (by decide)) at_165 ?_ 1
   rintro T_106 L_106 _ X_106 ⟨⟨⟩, Nq_106, e_106⟩
   have N_106 := Fr.app N_105 Nq_106
   refine o_iadd X_106 hq at_168 (o_aload X_106 hq at_169 rfl rfl (o_iload X_106 hq at_171 rfl (o_iconst X_106 hq 4 at_173 rfl ?_)))
   refine c_S3 X_106 hq e_106 hZ hown hml (k0_25 hw) (rmpointo hw b_78 (1 : Int32) (4 : Int32) k_78 (2 : Int32) [(.int (own_draw p1)), (.int (own_draw p2))] (.int (0 : Int32)) T_90.heap n0 Zs_99 Fa_100 (by decide)) at_174 ?_ 1
   rintro T_107 L_107 _ X_107 ⟨⟨⟩, Nq_107, e_107⟩
   have N_107 := Fr.app N_106 Nq_107
   refine o_iadd X_107 hq at_177 (o_istore X_107 hq at_178 (l' := #[iv p1, iv p2, iv p3, iv p4, iv p5, iv p6, iv 2, rv b_78, rv b_89, iv (own_isn_2 (own_f5 (own_draw p1) (own_draw p2) (own_draw p3) (own_draw p4) (own_draw p5))), iv 1, iv (((((0 : Int32) + (own_pt (own_draw p2))) + (0 : Int32)) + (0 : Int32)) + (0 : Int32)), .unset]) rfl (o_iload X_107 hq at_180 rfl (o_iload X_107 hq at_182 rfl (o_icmpNo X_107 hq at_184 (by decide) (o_iload X_107 hq at_187 rfl (o_iconst X_107 hq 1 at_189 rfl ?_))))))
   by_cases hc190__108 : (1 : Int32) < (((((0 : Int32) + (own_pt (own_draw p2))) + (0 : Int32)) + (0 : Int32)) + (0 : Int32))
   ·refine o_icmpYes X_107 hq (pc' := 252) at_190 (tlt hc190__108).2.2.1 (o_iconst X_107 hq 0 at_252 rfl (o_istore X_107 hq at_253 (l' := #[iv p1, iv p2, iv p3, iv p4, iv p5, iv p6, iv 2, rv b_78, rv b_89, iv (own_isn_2 (own_f5 (own_draw p1) (own_draw p2) (own_draw p3) (own_draw p4) (own_draw p5))), iv 1, iv (((((0 : Int32) + (own_pt (own_draw p2))) + (0 : Int32)) + (0 : Int32)) + (0 : Int32)), iv 0]) rfl (o_iload X_107 hq at_255 rfl (o_iload X_107 hq at_257 rfl (o_icmpNo X_107 hq at_259 (teq (((own_law_2 (own_draw p1) (own_draw p2) (own_draw p3) (own_draw p4) (own_draw p5) (own_drb p1) (own_drb p2) (own_drb p3) (own_drb p4) (own_drb p5)).trans (if_pos hc115__102)).trans (if_pos hc190__108))).2 (o_iconst X_107 hq 1 at_262 rfl (o_goto X_107 hq (pc' := 267) at_263 ?_)))))))
    have Kp_109 : Keep h0 T_90.heap [] := (Kp_94.trans K_90 (allS (Or.inr sz_89) all0))
    have Ks_110 := (Nat.le_trans (Nat.le_trans (Nat.le_trans (Nat.le_trans (Nat.le_trans (Nat.le_refl h0.size) E_78.1) (Keep.of_wr W_82).1) (Keep.of_wr W_86).1) E_89.1) K_90.1)
    exact e_ZW X_107 hS0 e_107 Ks_110 hq hlk hrt at_267 ⟨rfl, N_107, Kp_109⟩
   ·refine o_icmpNo X_107 hq at_190 (flt hc190__108).2.2.1 (o_aload X_107 hq at_193 rfl rfl (o_iload X_107 hq at_195 rfl (o_iconst X_107 hq 0 at_197 rfl ?_)))
    refine c_S3 X_107 hq e_107 hZ hown hml (k0_29 hw) (rmgoodb hw b_78 (1 : Int32) (0 : Int32) k_78 (2 : Int32) [(.int (own_draw p1)), (.int (own_draw p2))] (.int (0 : Int32)) T_90.heap n0 Zs_99 Fa_100 (by decide) (by decide)) at_198 ?_ 0
    rintro T_111 L_111 _ X_111 ⟨⟨⟩, Nq_111, e_111⟩
    have N_111 := Fr.app N_107 Nq_111
    refine o_ifNo X_111 hq at_201 (by decide) (o_aload X_111 hq at_204 rfl rfl (o_iload X_111 hq at_206 rfl (o_iconst X_111 hq 1 at_208 rfl ?_)))
    refine c_S3 X_111 hq e_111 hZ hown hml (k0_29 hw) (rmgdlo hw b_78 (1 : Int32) (1 : Int32) k_78 (2 : Int32) [(.int (own_draw p1)), (.int (own_draw p2))] (.int (0 : Int32)) (own_draw p2) T_90.heap n0 Zs_99 Fa_100 (by decide) (by decide) (by decide) rfl (by decide)) at_209 ?_ 0
    rintro T_112 L_112 _ X_112 ⟨⟨⟩, Nq_112, e_112⟩
    have N_112 := Fr.app N_111 Nq_112
    by_cases hc212__113 : (own_gd_lo (own_draw p2)) = (0 : Int32)
    ·refine o_ifYes X_112 hq (pc' := 252) at_212 (teq hc212__113).1 (o_iconst X_112 hq 0 at_252 rfl (o_istore X_112 hq at_253 (l' := #[iv p1, iv p2, iv p3, iv p4, iv p5, iv p6, iv 2, rv b_78, rv b_89, iv (own_isn_2 (own_f5 (own_draw p1) (own_draw p2) (own_draw p3) (own_draw p4) (own_draw p5))), iv 1, iv (((((0 : Int32) + (own_pt (own_draw p2))) + (0 : Int32)) + (0 : Int32)) + (0 : Int32)), iv 0]) rfl (o_iload X_112 hq at_255 rfl (o_iload X_112 hq at_257 rfl (o_icmpNo X_112 hq at_259 (teq ((((own_law_2 (own_draw p1) (own_draw p2) (own_draw p3) (own_draw p4) (own_draw p5) (own_drb p1) (own_drb p2) (own_drb p3) (own_drb p4) (own_drb p5)).trans (if_pos hc115__102)).trans (if_neg hc190__108)).trans (if_pos hc212__113))).2 (o_iconst X_112 hq 1 at_262 rfl (o_goto X_112 hq (pc' := 267) at_263 ?_)))))))
     have Kp_114 : Keep h0 T_90.heap [] := (Kp_94.trans K_90 (allS (Or.inr sz_89) all0))
     have Ks_115 := (Nat.le_trans (Nat.le_trans (Nat.le_trans (Nat.le_trans (Nat.le_trans (Nat.le_refl h0.size) E_78.1) (Keep.of_wr W_82).1) (Keep.of_wr W_86).1) E_89.1) K_90.1)
     exact e_ZW X_112 hS0 e_112 Ks_115 hq hlk hrt at_267 ⟨rfl, N_112, Kp_114⟩
    ·refine o_ifNo X_112 hq at_212 (feq hc212__113).1 (o_aload X_112 hq at_215 rfl rfl (o_iload X_112 hq at_217 rfl (o_iconst X_112 hq 2 at_219 rfl ?_)))
     refine c_S3 X_112 hq e_112 hZ hown hml (k0_29 hw) (rmgoodo hw b_78 (1 : Int32) (2 : Int32) k_78 (2 : Int32) [(.int (own_draw p1)), (.int (own_draw p2))] (.int (0 : Int32)) T_90.heap n0 Zs_99 Fa_100 (by decide)) at_220 ?_ 0
     rintro T_116 L_116 _ X_116 ⟨⟨⟩, Nq_116, e_116⟩
     have N_116 := Fr.app N_112 Nq_116
     refine o_ifNo X_116 hq at_223 (by decide) (o_aload X_116 hq at_226 rfl rfl (o_iload X_116 hq at_228 rfl (o_iconst X_116 hq 3 at_230 rfl ?_)))
     refine c_S3 X_116 hq e_116 hZ hown hml (k0_29 hw) (rmgoodo hw b_78 (1 : Int32) (3 : Int32) k_78 (2 : Int32) [(.int (own_draw p1)), (.int (own_draw p2))] (.int (0 : Int32)) T_90.heap n0 Zs_99 Fa_100 (by decide)) at_231 ?_ 0
     rintro T_117 L_117 _ X_117 ⟨⟨⟩, Nq_117, e_117⟩
     have N_117 := Fr.app N_116 Nq_117
     refine o_ifNo X_117 hq at_234 (by decide) (o_aload X_117 hq at_237 rfl rfl (o_iload X_117 hq at_239 rfl (o_iconst X_117 hq 4 at_241 rfl ?_)))
     refine c_S3 X_117 hq e_117 hZ hown hml (k0_29 hw) (rmgoodo hw b_78 (1 : Int32) (4 : Int32) k_78 (2 : Int32) [(.int (own_draw p1)), (.int (own_draw p2))] (.int (0 : Int32)) T_90.heap n0 Zs_99 Fa_100 (by decide)) at_242 ?_ 0
     rintro T_118 L_118 _ X_118 ⟨⟨⟩, Nq_118, e_118⟩
     have N_118 := Fr.app N_117 Nq_118
     refine o_ifNo X_118 hq at_245 (by decide) (o_iconst X_118 hq 1 at_248 rfl (o_goto X_118 hq (pc' := 253) at_249 (o_istore X_118 hq at_253 (l' := #[iv p1, iv p2, iv p3, iv p4, iv p5, iv p6, iv 2, rv b_78, rv b_89, iv (own_isn_2 (own_f5 (own_draw p1) (own_draw p2) (own_draw p3) (own_draw p4) (own_draw p5))), iv 1, iv (((((0 : Int32) + (own_pt (own_draw p2))) + (0 : Int32)) + (0 : Int32)) + (0 : Int32)), iv 1]) rfl (o_iload X_118 hq at_255 rfl (o_iload X_118 hq at_257 rfl (o_icmpNo X_118 hq at_259 (teq ((((own_law_2 (own_draw p1) (own_draw p2) (own_draw p3) (own_draw p4) (own_draw p5) (own_drb p1) (own_drb p2) (own_drb p3) (own_drb p4) (own_drb p5)).trans (if_pos hc115__102)).trans (if_neg hc190__108)).trans (if_neg hc212__113))).2 (o_iconst X_118 hq 1 at_262 rfl (o_goto X_118 hq (pc' := 267) at_263 ?_))))))))
     have Kp_119 : Keep h0 T_90.heap [] := (Kp_94.trans K_90 (allS (Or.inr sz_89) all0))
     have Ks_120 := (Nat.le_trans (Nat.le_trans (Nat.le_trans (Nat.le_trans (Nat.le_trans (Nat.le_refl h0.size) E_78.1) (Keep.of_wr W_82).1) (Keep.of_wr W_86).1) E_89.1) K_90.1)
     exact e_ZW X_118 hS0 e_118 Ks_120 hq hlk hrt at_267 ⟨rfl, N_118, Kp_119⟩
  ·refine o_icmpNo X_95 hq at_115 (feq hc115__102).1 (o_aload X_95 hq at_118 rfl rfl (o_iconst X_95 hq 0 at_120 rfl ?_))
   obtain ⟨cl_121, Ar_121, qk_121, Sz_121, Ng_121, Hs_121, Gs_121⟩ := id Fa_100
   refine own_st (X_95.caload hx (j := (0 : Int32)) (v := (.int (own_draw p1))) (by rw [e_95]; exact Ar_121.1) (State.isArrayOf_alike hZ.alike Ar_121.2.1) Ar_121.2.2 (inb_of Sz_121 ⟨by decide, by decide⟩) (Hs_121.at (j := (0 : Int32)) (inb_of Sz_121 ⟨by decide, by decide⟩) rfl) (g := (mkF m 121 #[iv p1, iv p2, iv p3, iv p4, iv p5, iv p6, iv 2, rv b_78, rv b_89, iv (own_isn_2 (own_f5 (own_draw p1) (own_draw p2) (own_draw p3) (own_draw p4) (own_draw p5))), .unset, .unset, .unset] [(.int 0), (.ref b_78)])) rfl rfl (hb hby at_121)) ?_
   show own_Go _ _ _ _ (T_95.setTop (mkF m 122 #[iv p1, iv p2, iv p3, iv p4, iv p5, iv p6, iv 2, rv b_78, rv b_89, iv (own_isn_2 (own_f5 (own_draw p1) (own_draw p2) (own_draw p3) (own_draw p4) (own_draw p5))), .unset, .unset, .unset] [(.int (own_draw p1))]))
   refine o_bipush X_95 hq 45 at_122 rfl ?_
   by_cases hc124__122 : (own_draw p1) = (45 : Int32)
   ·refine o_icmpNo X_95 hq at_124 (teq hc124__122).2 (o_iconst X_95 hq 1 at_127 rfl (o_goto X_95 hq (pc' := 132) at_128 (o_istore X_95 hq at_132 (l' := #[iv p1, iv p2, iv p3, iv p4, iv p5, iv p6, iv 2, rv b_78, rv b_89, iv (own_isn_2 (own_f5 (own_draw p1) (own_draw p2) (own_draw p3) (own_draw p4) (own_draw p5))), iv 1, .unset, .unset]) rfl (o_aload X_95 hq at_134 rfl rfl (o_iload X_95 hq at_136 rfl (o_iconst X_95 hq 0 at_138 rfl ?_))))))
    refine c_S3 X_95 hq e_95 hZ hown hml (k0_25 hw) (rmpointb hw b_78 (1 : Int32) (0 : Int32) k_78 (2 : Int32) [(.int (own_draw p1)), (.int (own_draw p2))] (.int (0 : Int32)) T_90.heap n0 Zs_99 Fa_100 (by decide) (by decide)) at_139 ?_ 0
    rintro T_123 L_123 _ X_123 ⟨⟨⟩, Nq_123, e_123⟩
    have N_123 := Fr.app N_95 Nq_123
    refine o_aload X_123 hq at_142 rfl rfl (o_iload X_123 hq at_144 rfl (o_iconst X_123 hq 1 at_146 rfl ?_))
    refine c_S3 X_123 hq e_123 hZ hown hml (k0_25 hw) (rmpti hw b_78 (1 : Int32) (1 : Int32) k_78 (2 : Int32) [(.int (own_draw p1)), (.int (own_draw p2))] (.int (0 : Int32)) (own_draw p2) T_90.heap n0 Zs_99 Fa_100 (by decide) (by decide) (by decide) rfl) at_147 ?_ 1
    rintro T_124 L_124 _ X_124 ⟨⟨⟩, Nq_124, e_124⟩
    have N_124 := Fr.app N_123 Nq_124
    refine o_iadd X_124 hq at_150 (o_aload X_124 hq at_151 rfl rfl (o_iload X_124 hq at_153 rfl (o_iconst X_124 hq 2 at_155 rfl ?_)))
    refine c_S3 X_124 hq e_124 hZ hown hml (k0_25 hw) (rmpointo hw b_78 (1 : Int32) (2 : Int32) k_78 (2 : Int32) [(.int (own_draw p1)), (.int (own_draw p2))] (.int (0 : Int32)) T_90.heap n0 Zs_99 Fa_100 (by decide)) at_156 ?_ 1
    rintro T_125 L_125 _ X_125 ⟨⟨⟩, Nq_125, e_125⟩
    have N_125 := Fr.app N_124 Nq_125
    refine o_iadd X_125 hq at_159 (o_aload X_125 hq at_160 rfl rfl (o_iload X_125 hq at_162 rfl (o_iconst X_125 hq 3 at_164 rfl ?_)))
    refine c_S3 X_125 hq e_125 hZ hown hml (k0_25 hw) (rmpointo hw b_78 (1 : Int32) (3 : Int32) k_78 (2 : Int32) [(.int (own_draw p1)), (.int (own_draw p2))] (.int (0 : Int32)) T_90.heap n0 Zs_99 Fa_100 (by decide)) at_165 ?_ 1
    rintro T_126 L_126 _ X_126 ⟨⟨⟩, Nq_126, e_126⟩
    have N_126 := Fr.app N_125 Nq_126
    refine o_iadd X_126 hq at_168 (o_aload X_126 hq at_169 rfl rfl (o_iload X_126 hq at_171 rfl (o_iconst X_126 hq 4 at_173 rfl ?_)))
    refine c_S3 X_126 hq e_126 hZ hown hml (k0_25 hw) (rmpointo hw b_78 (1 : Int32) (4 : Int32) k_78 (2 : Int32) [(.int (own_draw p1)), (.int (own_draw p2))] (.int (0 : Int32)) T_90.heap n0 Zs_99 Fa_100 (by decide)) at_174 ?_ 1
    rintro T_127 L_127 _ X_127 ⟨⟨⟩, Nq_127, e_127⟩
    have N_127 := Fr.app N_126 Nq_127
    refine o_iadd X_127 hq at_177 (o_istore X_127 hq at_178 (l' := #[iv p1, iv p2, iv p3, iv p4, iv p5, iv p6, iv 2, rv b_78, rv b_89, iv (own_isn_2 (own_f5 (own_draw p1) (own_draw p2) (own_draw p3) (own_draw p4) (own_draw p5))), iv 1, iv (((((0 : Int32) + (own_pt (own_draw p2))) + (0 : Int32)) + (0 : Int32)) + (0 : Int32)), .unset]) rfl (o_iload X_127 hq at_180 rfl (o_iload X_127 hq at_182 rfl (o_icmpNo X_127 hq at_184 (by decide) (o_iload X_127 hq at_187 rfl (o_iconst X_127 hq 1 at_189 rfl ?_))))))
    by_cases hc190__128 : (1 : Int32) < (((((0 : Int32) + (own_pt (own_draw p2))) + (0 : Int32)) + (0 : Int32)) + (0 : Int32))
    ·refine o_icmpYes X_127 hq (pc' := 252) at_190 (tlt hc190__128).2.2.1 (o_iconst X_127 hq 0 at_252 rfl (o_istore X_127 hq at_253 (l' := #[iv p1, iv p2, iv p3, iv p4, iv p5, iv p6, iv 2, rv b_78, rv b_89, iv (own_isn_2 (own_f5 (own_draw p1) (own_draw p2) (own_draw p3) (own_draw p4) (own_draw p5))), iv 1, iv (((((0 : Int32) + (own_pt (own_draw p2))) + (0 : Int32)) + (0 : Int32)) + (0 : Int32)), iv 0]) rfl (o_iload X_127 hq at_255 rfl (o_iload X_127 hq at_257 rfl (o_icmpNo X_127 hq at_259 (teq ((((own_law_2 (own_draw p1) (own_draw p2) (own_draw p3) (own_draw p4) (own_draw p5) (own_drb p1) (own_drb p2) (own_drb p3) (own_drb p4) (own_drb p5)).trans (if_neg hc115__102)).trans (if_pos hc124__122)).trans (if_pos hc190__128))).2 (o_iconst X_127 hq 1 at_262 rfl (o_goto X_127 hq (pc' := 267) at_263 ?_)))))))
     have Kp_129 : Keep h0 T_90.heap [] := (Kp_94.trans K_90 (allS (Or.inr sz_89) all0))
     have Ks_130 := (Nat.le_trans (Nat.le_trans (Nat.le_trans (Nat.le_trans (Nat.le_trans (Nat.le_refl h0.size) E_78.1) (Keep.of_wr W_82).1) (Keep.of_wr W_86).1) E_89.1) K_90.1)
     exact e_ZW X_127 hS0 e_127 Ks_130 hq hlk hrt at_267 ⟨rfl, N_127, Kp_129⟩
    ·refine o_icmpNo X_127 hq at_190 (flt hc190__128).2.2.1 (o_aload X_127 hq at_193 rfl rfl (o_iload X_127 hq at_195 rfl (o_iconst X_127 hq 0 at_197 rfl ?_)))
     refine c_S3 X_127 hq e_127 hZ hown hml (k0_29 hw) (rmgoodb hw b_78 (1 : Int32) (0 : Int32) k_78 (2 : Int32) [(.int (own_draw p1)), (.int (own_draw p2))] (.int (0 : Int32)) T_90.heap n0 Zs_99 Fa_100 (by decide) (by decide)) at_198 ?_ 0
     rintro T_131 L_131 _ X_131 ⟨⟨⟩, Nq_131, e_131⟩
     have N_131 := Fr.app N_127 Nq_131
     refine o_ifNo X_131 hq at_201 (by decide) (o_aload X_131 hq at_204 rfl rfl (o_iload X_131 hq at_206 rfl (o_iconst X_131 hq 1 at_208 rfl ?_)))
     refine c_S3 X_131 hq e_131 hZ hown hml (k0_29 hw) (rmgdlo hw b_78 (1 : Int32) (1 : Int32) k_78 (2 : Int32) [(.int (own_draw p1)), (.int (own_draw p2))] (.int (0 : Int32)) (own_draw p2) T_90.heap n0 Zs_99 Fa_100 (by decide) (by decide) (by decide) rfl (by decide)) at_209 ?_ 0
     rintro T_132 L_132 _ X_132 ⟨⟨⟩, Nq_132, e_132⟩
     have N_132 := Fr.app N_131 Nq_132
     by_cases hc212__133 : (own_gd_lo (own_draw p2)) = (0 : Int32)
     ·refine o_ifYes X_132 hq (pc' := 252) at_212 (teq hc212__133).1 (o_iconst X_132 hq 0 at_252 rfl (o_istore X_132 hq at_253 (l' := #[iv p1, iv p2, iv p3, iv p4, iv p5, iv p6, iv 2, rv b_78, rv b_89, iv (own_isn_2 (own_f5 (own_draw p1) (own_draw p2) (own_draw p3) (own_draw p4) (own_draw p5))), iv 1, iv (((((0 : Int32) + (own_pt (own_draw p2))) + (0 : Int32)) + (0 : Int32)) + (0 : Int32)), iv 0]) rfl (o_iload X_132 hq at_255 rfl (o_iload X_132 hq at_257 rfl (o_icmpNo X_132 hq at_259 (teq (((((own_law_2 (own_draw p1) (own_draw p2) (own_draw p3) (own_draw p4) (own_draw p5) (own_drb p1) (own_drb p2) (own_drb p3) (own_drb p4) (own_drb p5)).trans (if_neg hc115__102)).trans (if_pos hc124__122)).trans (if_neg hc190__128)).trans (if_pos hc212__133))).2 (o_iconst X_132 hq 1 at_262 rfl (o_goto X_132 hq (pc' := 267) at_263 ?_)))))))
      have Kp_134 : Keep h0 T_90.heap [] := (Kp_94.trans K_90 (allS (Or.inr sz_89) all0))
      have Ks_135 := (Nat.le_trans (Nat.le_trans (Nat.le_trans (Nat.le_trans (Nat.le_trans (Nat.le_refl h0.size) E_78.1) (Keep.of_wr W_82).1) (Keep.of_wr W_86).1) E_89.1) K_90.1)
      exact e_ZW X_132 hS0 e_132 Ks_135 hq hlk hrt at_267 ⟨rfl, N_132, Kp_134⟩
     ·refine o_ifNo X_132 hq at_212 (feq hc212__133).1 (o_aload X_132 hq at_215 rfl rfl (o_iload X_132 hq at_217 rfl (o_iconst X_132 hq 2 at_219 rfl ?_)))
      refine c_S3 X_132 hq e_132 hZ hown hml (k0_29 hw) (rmgoodo hw b_78 (1 : Int32) (2 : Int32) k_78 (2 : Int32) [(.int (own_draw p1)), (.int (own_draw p2))] (.int (0 : Int32)) T_90.heap n0 Zs_99 Fa_100 (by decide)) at_220 ?_ 0
      rintro T_136 L_136 _ X_136 ⟨⟨⟩, Nq_136, e_136⟩
      have N_136 := Fr.app N_132 Nq_136
      refine o_ifNo X_136 hq at_223 (by decide) (o_aload X_136 hq at_226 rfl rfl (o_iload X_136 hq at_228 rfl (o_iconst X_136 hq 3 at_230 rfl ?_)))
      refine c_S3 X_136 hq e_136 hZ hown hml (k0_29 hw) (rmgoodo hw b_78 (1 : Int32) (3 : Int32) k_78 (2 : Int32) [(.int (own_draw p1)), (.int (own_draw p2))] (.int (0 : Int32)) T_90.heap n0 Zs_99 Fa_100 (by decide)) at_231 ?_ 0
      rintro T_137 L_137 _ X_137 ⟨⟨⟩, Nq_137, e_137⟩
      have N_137 := Fr.app N_136 Nq_137
      refine o_ifNo X_137 hq at_234 (by decide) (o_aload X_137 hq at_237 rfl rfl (o_iload X_137 hq at_239 rfl (o_iconst X_137 hq 4 at_241 rfl ?_)))
      refine c_S3 X_137 hq e_137 hZ hown hml (k0_29 hw) (rmgoodo hw b_78 (1 : Int32) (4 : Int32) k_78 (2 : Int32) [(.int (own_draw p1)), (.int (own_draw p2))] (.int (0 : Int32)) T_90.heap n0 Zs_99 Fa_100 (by decide)) at_242 ?_ 0
      rintro T_138 L_138 _ X_138 ⟨⟨⟩, Nq_138, e_138⟩
      have N_138 := Fr.app N_137 Nq_138
      refine o_ifNo X_138 hq at_245 (by decide) (o_iconst X_138 hq 1 at_248 rfl (o_goto X_138 hq (pc' := 253) at_249 (o_istore X_138 hq at_253 (l' := #[iv p1, iv p2, iv p3, iv p4, iv p5, iv p6, iv 2, rv b_78, rv b_89, iv (own_isn_2 (own_f5 (own_draw p1) (own_draw p2) (own_draw p3) (own_draw p4) (own_draw p5))), iv 1, iv (((((0 : Int32) + (own_pt (own_draw p2))) + (0 : Int32)) + (0 : Int32)) + (0 : Int32)), iv 1]) rfl (o_iload X_138 hq at_255 rfl (o_iload X_138 hq at_257 rfl (o_icmpNo X_138 hq at_259 (teq (((((own_law_2 (own_draw p1) (own_draw p2) (own_draw p3) (own_draw p4) (own_draw p5) (own_drb p1) (own_drb p2) (own_drb p3) (own_drb p4) (own_drb p5)).trans (if_neg hc115__102)).trans (if_pos hc124__122)).trans (if_neg hc190__128)).trans (if_neg hc212__133))).2 (o_iconst X_138 hq 1 at_262 rfl (o_goto X_138 hq (pc' := 267) at_263 ?_))))))))
      have Kp_139 : Keep h0 T_90.heap [] := (Kp_94.trans K_90 (allS (Or.inr sz_89) all0))
      have Ks_140 := (Nat.le_trans (Nat.le_trans (Nat.le_trans (Nat.le_trans (Nat.le_trans (Nat.le_refl h0.size) E_78.1) (Keep.of_wr W_82).1) (Keep.of_wr W_86).1) E_89.1) K_90.1)
      exact e_ZW X_138 hS0 e_138 Ks_140 hq hlk hrt at_267 ⟨rfl, N_138, Kp_139⟩
   ·refine o_icmpYes X_95 hq (pc' := 131) at_124 (feq hc124__122).2 (o_iconst X_95 hq 0 at_131 rfl (o_istore X_95 hq at_132 (l' := #[iv p1, iv p2, iv p3, iv p4, iv p5, iv p6, iv 2, rv b_78, rv b_89, iv (own_isn_2 (own_f5 (own_draw p1) (own_draw p2) (own_draw p3) (own_draw p4) (own_draw p5))), iv 0, .unset, .unset]) rfl (o_aload X_95 hq at_134 rfl rfl (o_iload X_95 hq at_136 rfl (o_iconst X_95 hq 0 at_138 rfl ?_)))))
    refine c_S3 X_95 hq e_95 hZ hown hml (k0_25 hw) (rmpti hw b_78 (0 : Int32) (0 : Int32) k_78 (2 : Int32) [(.int (own_draw p1)), (.int (own_draw p2))] (.int (0 : Int32)) (own_draw p1) T_90.heap n0 Zs_99 Fa_100 (by decide) (by decide) (by decide) rfl) at_139 ?_ 0
    rintro T_141 L_141 _ X_141 ⟨⟨⟩, Nq_141, e_141⟩
    have N_141 := Fr.app N_95 Nq_141
    refine o_aload X_141 hq at_142 rfl rfl (o_iload X_141 hq at_144 rfl (o_iconst X_141 hq 1 at_146 rfl ?_))
    refine c_S3 X_141 hq e_141 hZ hown hml (k0_25 hw) (rmpti hw b_78 (0 : Int32) (1 : Int32) k_78 (2 : Int32) [(.int (own_draw p1)), (.int (own_draw p2))] (.int (0 : Int32)) (own_draw p2) T_90.heap n0 Zs_99 Fa_100 (by decide) (by decide) (by decide) rfl) at_147 ?_ 1
    rintro T_142 L_142 _ X_142 ⟨⟨⟩, Nq_142, e_142⟩
    have N_142 := Fr.app N_141 Nq_142
    refine o_iadd X_142 hq at_150 (o_aload X_142 hq at_151 rfl rfl (o_iload X_142 hq at_153 rfl (o_iconst X_142 hq 2 at_155 rfl ?_)))
    refine c_S3 X_142 hq e_142 hZ hown hml (k0_25 hw) (rmpointo hw b_78 (0 : Int32) (2 : Int32) k_78 (2 : Int32) [(.int (own_draw p1)), (.int (own_draw p2))] (.int (0 : Int32)) T_90.heap n0 Zs_99 Fa_100 (by decide)) at_156 ?_ 1
    rintro T_143 L_143 _ X_143 ⟨⟨⟩, Nq_143, e_143⟩
    have N_143 := Fr.app N_142 Nq_143
    refine o_iadd X_143 hq at_159 (o_aload X_143 hq at_160 rfl rfl (o_iload X_143 hq at_162 rfl (o_iconst X_143 hq 3 at_164 rfl ?_)))
    refine c_S3 X_143 hq e_143 hZ hown hml (k0_25 hw) (rmpointo hw b_78 (0 : Int32) (3 : Int32) k_78 (2 : Int32) [(.int (own_draw p1)), (.int (own_draw p2))] (.int (0 : Int32)) T_90.heap n0 Zs_99 Fa_100 (by decide)) at_165 ?_ 1
    rintro T_144 L_144 _ X_144 ⟨⟨⟩, Nq_144, e_144⟩
    have N_144 := Fr.app N_143 Nq_144
    refine o_iadd X_144 hq at_168 (o_aload X_144 hq at_169 rfl rfl (o_iload X_144 hq at_171 rfl (o_iconst X_144 hq 4 at_173 rfl ?_)))
    refine c_S3 X_144 hq e_144 hZ hown hml (k0_25 hw) (rmpointo hw b_78 (0 : Int32) (4 : Int32) k_78 (2 : Int32) [(.int (own_draw p1)), (.int (own_draw p2))] (.int (0 : Int32)) T_90.heap n0 Zs_99 Fa_100 (by decide)) at_174 ?_ 1
    rintro T_145 L_145 _ X_145 ⟨⟨⟩, Nq_145, e_145⟩
    have N_145 := Fr.app N_144 Nq_145
    refine o_iadd X_145 hq at_177 (o_istore X_145 hq at_178 (l' := #[iv p1, iv p2, iv p3, iv p4, iv p5, iv p6, iv 2, rv b_78, rv b_89, iv (own_isn_2 (own_f5 (own_draw p1) (own_draw p2) (own_draw p3) (own_draw p4) (own_draw p5))), iv 0, iv (((((own_pt (own_draw p1)) + (own_pt (own_draw p2))) + (0 : Int32)) + (0 : Int32)) + (0 : Int32)), .unset]) rfl (o_iload X_145 hq at_180 rfl (o_iload X_145 hq at_182 rfl (o_icmpNo X_145 hq at_184 (by decide) (o_iload X_145 hq at_187 rfl (o_iconst X_145 hq 1 at_189 rfl ?_))))))
    by_cases hc190__146 : (1 : Int32) < (((((own_pt (own_draw p1)) + (own_pt (own_draw p2))) + (0 : Int32)) + (0 : Int32)) + (0 : Int32))
    ·refine o_icmpYes X_145 hq (pc' := 252) at_190 (tlt hc190__146).2.2.1 (o_iconst X_145 hq 0 at_252 rfl (o_istore X_145 hq at_253 (l' := #[iv p1, iv p2, iv p3, iv p4, iv p5, iv p6, iv 2, rv b_78, rv b_89, iv (own_isn_2 (own_f5 (own_draw p1) (own_draw p2) (own_draw p3) (own_draw p4) (own_draw p5))), iv 0, iv (((((own_pt (own_draw p1)) + (own_pt (own_draw p2))) + (0 : Int32)) + (0 : Int32)) + (0 : Int32)), iv 0]) rfl (o_iload X_145 hq at_255 rfl (o_iload X_145 hq at_257 rfl (o_icmpNo X_145 hq at_259 (teq ((((own_law_2 (own_draw p1) (own_draw p2) (own_draw p3) (own_draw p4) (own_draw p5) (own_drb p1) (own_drb p2) (own_drb p3) (own_drb p4) (own_drb p5)).trans (if_neg hc115__102)).trans (if_neg hc124__122)).trans (if_pos hc190__146))).2 (o_iconst X_145 hq 1 at_262 rfl (o_goto X_145 hq (pc' := 267) at_263 ?_)))))))
     have Kp_147 : Keep h0 T_90.heap [] := (Kp_94.trans K_90 (allS (Or.inr sz_89) all0))
     have Ks_148 := (Nat.le_trans (Nat.le_trans (Nat.le_trans (Nat.le_trans (Nat.le_trans (Nat.le_refl h0.size) E_78.1) (Keep.of_wr W_82).1) (Keep.of_wr W_86).1) E_89.1) K_90.1)
     exact e_ZW X_145 hS0 e_145 Ks_148 hq hlk hrt at_267 ⟨rfl, N_145, Kp_147⟩
    ·refine o_icmpNo X_145 hq at_190 (flt hc190__146).2.2.1 (o_aload X_145 hq at_193 rfl rfl (o_iload X_145 hq at_195 rfl (o_iconst X_145 hq 0 at_197 rfl ?_)))
     refine c_S3 X_145 hq e_145 hZ hown hml (k0_29 hw) (rmgdlo hw b_78 (0 : Int32) (0 : Int32) k_78 (2 : Int32) [(.int (own_draw p1)), (.int (own_draw p2))] (.int (0 : Int32)) (own_draw p1) T_90.heap n0 Zs_99 Fa_100 (by decide) (by decide) (by decide) rfl (by decide)) at_198 ?_ 0
     rintro T_149 L_149 _ X_149 ⟨⟨⟩, Nq_149, e_149⟩
     have N_149 := Fr.app N_145 Nq_149
     by_cases hc201__150 : (own_gd_lo (own_draw p1)) = (0 : Int32)
     ·refine o_ifYes X_149 hq (pc' := 252) at_201 (teq hc201__150).1 (o_iconst X_149 hq 0 at_252 rfl (o_istore X_149 hq at_253 (l' := #[iv p1, iv p2, iv p3, iv p4, iv p5, iv p6, iv 2, rv b_78, rv b_89, iv (own_isn_2 (own_f5 (own_draw p1) (own_draw p2) (own_draw p3) (own_draw p4) (own_draw p5))), iv 0, iv (((((own_pt (own_draw p1)) + (own_pt (own_draw p2))) + (0 : Int32)) + (0 : Int32)) + (0 : Int32)), iv 0]) rfl (o_iload X_149 hq at_255 rfl (o_iload X_149 hq at_257 rfl (o_icmpNo X_149 hq at_259 (teq (((((own_law_2 (own_draw p1) (own_draw p2) (own_draw p3) (own_draw p4) (own_draw p5) (own_drb p1) (own_drb p2) (own_drb p3) (own_drb p4) (own_drb p5)).trans (if_neg hc115__102)).trans (if_neg hc124__122)).trans (if_neg hc190__146)).trans (if_pos hc201__150))).2 (o_iconst X_149 hq 1 at_262 rfl (o_goto X_149 hq (pc' := 267) at_263 ?_)))))))
      have Kp_151 : Keep h0 T_90.heap [] := (Kp_94.trans K_90 (allS (Or.inr sz_89) all0))
      have Ks_152 := (Nat.le_trans (Nat.le_trans (Nat.le_trans (Nat.le_trans (Nat.le_trans (Nat.le_refl h0.size) E_78.1) (Keep.of_wr W_82).1) (Keep.of_wr W_86).1) E_89.1) K_90.1)
      exact e_ZW X_149 hS0 e_149 Ks_152 hq hlk hrt at_267 ⟨rfl, N_149, Kp_151⟩
     ·refine o_ifNo X_149 hq at_201 (feq hc201__150).1 (o_aload X_149 hq at_204 rfl rfl (o_iload X_149 hq at_206 rfl (o_iconst X_149 hq 1 at_208 rfl ?_)))
      refine c_S3 X_149 hq e_149 hZ hown hml (k0_29 hw) (rmgdhi hw b_78 (0 : Int32) (1 : Int32) k_78 (2 : Int32) [(.int (own_draw p1)), (.int (own_draw p2))] (.int (0 : Int32)) (own_draw p2) T_90.heap n0 Zs_99 Fa_100 (by decide) (by decide) (by decide) rfl (by decide) (by decide)) at_209 ?_ 0
      rintro T_153 L_153 _ X_153 ⟨⟨⟩, Nq_153, e_153⟩
      have N_153 := Fr.app N_149 Nq_153
      by_cases hc212__154 : (own_gd_hi (own_draw p2)) = (0 : Int32)
      ·refine o_ifYes X_153 hq (pc' := 252) at_212 (teq hc212__154).1 (o_iconst X_153 hq 0 at_252 rfl (o_istore X_153 hq at_253 (l' := #[iv p1, iv p2, iv p3, iv p4, iv p5, iv p6, iv 2, rv b_78, rv b_89, iv (own_isn_2 (own_f5 (own_draw p1) (own_draw p2) (own_draw p3) (own_draw p4) (own_draw p5))), iv 0, iv (((((own_pt (own_draw p1)) + (own_pt (own_draw p2))) + (0 : Int32)) + (0 : Int32)) + (0 : Int32)), iv 0]) rfl (o_iload X_153 hq at_255 rfl (o_iload X_153 hq at_257 rfl (o_icmpNo X_153 hq at_259 (teq ((((((own_law_2 (own_draw p1) (own_draw p2) (own_draw p3) (own_draw p4) (own_draw p5) (own_drb p1) (own_drb p2) (own_drb p3) (own_drb p4) (own_drb p5)).trans (if_neg hc115__102)).trans (if_neg hc124__122)).trans (if_neg hc190__146)).trans (if_neg hc201__150)).trans (if_pos hc212__154))).2 (o_iconst X_153 hq 1 at_262 rfl (o_goto X_153 hq (pc' := 267) at_263 ?_)))))))
       have Kp_155 : Keep h0 T_90.heap [] := (Kp_94.trans K_90 (allS (Or.inr sz_89) all0))
       have Ks_156 := (Nat.le_trans (Nat.le_trans (Nat.le_trans (Nat.le_trans (Nat.le_trans (Nat.le_refl h0.size) E_78.1) (Keep.of_wr W_82).1) (Keep.of_wr W_86).1) E_89.1) K_90.1)
       exact e_ZW X_153 hS0 e_153 Ks_156 hq hlk hrt at_267 ⟨rfl, N_153, Kp_155⟩
      ·refine o_ifNo X_153 hq at_212 (feq hc212__154).1 (o_aload X_153 hq at_215 rfl rfl (o_iload X_153 hq at_217 rfl (o_iconst X_153 hq 2 at_219 rfl ?_)))
       refine c_S3 X_153 hq e_153 hZ hown hml (k0_29 hw) (rmgoodo hw b_78 (0 : Int32) (2 : Int32) k_78 (2 : Int32) [(.int (own_draw p1)), (.int (own_draw p2))] (.int (0 : Int32)) T_90.heap n0 Zs_99 Fa_100 (by decide)) at_220 ?_ 0
       rintro T_157 L_157 _ X_157 ⟨⟨⟩, Nq_157, e_157⟩
       have N_157 := Fr.app N_153 Nq_157
       refine o_ifNo X_157 hq at_223 (by decide) (o_aload X_157 hq at_226 rfl rfl (o_iload X_157 hq at_228 rfl (o_iconst X_157 hq 3 at_230 rfl ?_)))
       refine c_S3 X_157 hq e_157 hZ hown hml (k0_29 hw) (rmgoodo hw b_78 (0 : Int32) (3 : Int32) k_78 (2 : Int32) [(.int (own_draw p1)), (.int (own_draw p2))] (.int (0 : Int32)) T_90.heap n0 Zs_99 Fa_100 (by decide)) at_231 ?_ 0
       rintro T_158 L_158 _ X_158 ⟨⟨⟩, Nq_158, e_158⟩
       have N_158 := Fr.app N_157 Nq_158
       refine o_ifNo X_158 hq at_234 (by decide) (o_aload X_158 hq at_237 rfl rfl (o_iload X_158 hq at_239 rfl (o_iconst X_158 hq 4 at_241 rfl ?_)))
       refine c_S3 X_158 hq e_158 hZ hown hml (k0_29 hw) (rmgoodo hw b_78 (0 : Int32) (4 : Int32) k_78 (2 : Int32) [(.int (own_draw p1)), (.int (own_draw p2))] (.int (0 : Int32)) T_90.heap n0 Zs_99 Fa_100 (by decide)) at_242 ?_ 0
       rintro T_159 L_159 _ X_159 ⟨⟨⟩, Nq_159, e_159⟩
       have N_159 := Fr.app N_158 Nq_159
       refine o_ifNo X_159 hq at_245 (by decide) (o_iconst X_159 hq 1 at_248 rfl (o_goto X_159 hq (pc' := 253) at_249 (o_istore X_159 hq at_253 (l' := #[iv p1, iv p2, iv p3, iv p4, iv p5, iv p6, iv 2, rv b_78, rv b_89, iv (own_isn_2 (own_f5 (own_draw p1) (own_draw p2) (own_draw p3) (own_draw p4) (own_draw p5))), iv 0, iv (((((own_pt (own_draw p1)) + (own_pt (own_draw p2))) + (0 : Int32)) + (0 : Int32)) + (0 : Int32)), iv 1]) rfl (o_iload X_159 hq at_255 rfl (o_iload X_159 hq at_257 rfl (o_icmpNo X_159 hq at_259 (teq ((((((own_law_2 (own_draw p1) (own_draw p2) (own_draw p3) (own_draw p4) (own_draw p5) (own_drb p1) (own_drb p2) (own_drb p3) (own_drb p4) (own_drb p5)).trans (if_neg hc115__102)).trans (if_neg hc124__122)).trans (if_neg hc190__146)).trans (if_neg hc201__150)).trans (if_neg hc212__154))).2 (o_iconst X_159 hq 1 at_262 rfl (o_goto X_159 hq (pc' := 267) at_263 ?_))))))))
       have Kp_160 : Keep h0 T_90.heap [] := (Kp_94.trans K_90 (allS (Or.inr sz_89) all0))
       have Ks_161 := (Nat.le_trans (Nat.le_trans (Nat.le_trans (Nat.le_trans (Nat.le_trans (Nat.le_refl h0.size) E_78.1) (Keep.of_wr W_82).1) (Keep.of_wr W_86).1) E_89.1) K_90.1)
       exact e_ZW X_159 hS0 e_159 Ks_161 hq hlk hrt at_267 ⟨rfl, N_159, Kp_160⟩
 ·rw [hL]
  show own_Go _ _ _ _ (s₁.setTop (mkF m 10 #[iv p1, iv p2, iv p3, iv p4, iv p5, iv p6, iv 3, .unset, .unset, .unset, .unset, .unset, .unset] []))
  refine o_iload X0 hq at_10 rfl ?_
  obtain ⟨T_162, h_162, k_162, X_162, e_162, E_162, A_162, st_162⟩ := newP X0 hx hZ (w_ hw 1 rfl) e0 (g := (mkF m 12 #[iv p1, iv p2, iv p3, iv p4, iv p5, iv p6, iv 3, .unset, .unset, .unset, .unset, .unset, .unset] [(.int 3)])) rfl (hb hby at_12) rfl (by decide) (cap := 3) (by decide) (by decide) (by decide) (by decide)
  obtain ⟨b_162, g_162⟩ : ∃ z, z = h0.size := ⟨_, rfl⟩
  rw [← g_162] at A_162 st_162
  have V_162 : Arv Z h_162 b_162 k_162 .char (3 : Int32) [(.int (0 : Int32)), (.int (0 : Int32)), (.int (0 : Int32))] (.int (0 : Int32)) := (Arv.new A_162 (by decide)).pad (pad_rep [] (.int (0 : Int32)) 3)
  have gg_162 : n0 ≤ b_162 := Nat.le_trans Z0 (Nat.le_of_eq g_162.symm)
  have sz_162 : h0.size ≤ b_162 := Nat.le_trans (Keep.refl h0 []).1 (Nat.le_of_eq g_162.symm)
  refine own_st st_162 ?_
  show own_Go _ _ _ _ (T_162.setTop (mkF m 14 #[iv p1, iv p2, iv p3, iv p4, iv p5, iv p6, iv 3, .unset, .unset, .unset, .unset, .unset, .unset] [(.ref b_162)]))
  refine o_astore X_162 hq at_14 rfl (l' := #[iv p1, iv p2, iv p3, iv p4, iv p5, iv p6, iv 3, rv b_162, .unset, .unset, .unset, .unset, .unset]) rfl (o_iload X_162 hq at_16 rfl (o_ifNo X_162 hq at_18 (by decide) (o_aload X_162 hq at_21 rfl rfl (o_iconst X_162 hq 0 at_23 rfl (o_iloadN X_162 hq at_24 rfl ?_)))))
  have Zs_164 : n0 ≤ h_162.size := (Nat.le_trans Z0 E_162.1)
  refine c_S1 X_162 hq e_162 hZ hown hml (k0_8 hw) (rm1 hw p1  h_162 n0 Zs_164) at_25 ?_ 2
  rintro T_163 L_163 _ X_163 ⟨⟨⟩, Nq_163, e_163⟩
  have N_163 := Fr.app N0 Nq_163
  obtain ⟨cl_165, Ar_165, qk_165, Sz_165, Ng_165, Hs_165, Gs_165⟩ := id V_162
  obtain ⟨T_166, h_166, X_166, e_166, W_166, st_166⟩ := stC X_163 hx hZ e_163 Ar_165 (j := (0 : Int32)) (inb_of Sz_165 ⟨by decide, by decide⟩) (g := (mkF m 28 #[iv p1, iv p2, iv p3, iv p4, iv p5, iv p6, iv 3, rv b_162, .unset, .unset, .unset, .unset, .unset] [(.int (own_draw p1)), (.int 0), (.ref b_162)])) rfl rfl (hb hby at_28)
  refine own_st st_166 ?_
  have V_166 : Arv Z h_166 b_162 k_162 .char (3 : Int32) [(.int (own_draw p1)), (.int (0 : Int32)), (.int (0 : Int32))] (.int (0 : Int32)) := by have q := Arv.set Ar_165 qk_165 Sz_165 Ng_165 Hs_165 Gs_165 (fits_nar_char _) W_166 0 rfl (Nat.le_of_ble_eq_true rfl); rw [own_drn] at q; exact q
  have N_166 := Fr.snoc X_166 N_163 gg_162
  show own_Go _ _ _ _ (T_166.setTop (mkF m 29 #[iv p1, iv p2, iv p3, iv p4, iv p5, iv p6, iv 3, rv b_162, .unset, .unset, .unset, .unset, .unset] []))
  refine o_iload X_166 hq at_29 rfl (o_iconst X_166 hq 1 at_31 rfl (o_icmpNo X_166 hq at_32 (by decide) (o_aload X_166 hq at_35 rfl rfl (o_iconst X_166 hq 1 at_37 rfl (o_iloadN X_166 hq at_38 rfl ?_)))))
  have Zs_168 : n0 ≤ h_166.size := (Nat.le_trans Zs_164 (Keep.of_wr W_166).1)
  refine c_S1 X_166 hq e_166 hZ hown hml (k0_8 hw) (rm1 hw p2  h_166 n0 Zs_168) at_39 ?_ 2
  rintro T_167 L_167 _ X_167 ⟨⟨⟩, Nq_167, e_167⟩
  have N_167 := Fr.app N_166 Nq_167
  obtain ⟨cl_169, Ar_169, qk_169, Sz_169, Ng_169, Hs_169, Gs_169⟩ := id V_166
  obtain ⟨T_170, h_170, X_170, e_170, W_170, st_170⟩ := stC X_167 hx hZ e_167 Ar_169 (j := (1 : Int32)) (inb_of Sz_169 ⟨by decide, by decide⟩) (g := (mkF m 42 #[iv p1, iv p2, iv p3, iv p4, iv p5, iv p6, iv 3, rv b_162, .unset, .unset, .unset, .unset, .unset] [(.int (own_draw p2)), (.int 1), (.ref b_162)])) rfl rfl (hb hby at_42)
  refine own_st st_170 ?_
  have V_170 : Arv Z h_170 b_162 k_162 .char (3 : Int32) [(.int (own_draw p1)), (.int (own_draw p2)), (.int (0 : Int32))] (.int (0 : Int32)) := by have q := Arv.set Ar_169 qk_169 Sz_169 Ng_169 Hs_169 Gs_169 (fits_nar_char _) W_170 1 rfl (Nat.le_of_ble_eq_true rfl); rw [own_drn] at q; exact q
  have N_170 := Fr.snoc X_170 N_167 gg_162
  show own_Go _ _ _ _ (T_170.setTop (mkF m 43 #[iv p1, iv p2, iv p3, iv p4, iv p5, iv p6, iv 3, rv b_162, .unset, .unset, .unset, .unset, .unset] []))
  refine o_iload X_170 hq at_43 rfl (o_iconst X_170 hq 2 at_45 rfl (o_icmpNo X_170 hq at_46 (by decide) (o_aload X_170 hq at_49 rfl rfl (o_iconst X_170 hq 2 at_51 rfl (o_iloadN X_170 hq at_52 rfl ?_)))))
  have Zs_172 : n0 ≤ h_170.size := (Nat.le_trans Zs_168 (Keep.of_wr W_170).1)
  refine c_S1 X_170 hq e_170 hZ hown hml (k0_8 hw) (rm1 hw p3  h_170 n0 Zs_172) at_53 ?_ 2
  rintro T_171 L_171 _ X_171 ⟨⟨⟩, Nq_171, e_171⟩
  have N_171 := Fr.app N_170 Nq_171
  obtain ⟨cl_173, Ar_173, qk_173, Sz_173, Ng_173, Hs_173, Gs_173⟩ := id V_170
  obtain ⟨T_174, h_174, X_174, e_174, W_174, st_174⟩ := stC X_171 hx hZ e_171 Ar_173 (j := (2 : Int32)) (inb_of Sz_173 ⟨by decide, by decide⟩) (g := (mkF m 56 #[iv p1, iv p2, iv p3, iv p4, iv p5, iv p6, iv 3, rv b_162, .unset, .unset, .unset, .unset, .unset] [(.int (own_draw p3)), (.int 2), (.ref b_162)])) rfl rfl (hb hby at_56)
  refine own_st st_174 ?_
  have V_174 : Arv Z h_174 b_162 k_162 .char (3 : Int32) [(.int (own_draw p1)), (.int (own_draw p2)), (.int (own_draw p3))] (.int (0 : Int32)) := by have q := Arv.set Ar_173 qk_173 Sz_173 Ng_173 Hs_173 Gs_173 (fits_nar_char _) W_174 2 rfl (Nat.le_of_ble_eq_true rfl); rw [own_drn] at q; exact q
  have N_174 := Fr.snoc X_174 N_171 gg_162
  show own_Go _ _ _ _ (T_174.setTop (mkF m 57 #[iv p1, iv p2, iv p3, iv p4, iv p5, iv p6, iv 3, rv b_162, .unset, .unset, .unset, .unset, .unset] []))
  refine o_iload X_174 hq at_57 rfl (o_iconst X_174 hq 3 at_59 rfl (o_icmpYes X_174 hq (pc' := 71) at_60 (by decide) (o_iload X_174 hq at_71 rfl (o_iconst X_174 hq 4 at_73 rfl (o_icmpYes X_174 hq (pc' := 86) at_74 (by decide) ?_)))))
  have Zs_175 : n0 ≤ h_174.size := (Nat.le_trans Zs_172 (Keep.of_wr W_174).1)
  have Kp_176 : Keep h0 h_174 [] := (((((Keep.refl h0 []).ext E_162).wr W_166 (Or.inr sz_162)).wr W_170 (Or.inr sz_162)).wr W_174 (Or.inr sz_162))
  obtain ⟨T_177, h_177, X_177, e_177, E_177, A_177, D_177, -, st_177⟩ := newO X_174 hx hZ hown (w_ hw 6 rfl) (w_ hw 7 rfl) (w_ hw 8 rfl) e_174 (g := (mkF m 86 #[iv p1, iv p2, iv p3, iv p4, iv p5, iv p6, iv 3, rv b_162, .unset, .unset, .unset, .unset, .unset] [])) rfl (hb hby at_86) (by decide) (by decide)
  obtain ⟨b_177, g_177⟩ : ∃ z, z = h_174.size := ⟨_, rfl⟩
  rw [← g_177] at A_177 D_177 st_177
  have gg_177 : n0 ≤ b_177 := Nat.le_trans Zs_175 (Nat.le_of_eq g_177.symm)
  have sz_177 : h0.size ≤ b_177 := Nat.le_trans Kp_176.1 (Nat.le_of_eq g_177.symm)
  have Fi_177_coder : Fld Z h_177 b_177 "java/lang/String" "coder" "B" (.int (0 : Int32)) := D_177 (Or.inr (w_ hw 32 rfl)) (ty := .byte) (by decide)
  have Fi_177_value : Fld Z h_177 b_177 "java/lang/String" "value" "[B" .null := D_177 (Or.inr (w_ hw 34 rfl)) (ty := (.array .byte)) (by decide)
  refine own_st st_177 ?_
  show own_Go _ _ _ _ (T_177.setTop (mkF m 89 #[iv p1, iv p2, iv p3, iv p4, iv p5, iv p6, iv 3, rv b_162, .unset, .unset, .unset, .unset, .unset] [(.ref b_177)]))
  refine o_dup X_177 hq at_89 rfl (o_aload X_177 hq at_90 rfl rfl ?_)
  have Fa_179 := (V_174.ext E_177)
  have Fa_180 := (((((S1.ext E_162).wr W_166).wr W_170).wr W_174).ext E_177)
  have Zs_181 : n0 ≤ h_177.size := (Nat.le_trans Zs_175 E_177.1)
  refine c_I1v X_177 hq e_177 hZ hown hml (k0_16 hw) (rmiA3 hw b_177 b_162 k_162 (.int (0 : Int32)) w (own_draw p1) (own_draw p2) (own_draw p3) h_177 n0 Zs_181 A_177 gg_177 Fi_177_value Fi_177_coder Fa_179 (own_drb _).1 (own_drb _).1 (own_drb _).1 Fa_180 hw0) at_92 ?_ 1
  rintro T_178 L_178 X_178 ⟨b__178, kb__178, -, Nq_178, K_178, gq_178_b, sq_178_b, Fq_178_0, Fq_178_1, Fq_178_2⟩
  have N_178 := Fr.app N_174 Nq_178
  have Kp_182 : Keep h0 h_177 [] := (Kp_176.ext E_177)
  have szq_178_b : h0.size ≤ b__178 := Nat.le_trans Kp_182.1 sq_178_b
  refine o_astore X_178 hq at_95 rfl (l' := #[iv p1, iv p2, iv p3, iv p4, iv p5, iv p6, iv 3, rv b_162, rv b_177, .unset, .unset, .unset, .unset]) rfl (o_aload X_178 hq at_97 rfl rfl ?_)
  have Fa_184 := (A_177.keep K_178)
  have Fa_185 := (own_Sta_keep Fa_180 K_178 (nsS (A_177.nostat) ns0))
  have Fa_186 := (own_Sta_keep (((((S2.ext E_162).wr W_166).wr W_170).wr W_174).ext E_177) K_178 (nsS (A_177.nostat) ns0))
  have Zs_187 : n0 ≤ T_178.heap.size := (Nat.le_trans Zs_181 K_178.1)
  refine c_S1 X_178 hq rfl hZ hown hml (k0_19 hw) (rmisn3 hw b_177 b__178 kb__178 [(.int (((own_draw p1).toInt8.toInt32).toInt8.toInt32)), (.int (((own_draw p2).toInt8.toInt32).toInt8.toInt32)), (.int (((own_draw p3).toInt8.toInt32).toInt8.toInt32))] (.int (0 : Int32)) w sfv (own_f5 (own_draw p1) (own_draw p2) (own_draw p3) (own_draw p4) (own_draw p5)) T_178.heap n0 Zs_187 Fa_184 Fq_178_0 Fq_178_1 Fq_178_2 Fa_185 hw0 (own_fat3 _ _ _ _ _) (own_fbd (own_drb p1) (own_drb p2) (own_drb p3) (own_drb p4) (own_drb p5)) Fa_186 hsf) at_99 ?_ 0
  rintro T_183 L_183 _ X_183 ⟨⟨⟩, Nq_183, e_183⟩
  have N_183 := Fr.app N_178 Nq_183
  refine o_istore X_183 hq at_102 (l' := #[iv p1, iv p2, iv p3, iv p4, iv p5, iv p6, iv 3, rv b_162, rv b_177, iv (own_isn_3 (own_f5 (own_draw p1) (own_draw p2) (own_draw p3) (own_draw p4) (own_draw p5))), .unset, .unset, .unset]) rfl (o_iload X_183 hq at_104 rfl (o_ifNo X_183 hq at_106 (by decide) (o_aload X_183 hq at_109 rfl rfl (o_iconst X_183 hq 0 at_111 rfl ?_))))
  have Fa_188 := (Fa_179.keep K_178 (ninS (Nat.ne_of_lt (Nat.lt_of_lt_of_le V_174.lt (Nat.le_of_eq g_177.symm))) nin0))
  obtain ⟨cl_189, Ar_189, qk_189, Sz_189, Ng_189, Hs_189, Gs_189⟩ := id Fa_188
  refine own_st (X_183.caload hx (j := (0 : Int32)) (v := (.int (own_draw p1))) (by rw [e_183]; exact Ar_189.1) (State.isArrayOf_alike hZ.alike Ar_189.2.1) Ar_189.2.2 (inb_of Sz_189 ⟨by decide, by decide⟩) (Hs_189.at (j := (0 : Int32)) (inb_of Sz_189 ⟨by decide, by decide⟩) rfl) (g := (mkF m 112 #[iv p1, iv p2, iv p3, iv p4, iv p5, iv p6, iv 3, rv b_162, rv b_177, iv (own_isn_3 (own_f5 (own_draw p1) (own_draw p2) (own_draw p3) (own_draw p4) (own_draw p5))), .unset, .unset, .unset] [(.int 0), (.ref b_162)])) rfl rfl (hb hby at_112)) ?_
  show own_Go _ _ _ _ (T_183.setTop (mkF m 113 #[iv p1, iv p2, iv p3, iv p4, iv p5, iv p6, iv 3, rv b_162, rv b_177, iv (own_isn_3 (own_f5 (own_draw p1) (own_draw p2) (own_draw p3) (own_draw p4) (own_draw p5))), .unset, .unset, .unset] [(.int (own_draw p1))]))
  refine o_bipush X_183 hq 43 at_113 rfl ?_
  by_cases hc115__190 : (own_draw p1) = (43 : Int32)
  ·refine o_icmpYes X_183 hq (pc' := 127) at_115 (teq hc115__190).1 (o_iconst X_183 hq 1 at_127 rfl (o_goto X_183 hq (pc' := 132) at_128 (o_istore X_183 hq at_132 (l' := #[iv p1, iv p2, iv p3, iv p4, iv p5, iv p6, iv 3, rv b_162, rv b_177, iv (own_isn_3 (own_f5 (own_draw p1) (own_draw p2) (own_draw p3) (own_draw p4) (own_draw p5))), iv 1, .unset, .unset]) rfl (o_aload X_183 hq at_134 rfl rfl (o_iload X_183 hq at_136 rfl (o_iconst X_183 hq 0 at_138 rfl ?_))))))
   refine c_S3 X_183 hq e_183 hZ hown hml (k0_25 hw) (rmpointb hw b_162 (1 : Int32) (0 : Int32) k_162 (3 : Int32) [(.int (own_draw p1)), (.int (own_draw p2)), (.int (own_draw p3))] (.int (0 : Int32)) T_178.heap n0 Zs_187 Fa_188 (by decide) (by decide)) at_139 ?_ 0
   rintro T_191 L_191 _ X_191 ⟨⟨⟩, Nq_191, e_191⟩
   have N_191 := Fr.app N_183 Nq_191
   refine o_aload X_191 hq at_142 rfl rfl (o_iload X_191 hq at_144 rfl (o_iconst X_191 hq 1 at_146 rfl ?_))
   refine c_S3 X_191 hq e_191 hZ hown hml (k0_25 hw) (rmpti hw b_162 (1 : Int32) (1 : Int32) k_162 (3 : Int32) [(.int (own_draw p1)), (.int (own_draw p2)), (.int (own_draw p3))] (.int (0 : Int32)) (own_draw p2) T_178.heap n0 Zs_187 Fa_188 (by decide) (by decide) (by decide) rfl) at_147 ?_ 1
   rintro T_192 L_192 _ X_192 ⟨⟨⟩, Nq_192, e_192⟩
   have N_192 := Fr.app N_191 Nq_192
   refine o_iadd X_192 hq at_150 (o_aload X_192 hq at_151 rfl rfl (o_iload X_192 hq at_153 rfl (o_iconst X_192 hq 2 at_155 rfl ?_)))
   refine c_S3 X_192 hq e_192 hZ hown hml (k0_25 hw) (rmpti hw b_162 (1 : Int32) (2 : Int32) k_162 (3 : Int32) [(.int (own_draw p1)), (.int (own_draw p2)), (.int (own_draw p3))] (.int (0 : Int32)) (own_draw p3) T_178.heap n0 Zs_187 Fa_188 (by decide) (by decide) (by decide) rfl) at_156 ?_ 1
   rintro T_193 L_193 _ X_193 ⟨⟨⟩, Nq_193, e_193⟩
   have N_193 := Fr.app N_192 Nq_193
   refine o_iadd X_193 hq at_159 (o_aload X_193 hq at_160 rfl rfl (o_iload X_193 hq at_162 rfl (o_iconst X_193 hq 3 at_164 rfl ?_)))
   refine c_S3 X_193 hq e_193 hZ hown hml (k0_25 hw) (rmpointo hw b_162 (1 : Int32) (3 : Int32) k_162 (3 : Int32) [(.int (own_draw p1)), (.int (own_draw p2)), (.int (own_draw p3))] (.int (0 : Int32)) T_178.heap n0 Zs_187 Fa_188 (by decide)) at_165 ?_ 1
   rintro T_194 L_194 _ X_194 ⟨⟨⟩, Nq_194, e_194⟩
   have N_194 := Fr.app N_193 Nq_194
   refine o_iadd X_194 hq at_168 (o_aload X_194 hq at_169 rfl rfl (o_iload X_194 hq at_171 rfl (o_iconst X_194 hq 4 at_173 rfl ?_)))
   refine c_S3 X_194 hq e_194 hZ hown hml (k0_25 hw) (rmpointo hw b_162 (1 : Int32) (4 : Int32) k_162 (3 : Int32) [(.int (own_draw p1)), (.int (own_draw p2)), (.int (own_draw p3))] (.int (0 : Int32)) T_178.heap n0 Zs_187 Fa_188 (by decide)) at_174 ?_ 1
   rintro T_195 L_195 _ X_195 ⟨⟨⟩, Nq_195, e_195⟩
   have N_195 := Fr.app N_194 Nq_195
   refine o_iadd X_195 hq at_177 (o_istore X_195 hq at_178 (l' := #[iv p1, iv p2, iv p3, iv p4, iv p5, iv p6, iv 3, rv b_162, rv b_177, iv (own_isn_3 (own_f5 (own_draw p1) (own_draw p2) (own_draw p3) (own_draw p4) (own_draw p5))), iv 1, iv (((((0 : Int32) + (own_pt (own_draw p2))) + (own_pt (own_draw p3))) + (0 : Int32)) + (0 : Int32)), .unset]) rfl (o_iload X_195 hq at_180 rfl (o_iload X_195 hq at_182 rfl (o_icmpNo X_195 hq at_184 (by decide) (o_iload X_195 hq at_187 rfl (o_iconst X_195 hq 1 at_189 rfl ?_))))))
   by_cases hc190__196 : (1 : Int32) < (((((0 : Int32) + (own_pt (own_draw p2))) + (own_pt (own_draw p3))) + (0 : Int32)) + (0 : Int32))
   ·refine o_icmpYes X_195 hq (pc' := 252) at_190 (tlt hc190__196).2.2.1 (o_iconst X_195 hq 0 at_252 rfl (o_istore X_195 hq at_253 (l' := #[iv p1, iv p2, iv p3, iv p4, iv p5, iv p6, iv 3, rv b_162, rv b_177, iv (own_isn_3 (own_f5 (own_draw p1) (own_draw p2) (own_draw p3) (own_draw p4) (own_draw p5))), iv 1, iv (((((0 : Int32) + (own_pt (own_draw p2))) + (own_pt (own_draw p3))) + (0 : Int32)) + (0 : Int32)), iv 0]) rfl (o_iload X_195 hq at_255 rfl (o_iload X_195 hq at_257 rfl (o_icmpNo X_195 hq at_259 (teq (((own_law_3 (own_draw p1) (own_draw p2) (own_draw p3) (own_draw p4) (own_draw p5) (own_drb p1) (own_drb p2) (own_drb p3) (own_drb p4) (own_drb p5)).trans (if_pos hc115__190)).trans (if_pos hc190__196))).2 (o_iconst X_195 hq 1 at_262 rfl (o_goto X_195 hq (pc' := 267) at_263 ?_)))))))
    have Kp_197 : Keep h0 T_178.heap [] := (Kp_182.trans K_178 (allS (Or.inr sz_177) all0))
    have Ks_198 := (Nat.le_trans (Nat.le_trans (Nat.le_trans (Nat.le_trans (Nat.le_trans (Nat.le_trans (Nat.le_refl h0.size) E_162.1) (Keep.of_wr W_166).1) (Keep.of_wr W_170).1) (Keep.of_wr W_174).1) E_177.1) K_178.1)
    exact e_ZW X_195 hS0 e_195 Ks_198 hq hlk hrt at_267 ⟨rfl, N_195, Kp_197⟩
   ·refine o_icmpNo X_195 hq at_190 (flt hc190__196).2.2.1 (o_aload X_195 hq at_193 rfl rfl (o_iload X_195 hq at_195 rfl (o_iconst X_195 hq 0 at_197 rfl ?_)))
    refine c_S3 X_195 hq e_195 hZ hown hml (k0_29 hw) (rmgoodb hw b_162 (1 : Int32) (0 : Int32) k_162 (3 : Int32) [(.int (own_draw p1)), (.int (own_draw p2)), (.int (own_draw p3))] (.int (0 : Int32)) T_178.heap n0 Zs_187 Fa_188 (by decide) (by decide)) at_198 ?_ 0
    rintro T_199 L_199 _ X_199 ⟨⟨⟩, Nq_199, e_199⟩
    have N_199 := Fr.app N_195 Nq_199
    refine o_ifNo X_199 hq at_201 (by decide) (o_aload X_199 hq at_204 rfl rfl (o_iload X_199 hq at_206 rfl (o_iconst X_199 hq 1 at_208 rfl ?_)))
    refine c_S3 X_199 hq e_199 hZ hown hml (k0_29 hw) (rmgdlo hw b_162 (1 : Int32) (1 : Int32) k_162 (3 : Int32) [(.int (own_draw p1)), (.int (own_draw p2)), (.int (own_draw p3))] (.int (0 : Int32)) (own_draw p2) T_178.heap n0 Zs_187 Fa_188 (by decide) (by decide) (by decide) rfl (by decide)) at_209 ?_ 0
    rintro T_200 L_200 _ X_200 ⟨⟨⟩, Nq_200, e_200⟩
    have N_200 := Fr.app N_199 Nq_200
    by_cases hc212__201 : (own_gd_lo (own_draw p2)) = (0 : Int32)
    ·refine o_ifYes X_200 hq (pc' := 252) at_212 (teq hc212__201).1 (o_iconst X_200 hq 0 at_252 rfl (o_istore X_200 hq at_253 (l' := #[iv p1, iv p2, iv p3, iv p4, iv p5, iv p6, iv 3, rv b_162, rv b_177, iv (own_isn_3 (own_f5 (own_draw p1) (own_draw p2) (own_draw p3) (own_draw p4) (own_draw p5))), iv 1, iv (((((0 : Int32) + (own_pt (own_draw p2))) + (own_pt (own_draw p3))) + (0 : Int32)) + (0 : Int32)), iv 0]) rfl (o_iload X_200 hq at_255 rfl (o_iload X_200 hq at_257 rfl (o_icmpNo X_200 hq at_259 (teq ((((own_law_3 (own_draw p1) (own_draw p2) (own_draw p3) (own_draw p4) (own_draw p5) (own_drb p1) (own_drb p2) (own_drb p3) (own_drb p4) (own_drb p5)).trans (if_pos hc115__190)).trans (if_neg hc190__196)).trans (if_pos hc212__201))).2 (o_iconst X_200 hq 1 at_262 rfl (o_goto X_200 hq (pc' := 267) at_263 ?_)))))))
     have Kp_202 : Keep h0 T_178.heap [] := (Kp_182.trans K_178 (allS (Or.inr sz_177) all0))
     have Ks_203 := (Nat.le_trans (Nat.le_trans (Nat.le_trans (Nat.le_trans (Nat.le_trans (Nat.le_trans (Nat.le_refl h0.size) E_162.1) (Keep.of_wr W_166).1) (Keep.of_wr W_170).1) (Keep.of_wr W_174).1) E_177.1) K_178.1)
     exact e_ZW X_200 hS0 e_200 Ks_203 hq hlk hrt at_267 ⟨rfl, N_200, Kp_202⟩
    ·refine o_ifNo X_200 hq at_212 (feq hc212__201).1 (o_aload X_200 hq at_215 rfl rfl (o_iload X_200 hq at_217 rfl (o_iconst X_200 hq 2 at_219 rfl ?_)))
     refine c_S3 X_200 hq e_200 hZ hown hml (k0_29 hw) (rmgdhi hw b_162 (1 : Int32) (2 : Int32) k_162 (3 : Int32) [(.int (own_draw p1)), (.int (own_draw p2)), (.int (own_draw p3))] (.int (0 : Int32)) (own_draw p3) T_178.heap n0 Zs_187 Fa_188 (by decide) (by decide) (by decide) rfl (by decide) (by decide)) at_220 ?_ 0
     rintro T_204 L_204 _ X_204 ⟨⟨⟩, Nq_204, e_204⟩
     have N_204 := Fr.app N_200 Nq_204
     by_cases hc223__205 : (own_gd_hi (own_draw p3)) = (0 : Int32)
     ·refine o_ifYes X_204 hq (pc' := 252) at_223 (teq hc223__205).1 (o_iconst X_204 hq 0 at_252 rfl (o_istore X_204 hq at_253 (l' := #[iv p1, iv p2, iv p3, iv p4, iv p5, iv p6, iv 3, rv b_162, rv b_177, iv (own_isn_3 (own_f5 (own_draw p1) (own_draw p2) (own_draw p3) (own_draw p4) (own_draw p5))), iv 1, iv (((((0 : Int32) + (own_pt (own_draw p2))) + (own_pt (own_draw p3))) + (0 : Int32)) + (0 : Int32)), iv 0]) rfl (o_iload X_204 hq at_255 rfl (o_iload X_204 hq at_257 rfl (o_icmpNo X_204 hq at_259 (teq (((((own_law_3 (own_draw p1) (own_draw p2) (own_draw p3) (own_draw p4) (own_draw p5) (own_drb p1) (own_drb p2) (own_drb p3) (own_drb p4) (own_drb p5)).trans (if_pos hc115__190)).trans (if_neg hc190__196)).trans (if_neg hc212__201)).trans (if_pos hc223__205))).2 (o_iconst X_204 hq 1 at_262 rfl (o_goto X_204 hq (pc' := 267) at_263 ?_)))))))
      have Kp_206 : Keep h0 T_178.heap [] := (Kp_182.trans K_178 (allS (Or.inr sz_177) all0))
      have Ks_207 := (Nat.le_trans (Nat.le_trans (Nat.le_trans (Nat.le_trans (Nat.le_trans (Nat.le_trans (Nat.le_refl h0.size) E_162.1) (Keep.of_wr W_166).1) (Keep.of_wr W_170).1) (Keep.of_wr W_174).1) E_177.1) K_178.1)
      exact e_ZW X_204 hS0 e_204 Ks_207 hq hlk hrt at_267 ⟨rfl, N_204, Kp_206⟩
     ·refine o_ifNo X_204 hq at_223 (feq hc223__205).1 (o_aload X_204 hq at_226 rfl rfl (o_iload X_204 hq at_228 rfl (o_iconst X_204 hq 3 at_230 rfl ?_)))
      refine c_S3 X_204 hq e_204 hZ hown hml (k0_29 hw) (rmgoodo hw b_162 (1 : Int32) (3 : Int32) k_162 (3 : Int32) [(.int (own_draw p1)), (.int (own_draw p2)), (.int (own_draw p3))] (.int (0 : Int32)) T_178.heap n0 Zs_187 Fa_188 (by decide)) at_231 ?_ 0
      rintro T_208 L_208 _ X_208 ⟨⟨⟩, Nq_208, e_208⟩
      have N_208 := Fr.app N_204 Nq_208
      refine o_ifNo X_208 hq at_234 (by decide) (o_aload X_208 hq at_237 rfl rfl (o_iload X_208 hq at_239 rfl (o_iconst X_208 hq 4 at_241 rfl ?_)))
      refine c_S3 X_208 hq e_208 hZ hown hml (k0_29 hw) (rmgoodo hw b_162 (1 : Int32) (4 : Int32) k_162 (3 : Int32) [(.int (own_draw p1)), (.int (own_draw p2)), (.int (own_draw p3))] (.int (0 : Int32)) T_178.heap n0 Zs_187 Fa_188 (by decide)) at_242 ?_ 0
      rintro T_209 L_209 _ X_209 ⟨⟨⟩, Nq_209, e_209⟩
      have N_209 := Fr.app N_208 Nq_209
      refine o_ifNo X_209 hq at_245 (by decide) (o_iconst X_209 hq 1 at_248 rfl (o_goto X_209 hq (pc' := 253) at_249 (o_istore X_209 hq at_253 (l' := #[iv p1, iv p2, iv p3, iv p4, iv p5, iv p6, iv 3, rv b_162, rv b_177, iv (own_isn_3 (own_f5 (own_draw p1) (own_draw p2) (own_draw p3) (own_draw p4) (own_draw p5))), iv 1, iv (((((0 : Int32) + (own_pt (own_draw p2))) + (own_pt (own_draw p3))) + (0 : Int32)) + (0 : Int32)), iv 1]) rfl (o_iload X_209 hq at_255 rfl (o_iload X_209 hq at_257 rfl (o_icmpNo X_209 hq at_259 (teq (((((own_law_3 (own_draw p1) (own_draw p2) (own_draw p3) (own_draw p4) (own_draw p5) (own_drb p1) (own_drb p2) (own_drb p3) (own_drb p4) (own_drb p5)).trans (if_pos hc115__190)).trans (if_neg hc190__196)).trans (if_neg hc212__201)).trans (if_neg hc223__205))).2 (o_iconst X_209 hq 1 at_262 rfl (o_goto X_209 hq (pc' := 267) at_263 ?_))))))))
      have Kp_210 : Keep h0 T_178.heap [] := (Kp_182.trans K_178 (allS (Or.inr sz_177) all0))
      have Ks_211 := (Nat.le_trans (Nat.le_trans (Nat.le_trans (Nat.le_trans (Nat.le_trans (Nat.le_trans (Nat.le_refl h0.size) E_162.1) (Keep.of_wr W_166).1) (Keep.of_wr W_170).1) (Keep.of_wr W_174).1) E_177.1) K_178.1)
      exact e_ZW X_209 hS0 e_209 Ks_211 hq hlk hrt at_267 ⟨rfl, N_209, Kp_210⟩
  ·refine o_icmpNo X_183 hq at_115 (feq hc115__190).1 (o_aload X_183 hq at_118 rfl rfl (o_iconst X_183 hq 0 at_120 rfl ?_))
   obtain ⟨cl_212, Ar_212, qk_212, Sz_212, Ng_212, Hs_212, Gs_212⟩ := id Fa_188
   refine own_st (X_183.caload hx (j := (0 : Int32)) (v := (.int (own_draw p1))) (by rw [e_183]; exact Ar_212.1) (State.isArrayOf_alike hZ.alike Ar_212.2.1) Ar_212.2.2 (inb_of Sz_212 ⟨by decide, by decide⟩) (Hs_212.at (j := (0 : Int32)) (inb_of Sz_212 ⟨by decide, by decide⟩) rfl) (g := (mkF m 121 #[iv p1, iv p2, iv p3, iv p4, iv p5, iv p6, iv 3, rv b_162, rv b_177, iv (own_isn_3 (own_f5 (own_draw p1) (own_draw p2) (own_draw p3) (own_draw p4) (own_draw p5))), .unset, .unset, .unset] [(.int 0), (.ref b_162)])) rfl rfl (hb hby at_121)) ?_
   show own_Go _ _ _ _ (T_183.setTop (mkF m 122 #[iv p1, iv p2, iv p3, iv p4, iv p5, iv p6, iv 3, rv b_162, rv b_177, iv (own_isn_3 (own_f5 (own_draw p1) (own_draw p2) (own_draw p3) (own_draw p4) (own_draw p5))), .unset, .unset, .unset] [(.int (own_draw p1))]))
   refine o_bipush X_183 hq 45 at_122 rfl ?_
   by_cases hc124__213 : (own_draw p1) = (45 : Int32)
   ·refine o_icmpNo X_183 hq at_124 (teq hc124__213).2 (o_iconst X_183 hq 1 at_127 rfl (o_goto X_183 hq (pc' := 132) at_128 (o_istore X_183 hq at_132 (l' := #[iv p1, iv p2, iv p3, iv p4, iv p5, iv p6, iv 3, rv b_162, rv b_177, iv (own_isn_3 (own_f5 (own_draw p1) (own_draw p2) (own_draw p3) (own_draw p4) (own_draw p5))), iv 1, .unset, .unset]) rfl (o_aload X_183 hq at_134 rfl rfl (o_iload X_183 hq at_136 rfl (o_iconst X_183 hq 0 at_138 rfl ?_))))))
    refine c_S3 X_183 hq e_183 hZ hown hml (k0_25 hw) (rmpointb hw b_162 (1 : Int32) (0 : Int32) k_162 (3 : Int32) [(.int (own_draw p1)), (.int (own_draw p2)), (.int (own_draw p3))] (.int (0 : Int32)) T_178.heap n0 Zs_187 Fa_188 (by decide) (by decide)) at_139 ?_ 0
    rintro T_214 L_214 _ X_214 ⟨⟨⟩, Nq_214, e_214⟩
    have N_214 := Fr.app N_183 Nq_214
    refine o_aload X_214 hq at_142 rfl rfl (o_iload X_214 hq at_144 rfl (o_iconst X_214 hq 1 at_146 rfl ?_))
    refine c_S3 X_214 hq e_214 hZ hown hml (k0_25 hw) (rmpti hw b_162 (1 : Int32) (1 : Int32) k_162 (3 : Int32) [(.int (own_draw p1)), (.int (own_draw p2)), (.int (own_draw p3))] (.int (0 : Int32)) (own_draw p2) T_178.heap n0 Zs_187 Fa_188 (by decide) (by decide) (by decide) rfl) at_147 ?_ 1
    rintro T_215 L_215 _ X_215 ⟨⟨⟩, Nq_215, e_215⟩
    have N_215 := Fr.app N_214 Nq_215
    refine o_iadd X_215 hq at_150 (o_aload X_215 hq at_151 rfl rfl (o_iload X_215 hq at_153 rfl (o_iconst X_215 hq 2 at_155 rfl ?_)))
    refine c_S3 X_215 hq e_215 hZ hown hml (k0_25 hw) (rmpti hw b_162 (1 : Int32) (2 : Int32) k_162 (3 : Int32) [(.int (own_draw p1)), (.int (own_draw p2)), (.int (own_draw p3))] (.int (0 : Int32)) (own_draw p3) T_178.heap n0 Zs_187 Fa_188 (by decide) (by decide) (by decide) rfl) at_156 ?_ 1
    rintro T_216 L_216 _ X_216 ⟨⟨⟩, Nq_216, e_216⟩
    have N_216 := Fr.app N_215 Nq_216
    refine o_iadd X_216 hq at_159 (o_aload X_216 hq at_160 rfl rfl (o_iload X_216 hq at_162 rfl (o_iconst X_216 hq 3 at_164 rfl ?_)))
    refine c_S3 X_216 hq e_216 hZ hown hml (k0_25 hw) (rmpointo hw b_162 (1 : Int32) (3 : Int32) k_162 (3 : Int32) [(.int (own_draw p1)), (.int (own_draw p2)), (.int (own_draw p3))] (.int (0 : Int32)) T_178.heap n0 Zs_187 Fa_188 (by decide)) at_165 ?_ 1
    rintro T_217 L_217 _ X_217 ⟨⟨⟩, Nq_217, e_217⟩
    have N_217 := Fr.app N_216 Nq_217
    refine o_iadd X_217 hq at_168 (o_aload X_217 hq at_169 rfl rfl (o_iload X_217 hq at_171 rfl (o_iconst X_217 hq 4 at_173 rfl ?_)))
    refine c_S3 X_217 hq e_217 hZ hown hml (k0_25 hw) (rmpointo hw b_162 (1 : Int32) (4 : Int32) k_162 (3 : Int32) [(.int (own_draw p1)), (.int (own_draw p2)), (.int (own_draw p3))] (.int (0 : Int32)) T_178.heap n0 Zs_187 Fa_188 (by decide)) at_174 ?_ 1
    rintro T_218 L_218 _ X_218 ⟨⟨⟩, Nq_218, e_218⟩
    have N_218 := Fr.app N_217 Nq_218
    refine o_iadd X_218 hq at_177 (o_istore X_218 hq at_178 (l' := #[iv p1, iv p2, iv p3, iv p4, iv p5, iv p6, iv 3, rv b_162, rv b_177, iv (own_isn_3 (own_f5 (own_draw p1) (own_draw p2) (own_draw p3) (own_draw p4) (own_draw p5))), iv 1, iv (((((0 : Int32) + (own_pt (own_draw p2))) + (own_pt (own_draw p3))) + (0 : Int32)) + (0 : Int32)), .unset]) rfl (o_iload X_218 hq at_180 rfl (o_iload X_218 hq at_182 rfl (o_icmpNo X_218 hq at_184 (by decide) (o_iload X_218 hq at_187 rfl (o_iconst X_218 hq 1 at_189 rfl ?_))))))
    by_cases hc190__219 : (1 : Int32) < (((((0 : Int32) + (own_pt (own_draw p2))) + (own_pt (own_draw p3))) + (0 : Int32)) + (0 : Int32))
    ·refine o_icmpYes X_218 hq (pc' := 252) at_190 (tlt hc190__219).2.2.1 (o_iconst X_218 hq 0 at_252 rfl (o_istore X_218 hq at_253 (l' := #[iv p1, iv p2, iv p3, iv p4, iv p5, iv p6, iv 3, rv b_162, rv b_177, iv (own_isn_3 (own_f5 (own_draw p1) (own_draw p2) (own_draw p3) (own_draw p4) (own_draw p5))), iv 1, iv (((((0 : Int32) + (own_pt (own_draw p2))) + (own_pt (own_draw p3))) + (0 : Int32)) + (0 : Int32)), iv 0]) rfl (o_iload X_218 hq at_255 rfl (o_iload X_218 hq at_257 rfl (o_icmpNo X_218 hq at_259 (teq ((((own_law_3 (own_draw p1) (own_draw p2) (own_draw p3) (own_draw p4) (own_draw p5) (own_drb p1) (own_drb p2) (own_drb p3) (own_drb p4) (own_drb p5)).trans (if_neg hc115__190)).trans (if_pos hc124__213)).trans (if_pos hc190__219))).2 (o_iconst X_218 hq 1 at_262 rfl (o_goto X_218 hq (pc' := 267) at_263 ?_)))))))
     have Kp_220 : Keep h0 T_178.heap [] := (Kp_182.trans K_178 (allS (Or.inr sz_177) all0))
     have Ks_221 := (Nat.le_trans (Nat.le_trans (Nat.le_trans (Nat.le_trans (Nat.le_trans (Nat.le_trans (Nat.le_refl h0.size) E_162.1) (Keep.of_wr W_166).1) (Keep.of_wr W_170).1) (Keep.of_wr W_174).1) E_177.1) K_178.1)
     exact e_ZW X_218 hS0 e_218 Ks_221 hq hlk hrt at_267 ⟨rfl, N_218, Kp_220⟩
    ·refine o_icmpNo X_218 hq at_190 (flt hc190__219).2.2.1 (o_aload X_218 hq at_193 rfl rfl (o_iload X_218 hq at_195 rfl (o_iconst X_218 hq 0 at_197 rfl ?_)))
     refine c_S3 X_218 hq e_218 hZ hown hml (k0_29 hw) (rmgoodb hw b_162 (1 : Int32) (0 : Int32) k_162 (3 : Int32) [(.int (own_draw p1)), (.int (own_draw p2)), (.int (own_draw p3))] (.int (0 : Int32)) T_178.heap n0 Zs_187 Fa_188 (by decide) (by decide)) at_198 ?_ 0
     rintro T_222 L_222 _ X_222 ⟨⟨⟩, Nq_222, e_222⟩
     have N_222 := Fr.app N_218 Nq_222
     refine o_ifNo X_222 hq at_201 (by decide) (o_aload X_222 hq at_204 rfl rfl (o_iload X_222 hq at_206 rfl (o_iconst X_222 hq 1 at_208 rfl ?_)))
     refine c_S3 X_222 hq e_222 hZ hown hml (k0_29 hw) (rmgdlo hw b_162 (1 : Int32) (1 : Int32) k_162 (3 : Int32) [(.int (own_draw p1)), (.int (own_draw p2)), (.int (own_draw p3))] (.int (0 : Int32)) (own_draw p2) T_178.heap n0 Zs_187 Fa_188 (by decide) (by decide) (by decide) rfl (by decide)) at_209 ?_ 0
     rintro T_223 L_223 _ X_223 ⟨⟨⟩, Nq_223, e_223⟩
     have N_223 := Fr.app N_222 Nq_223
     by_cases hc212__224 : (own_gd_lo (own_draw p2)) = (0 : Int32)
     ·refine o_ifYes X_223 hq (pc' := 252) at_212 (teq hc212__224).1 (o_iconst X_223 hq 0 at_252 rfl (o_istore X_223 hq at_253 (l' := #[iv p1, iv p2, iv p3, iv p4, iv p5, iv p6, iv 3, rv b_162, rv b_177, iv (own_isn_3 (own_f5 (own_draw p1) (own_draw p2) (own_draw p3) (own_draw p4) (own_draw p5))), iv 1, iv (((((0 : Int32) + (own_pt (own_draw p2))) + (own_pt (own_draw p3))) + (0 : Int32)) + (0 : Int32)), iv 0]) rfl (o_iload X_223 hq at_255 rfl (o_iload X_223 hq at_257 rfl (o_icmpNo X_223 hq at_259 (teq (((((own_law_3 (own_draw p1) (own_draw p2) (own_draw p3) (own_draw p4) (own_draw p5) (own_drb p1) (own_drb p2) (own_drb p3) (own_drb p4) (own_drb p5)).trans (if_neg hc115__190)).trans (if_pos hc124__213)).trans (if_neg hc190__219)).trans (if_pos hc212__224))).2 (o_iconst X_223 hq 1 at_262 rfl (o_goto X_223 hq (pc' := 267) at_263 ?_)))))))
      have Kp_225 : Keep h0 T_178.heap [] := (Kp_182.trans K_178 (allS (Or.inr sz_177) all0))
      have Ks_226 := (Nat.le_trans (Nat.le_trans (Nat.le_trans (Nat.le_trans (Nat.le_trans (Nat.le_trans (Nat.le_refl h0.size) E_162.1) (Keep.of_wr W_166).1) (Keep.of_wr W_170).1) (Keep.of_wr W_174).1) E_177.1) K_178.1)
      exact e_ZW X_223 hS0 e_223 Ks_226 hq hlk hrt at_267 ⟨rfl, N_223, Kp_225⟩
     ·refine o_ifNo X_223 hq at_212 (feq hc212__224).1 (o_aload X_223 hq at_215 rfl rfl (o_iload X_223 hq at_217 rfl (o_iconst X_223 hq 2 at_219 rfl ?_)))
      refine c_S3 X_223 hq e_223 hZ hown hml (k0_29 hw) (rmgdhi hw b_162 (1 : Int32) (2 : Int32) k_162 (3 : Int32) [(.int (own_draw p1)), (.int (own_draw p2)), (.int (own_draw p3))] (.int (0 : Int32)) (own_draw p3) T_178.heap n0 Zs_187 Fa_188 (by decide) (by decide) (by decide) rfl (by decide) (by decide)) at_220 ?_ 0
      rintro T_227 L_227 _ X_227 ⟨⟨⟩, Nq_227, e_227⟩
      have N_227 := Fr.app N_223 Nq_227
      by_cases hc223__228 : (own_gd_hi (own_draw p3)) = (0 : Int32)
      ·refine o_ifYes X_227 hq (pc' := 252) at_223 (teq hc223__228).1 (o_iconst X_227 hq 0 at_252 rfl (o_istore X_227 hq at_253 (l' := #[iv p1, iv p2, iv p3, iv p4, iv p5, iv p6, iv 3, rv b_162, rv b_177, iv (own_isn_3 (own_f5 (own_draw p1) (own_draw p2) (own_draw p3) (own_draw p4) (own_draw p5))), iv 1, iv (((((0 : Int32) + (own_pt (own_draw p2))) + (own_pt (own_draw p3))) + (0 : Int32)) + (0 : Int32)), iv 0]) rfl (o_iload X_227 hq at_255 rfl (o_iload X_227 hq at_257 rfl (o_icmpNo X_227 hq at_259 (teq ((((((own_law_3 (own_draw p1) (own_draw p2) (own_draw p3) (own_draw p4) (own_draw p5) (own_drb p1) (own_drb p2) (own_drb p3) (own_drb p4) (own_drb p5)).trans (if_neg hc115__190)).trans (if_pos hc124__213)).trans (if_neg hc190__219)).trans (if_neg hc212__224)).trans (if_pos hc223__228))).2 (o_iconst X_227 hq 1 at_262 rfl (o_goto X_227 hq (pc' := 267) at_263 ?_)))))))
       have Kp_229 : Keep h0 T_178.heap [] := (Kp_182.trans K_178 (allS (Or.inr sz_177) all0))
       have Ks_230 := (Nat.le_trans (Nat.le_trans (Nat.le_trans (Nat.le_trans (Nat.le_trans (Nat.le_trans (Nat.le_refl h0.size) E_162.1) (Keep.of_wr W_166).1) (Keep.of_wr W_170).1) (Keep.of_wr W_174).1) E_177.1) K_178.1)
       exact e_ZW X_227 hS0 e_227 Ks_230 hq hlk hrt at_267 ⟨rfl, N_227, Kp_229⟩
      ·refine o_ifNo X_227 hq at_223 (feq hc223__228).1 (o_aload X_227 hq at_226 rfl rfl (o_iload X_227 hq at_228 rfl (o_iconst X_227 hq 3 at_230 rfl ?_)))
       refine c_S3 X_227 hq e_227 hZ hown hml (k0_29 hw) (rmgoodo hw b_162 (1 : Int32) (3 : Int32) k_162 (3 : Int32) [(.int (own_draw p1)), (.int (own_draw p2)), (.int (own_draw p3))] (.int (0 : Int32)) T_178.heap n0 Zs_187 Fa_188 (by decide)) at_231 ?_ 0
       rintro T_231 L_231 _ X_231 ⟨⟨⟩, Nq_231, e_231⟩
       have N_231 := Fr.app N_227 Nq_231
       refine o_ifNo X_231 hq at_234 (by decide) (o_aload X_231 hq at_237 rfl rfl (o_iload X_231 hq at_239 rfl (o_iconst X_231 hq 4 at_241 rfl ?_)))
       refine c_S3 X_231 hq e_231 hZ hown hml (k0_29 hw) (rmgoodo hw b_162 (1 : Int32) (4 : Int32) k_162 (3 : Int32) [(.int (own_draw p1)), (.int (own_draw p2)), (.int (own_draw p3))] (.int (0 : Int32)) T_178.heap n0 Zs_187 Fa_188 (by decide)) at_242 ?_ 0
       rintro T_232 L_232 _ X_232 ⟨⟨⟩, Nq_232, e_232⟩
       have N_232 := Fr.app N_231 Nq_232
       refine o_ifNo X_232 hq at_245 (by decide) (o_iconst X_232 hq 1 at_248 rfl (o_goto X_232 hq (pc' := 253) at_249 (o_istore X_232 hq at_253 (l' := #[iv p1, iv p2, iv p3, iv p4, iv p5, iv p6, iv 3, rv b_162, rv b_177, iv (own_isn_3 (own_f5 (own_draw p1) (own_draw p2) (own_draw p3) (own_draw p4) (own_draw p5))), iv 1, iv (((((0 : Int32) + (own_pt (own_draw p2))) + (own_pt (own_draw p3))) + (0 : Int32)) + (0 : Int32)), iv 1]) rfl (o_iload X_232 hq at_255 rfl (o_iload X_232 hq at_257 rfl (o_icmpNo X_232 hq at_259 (teq ((((((own_law_3 (own_draw p1) (own_draw p2) (own_draw p3) (own_draw p4) (own_draw p5) (own_drb p1) (own_drb p2) (own_drb p3) (own_drb p4) (own_drb p5)).trans (if_neg hc115__190)).trans (if_pos hc124__213)).trans (if_neg hc190__219)).trans (if_neg hc212__224)).trans (if_neg hc223__228))).2 (o_iconst X_232 hq 1 at_262 rfl (o_goto X_232 hq (pc' := 267) at_263 ?_))))))))
       have Kp_233 : Keep h0 T_178.heap [] := (Kp_182.trans K_178 (allS (Or.inr sz_177) all0))
       have Ks_234 := (Nat.le_trans (Nat.le_trans (Nat.le_trans (Nat.le_trans (Nat.le_trans (Nat.le_trans (Nat.le_refl h0.size) E_162.1) (Keep.of_wr W_166).1) (Keep.of_wr W_170).1) (Keep.of_wr W_174).1) E_177.1) K_178.1)
       exact e_ZW X_232 hS0 e_232 Ks_234 hq hlk hrt at_267 ⟨rfl, N_232, Kp_233⟩
   ·refine o_icmpYes X_183 hq (pc' := 131) at_124 (feq hc124__213).2 (o_iconst X_183 hq 0 at_131 rfl (o_istore X_183 hq at_132 (l' := #[iv p1, iv p2, iv p3, iv p4, iv p5, iv p6, iv 3, rv b_162, rv b_177, iv (own_isn_3 (own_f5 (own_draw p1) (own_draw p2) (own_draw p3) (own_draw p4) (own_draw p5))), iv 0, .unset, .unset]) rfl (o_aload X_183 hq at_134 rfl rfl (o_iload X_183 hq at_136 rfl (o_iconst X_183 hq 0 at_138 rfl ?_)))))
    refine c_S3 X_183 hq e_183 hZ hown hml (k0_25 hw) (rmpti hw b_162 (0 : Int32) (0 : Int32) k_162 (3 : Int32) [(.int (own_draw p1)), (.int (own_draw p2)), (.int (own_draw p3))] (.int (0 : Int32)) (own_draw p1) T_178.heap n0 Zs_187 Fa_188 (by decide) (by decide) (by decide) rfl) at_139 ?_ 0
    rintro T_235 L_235 _ X_235 ⟨⟨⟩, Nq_235, e_235⟩
    have N_235 := Fr.app N_183 Nq_235
    refine o_aload X_235 hq at_142 rfl rfl (o_iload X_235 hq at_144 rfl (o_iconst X_235 hq 1 at_146 rfl ?_))
    refine c_S3 X_235 hq e_235 hZ hown hml (k0_25 hw) (rmpti hw b_162 (0 : Int32) (1 : Int32) k_162 (3 : Int32) [(.int (own_draw p1)), (.int (own_draw p2)), (.int (own_draw p3))] (.int (0 : Int32)) (own_draw p2) T_178.heap n0 Zs_187 Fa_188 (by decide) (by decide) (by decide) rfl) at_147 ?_ 1
    rintro T_236 L_236 _ X_236 ⟨⟨⟩, Nq_236, e_236⟩
    have N_236 := Fr.app N_235 Nq_236
    refine o_iadd X_236 hq at_150 (o_aload X_236 hq at_151 rfl rfl (o_iload X_236 hq at_153 rfl (o_iconst X_236 hq 2 at_155 rfl ?_)))
    refine c_S3 X_236 hq e_236 hZ hown hml (k0_25 hw) (rmpti hw b_162 (0 : Int32) (2 : Int32) k_162 (3 : Int32) [(.int (own_draw p1)), (.int (own_draw p2)), (.int (own_draw p3))] (.int (0 : Int32)) (own_draw p3) T_178.heap n0 Zs_187 Fa_188 (by decide) (by decide) (by decide) rfl) at_156 ?_ 1
    rintro T_237 L_237 _ X_237 ⟨⟨⟩, Nq_237, e_237⟩
    have N_237 := Fr.app N_236 Nq_237
    refine o_iadd X_237 hq at_159 (o_aload X_237 hq at_160 rfl rfl (o_iload X_237 hq at_162 rfl (o_iconst X_237 hq 3 at_164 rfl ?_)))
    refine c_S3 X_237 hq e_237 hZ hown hml (k0_25 hw) (rmpointo hw b_162 (0 : Int32) (3 : Int32) k_162 (3 : Int32) [(.int (own_draw p1)), (.int (own_draw p2)), (.int (own_draw p3))] (.int (0 : Int32)) T_178.heap n0 Zs_187 Fa_188 (by decide)) at_165 ?_ 1
    rintro T_238 L_238 _ X_238 ⟨⟨⟩, Nq_238, e_238⟩
    have N_238 := Fr.app N_237 Nq_238
    refine o_iadd X_238 hq at_168 (o_aload X_238 hq at_169 rfl rfl (o_iload X_238 hq at_171 rfl (o_iconst X_238 hq 4 at_173 rfl ?_)))
    refine c_S3 X_238 hq e_238 hZ hown hml (k0_25 hw) (rmpointo hw b_162 (0 : Int32) (4 : Int32) k_162 (3 : Int32) [(.int (own_draw p1)), (.int (own_draw p2)), (.int (own_draw p3))] (.int (0 : Int32)) T_178.heap n0 Zs_187 Fa_188 (by decide)) at_174 ?_ 1
    rintro T_239 L_239 _ X_239 ⟨⟨⟩, Nq_239, e_239⟩
    have N_239 := Fr.app N_238 Nq_239
    refine o_iadd X_239 hq at_177 (o_istore X_239 hq at_178 (l' := #[iv p1, iv p2, iv p3, iv p4, iv p5, iv p6, iv 3, rv b_162, rv b_177, iv (own_isn_3 (own_f5 (own_draw p1) (own_draw p2) (own_draw p3) (own_draw p4) (own_draw p5))), iv 0, iv (((((own_pt (own_draw p1)) + (own_pt (own_draw p2))) + (own_pt (own_draw p3))) + (0 : Int32)) + (0 : Int32)), .unset]) rfl (o_iload X_239 hq at_180 rfl (o_iload X_239 hq at_182 rfl (o_icmpNo X_239 hq at_184 (by decide) (o_iload X_239 hq at_187 rfl (o_iconst X_239 hq 1 at_189 rfl ?_))))))
    by_cases hc190__240 : (1 : Int32) < (((((own_pt (own_draw p1)) + (own_pt (own_draw p2))) + (own_pt (own_draw p3))) + (0 : Int32)) + (0 : Int32))
    ·refine o_icmpYes X_239 hq (pc' := 252) at_190 (tlt hc190__240).2.2.1 (o_iconst X_239 hq 0 at_252 rfl (o_istore X_239 hq at_253 (l' := #[iv p1, iv p2, iv p3, iv p4, iv p5, iv p6, iv 3, rv b_162, rv b_177, iv (own_isn_3 (own_f5 (own_draw p1) (own_draw p2) (own_draw p3) (own_draw p4) (own_draw p5))), iv 0, iv (((((own_pt (own_draw p1)) + (own_pt (own_draw p2))) + (own_pt (own_draw p3))) + (0 : Int32)) + (0 : Int32)), iv 0]) rfl (o_iload X_239 hq at_255 rfl (o_iload X_239 hq at_257 rfl (o_icmpNo X_239 hq at_259 (teq ((((own_law_3 (own_draw p1) (own_draw p2) (own_draw p3) (own_draw p4) (own_draw p5) (own_drb p1) (own_drb p2) (own_drb p3) (own_drb p4) (own_drb p5)).trans (if_neg hc115__190)).trans (if_neg hc124__213)).trans (if_pos hc190__240))).2 (o_iconst X_239 hq 1 at_262 rfl (o_goto X_239 hq (pc' := 267) at_263 ?_)))))))
     have Kp_241 : Keep h0 T_178.heap [] := (Kp_182.trans K_178 (allS (Or.inr sz_177) all0))
     have Ks_242 := (Nat.le_trans (Nat.le_trans (Nat.le_trans (Nat.le_trans (Nat.le_trans (Nat.le_trans (Nat.le_refl h0.size) E_162.1) (Keep.of_wr W_166).1) (Keep.of_wr W_170).1) (Keep.of_wr W_174).1) E_177.1) K_178.1)
     exact e_ZW X_239 hS0 e_239 Ks_242 hq hlk hrt at_267 ⟨rfl, N_239, Kp_241⟩
    ·refine o_icmpNo X_239 hq at_190 (flt hc190__240).2.2.1 (o_aload X_239 hq at_193 rfl rfl (o_iload X_239 hq at_195 rfl (o_iconst X_239 hq 0 at_197 rfl ?_)))
     refine c_S3 X_239 hq e_239 hZ hown hml (k0_29 hw) (rmgdlo hw b_162 (0 : Int32) (0 : Int32) k_162 (3 : Int32) [(.int (own_draw p1)), (.int (own_draw p2)), (.int (own_draw p3))] (.int (0 : Int32)) (own_draw p1) T_178.heap n0 Zs_187 Fa_188 (by decide) (by decide) (by decide) rfl (by decide)) at_198 ?_ 0
     rintro T_243 L_243 _ X_243 ⟨⟨⟩, Nq_243, e_243⟩
     have N_243 := Fr.app N_239 Nq_243
     by_cases hc201__244 : (own_gd_lo (own_draw p1)) = (0 : Int32)
     ·refine o_ifYes X_243 hq (pc' := 252) at_201 (teq hc201__244).1 (o_iconst X_243 hq 0 at_252 rfl (o_istore X_243 hq at_253 (l' := #[iv p1, iv p2, iv p3, iv p4, iv p5, iv p6, iv 3, rv b_162, rv b_177, iv (own_isn_3 (own_f5 (own_draw p1) (own_draw p2) (own_draw p3) (own_draw p4) (own_draw p5))), iv 0, iv (((((own_pt (own_draw p1)) + (own_pt (own_draw p2))) + (own_pt (own_draw p3))) + (0 : Int32)) + (0 : Int32)), iv 0]) rfl (o_iload X_243 hq at_255 rfl (o_iload X_243 hq at_257 rfl (o_icmpNo X_243 hq at_259 (teq (((((own_law_3 (own_draw p1) (own_draw p2) (own_draw p3) (own_draw p4) (own_draw p5) (own_drb p1) (own_drb p2) (own_drb p3) (own_drb p4) (own_drb p5)).trans (if_neg hc115__190)).trans (if_neg hc124__213)).trans (if_neg hc190__240)).trans (if_pos hc201__244))).2 (o_iconst X_243 hq 1 at_262 rfl (o_goto X_243 hq (pc' := 267) at_263 ?_)))))))
      have Kp_245 : Keep h0 T_178.heap [] := (Kp_182.trans K_178 (allS (Or.inr sz_177) all0))
      have Ks_246 := (Nat.le_trans (Nat.le_trans (Nat.le_trans (Nat.le_trans (Nat.le_trans (Nat.le_trans (Nat.le_refl h0.size) E_162.1) (Keep.of_wr W_166).1) (Keep.of_wr W_170).1) (Keep.of_wr W_174).1) E_177.1) K_178.1)
      exact e_ZW X_243 hS0 e_243 Ks_246 hq hlk hrt at_267 ⟨rfl, N_243, Kp_245⟩
     ·refine o_ifNo X_243 hq at_201 (feq hc201__244).1 (o_aload X_243 hq at_204 rfl rfl (o_iload X_243 hq at_206 rfl (o_iconst X_243 hq 1 at_208 rfl ?_)))
      refine c_S3 X_243 hq e_243 hZ hown hml (k0_29 hw) (rmgdmid hw b_162 (0 : Int32) (1 : Int32) k_162 (3 : Int32) [(.int (own_draw p1)), (.int (own_draw p2)), (.int (own_draw p3))] (.int (0 : Int32)) (own_draw p2) T_178.heap n0 Zs_187 Fa_188 (by decide) (by decide) (by decide) rfl (by decide) (by decide)) at_209 ?_ 0
      rintro T_247 L_247 _ X_247 ⟨⟨⟩, Nq_247, e_247⟩
      have N_247 := Fr.app N_243 Nq_247
      by_cases hc212__248 : (own_gd_mid (own_draw p2)) = (0 : Int32)
      ·refine o_ifYes X_247 hq (pc' := 252) at_212 (teq hc212__248).1 (o_iconst X_247 hq 0 at_252 rfl (o_istore X_247 hq at_253 (l' := #[iv p1, iv p2, iv p3, iv p4, iv p5, iv p6, iv 3, rv b_162, rv b_177, iv (own_isn_3 (own_f5 (own_draw p1) (own_draw p2) (own_draw p3) (own_draw p4) (own_draw p5))), iv 0, iv (((((own_pt (own_draw p1)) + (own_pt (own_draw p2))) + (own_pt (own_draw p3))) + (0 : Int32)) + (0 : Int32)), iv 0]) rfl (o_iload X_247 hq at_255 rfl (o_iload X_247 hq at_257 rfl (o_icmpNo X_247 hq at_259 (teq ((((((own_law_3 (own_draw p1) (own_draw p2) (own_draw p3) (own_draw p4) (own_draw p5) (own_drb p1) (own_drb p2) (own_drb p3) (own_drb p4) (own_drb p5)).trans (if_neg hc115__190)).trans (if_neg hc124__213)).trans (if_neg hc190__240)).trans (if_neg hc201__244)).trans (if_pos hc212__248))).2 (o_iconst X_247 hq 1 at_262 rfl (o_goto X_247 hq (pc' := 267) at_263 ?_)))))))
       have Kp_249 : Keep h0 T_178.heap [] := (Kp_182.trans K_178 (allS (Or.inr sz_177) all0))
       have Ks_250 := (Nat.le_trans (Nat.le_trans (Nat.le_trans (Nat.le_trans (Nat.le_trans (Nat.le_trans (Nat.le_refl h0.size) E_162.1) (Keep.of_wr W_166).1) (Keep.of_wr W_170).1) (Keep.of_wr W_174).1) E_177.1) K_178.1)
       exact e_ZW X_247 hS0 e_247 Ks_250 hq hlk hrt at_267 ⟨rfl, N_247, Kp_249⟩
      ·refine o_ifNo X_247 hq at_212 (feq hc212__248).1 (o_aload X_247 hq at_215 rfl rfl (o_iload X_247 hq at_217 rfl (o_iconst X_247 hq 2 at_219 rfl ?_)))
       refine c_S3 X_247 hq e_247 hZ hown hml (k0_29 hw) (rmgdhi hw b_162 (0 : Int32) (2 : Int32) k_162 (3 : Int32) [(.int (own_draw p1)), (.int (own_draw p2)), (.int (own_draw p3))] (.int (0 : Int32)) (own_draw p3) T_178.heap n0 Zs_187 Fa_188 (by decide) (by decide) (by decide) rfl (by decide) (by decide)) at_220 ?_ 0
       rintro T_251 L_251 _ X_251 ⟨⟨⟩, Nq_251, e_251⟩
       have N_251 := Fr.app N_247 Nq_251
       by_cases hc223__252 : (own_gd_hi (own_draw p3)) = (0 : Int32)
       ·refine o_ifYes X_251 hq (pc' := 252) at_223 (teq hc223__252).1 (o_iconst X_251 hq 0 at_252 rfl (o_istore X_251 hq at_253 (l' := #[iv p1, iv p2, iv p3, iv p4, iv p5, iv p6, iv 3, rv b_162, rv b_177, iv (own_isn_3 (own_f5 (own_draw p1) (own_draw p2) (own_draw p3) (own_draw p4) (own_draw p5))), iv 0, iv (((((own_pt (own_draw p1)) + (own_pt (own_draw p2))) + (own_pt (own_draw p3))) + (0 : Int32)) + (0 : Int32)), iv 0]) rfl (o_iload X_251 hq at_255 rfl (o_iload X_251 hq at_257 rfl (o_icmpNo X_251 hq at_259 (teq (((((((own_law_3 (own_draw p1) (own_draw p2) (own_draw p3) (own_draw p4) (own_draw p5) (own_drb p1) (own_drb p2) (own_drb p3) (own_drb p4) (own_drb p5)).trans (if_neg hc115__190)).trans (if_neg hc124__213)).trans (if_neg hc190__240)).trans (if_neg hc201__244)).trans (if_neg hc212__248)).trans (if_pos hc223__252))).2 (o_iconst X_251 hq 1 at_262 rfl (o_goto X_251 hq (pc' := 267) at_263 ?_)))))))
        have Kp_253 : Keep h0 T_178.heap [] := (Kp_182.trans K_178 (allS (Or.inr sz_177) all0))
        have Ks_254 := (Nat.le_trans (Nat.le_trans (Nat.le_trans (Nat.le_trans (Nat.le_trans (Nat.le_trans (Nat.le_refl h0.size) E_162.1) (Keep.of_wr W_166).1) (Keep.of_wr W_170).1) (Keep.of_wr W_174).1) E_177.1) K_178.1)
        exact e_ZW X_251 hS0 e_251 Ks_254 hq hlk hrt at_267 ⟨rfl, N_251, Kp_253⟩
       ·refine o_ifNo X_251 hq at_223 (feq hc223__252).1 (o_aload X_251 hq at_226 rfl rfl (o_iload X_251 hq at_228 rfl (o_iconst X_251 hq 3 at_230 rfl ?_)))
        refine c_S3 X_251 hq e_251 hZ hown hml (k0_29 hw) (rmgoodo hw b_162 (0 : Int32) (3 : Int32) k_162 (3 : Int32) [(.int (own_draw p1)), (.int (own_draw p2)), (.int (own_draw p3))] (.int (0 : Int32)) T_178.heap n0 Zs_187 Fa_188 (by decide)) at_231 ?_ 0
        rintro T_255 L_255 _ X_255 ⟨⟨⟩, Nq_255, e_255⟩
        have N_255 := Fr.app N_251 Nq_255
        refine o_ifNo X_255 hq at_234 (by decide) (o_aload X_255 hq at_237 rfl rfl (o_iload X_255 hq at_239 rfl (o_iconst X_255 hq 4 at_241 rfl ?_)))
        refine c_S3 X_255 hq e_255 hZ hown hml (k0_29 hw) (rmgoodo hw b_162 (0 : Int32) (4 : Int32) k_162 (3 : Int32) [(.int (own_draw p1)), (.int (own_draw p2)), (.int (own_draw p3))] (.int (0 : Int32)) T_178.heap n0 Zs_187 Fa_188 (by decide)) at_242 ?_ 0
        rintro T_256 L_256 _ X_256 ⟨⟨⟩, Nq_256, e_256⟩
        have N_256 := Fr.app N_255 Nq_256
        refine o_ifNo X_256 hq at_245 (by decide) (o_iconst X_256 hq 1 at_248 rfl (o_goto X_256 hq (pc' := 253) at_249 (o_istore X_256 hq at_253 (l' := #[iv p1, iv p2, iv p3, iv p4, iv p5, iv p6, iv 3, rv b_162, rv b_177, iv (own_isn_3 (own_f5 (own_draw p1) (own_draw p2) (own_draw p3) (own_draw p4) (own_draw p5))), iv 0, iv (((((own_pt (own_draw p1)) + (own_pt (own_draw p2))) + (own_pt (own_draw p3))) + (0 : Int32)) + (0 : Int32)), iv 1]) rfl (o_iload X_256 hq at_255 rfl (o_iload X_256 hq at_257 rfl (o_icmpNo X_256 hq at_259 (teq (((((((own_law_3 (own_draw p1) (own_draw p2) (own_draw p3) (own_draw p4) (own_draw p5) (own_drb p1) (own_drb p2) (own_drb p3) (own_drb p4) (own_drb p5)).trans (if_neg hc115__190)).trans (if_neg hc124__213)).trans (if_neg hc190__240)).trans (if_neg hc201__244)).trans (if_neg hc212__248)).trans (if_neg hc223__252))).2 (o_iconst X_256 hq 1 at_262 rfl (o_goto X_256 hq (pc' := 267) at_263 ?_))))))))
        have Kp_257 : Keep h0 T_178.heap [] := (Kp_182.trans K_178 (allS (Or.inr sz_177) all0))
        have Ks_258 := (Nat.le_trans (Nat.le_trans (Nat.le_trans (Nat.le_trans (Nat.le_trans (Nat.le_trans (Nat.le_refl h0.size) E_162.1) (Keep.of_wr W_166).1) (Keep.of_wr W_170).1) (Keep.of_wr W_174).1) E_177.1) K_178.1)
        exact e_ZW X_256 hS0 e_256 Ks_258 hq hlk hrt at_267 ⟨rfl, N_256, Kp_257⟩
 ·rw [hL]
  show own_Go _ _ _ _ (s₁.setTop (mkF m 10 #[iv p1, iv p2, iv p3, iv p4, iv p5, iv p6, iv 4, .unset, .unset, .unset, .unset, .unset, .unset] []))
  refine o_iload X0 hq at_10 rfl ?_
  obtain ⟨T_259, h_259, k_259, X_259, e_259, E_259, A_259, st_259⟩ := newP X0 hx hZ (w_ hw 1 rfl) e0 (g := (mkF m 12 #[iv p1, iv p2, iv p3, iv p4, iv p5, iv p6, iv 4, .unset, .unset, .unset, .unset, .unset, .unset] [(.int 4)])) rfl (hb hby at_12) rfl (by decide) (cap := 4) (by decide) (by decide) (by decide) (by decide)
  obtain ⟨b_259, g_259⟩ : ∃ z, z = h0.size := ⟨_, rfl⟩
  rw [← g_259] at A_259 st_259
  have V_259 : Arv Z h_259 b_259 k_259 .char (4 : Int32) [(.int (0 : Int32)), (.int (0 : Int32)), (.int (0 : Int32)), (.int (0 : Int32))] (.int (0 : Int32)) := (Arv.new A_259 (by decide)).pad (pad_rep [] (.int (0 : Int32)) 4)
  have gg_259 : n0 ≤ b_259 := Nat.le_trans Z0 (Nat.le_of_eq g_259.symm)
  have sz_259 : h0.size ≤ b_259 := Nat.le_trans (Keep.refl h0 []).1 (Nat.le_of_eq g_259.symm)
  refine own_st st_259 ?_
  show own_Go _ _ _ _ (T_259.setTop (mkF m 14 #[iv p1, iv p2, iv p3, iv p4, iv p5, iv p6, iv 4, .unset, .unset, .unset, .unset, .unset, .unset] [(.ref b_259)]))
  refine o_astore X_259 hq at_14 rfl (l' := #[iv p1, iv p2, iv p3, iv p4, iv p5, iv p6, iv 4, rv b_259, .unset, .unset, .unset, .unset, .unset]) rfl (o_iload X_259 hq at_16 rfl (o_ifNo X_259 hq at_18 (by decide) (o_aload X_259 hq at_21 rfl rfl (o_iconst X_259 hq 0 at_23 rfl (o_iloadN X_259 hq at_24 rfl ?_)))))
  have Zs_261 : n0 ≤ h_259.size := (Nat.le_trans Z0 E_259.1)
  refine c_S1 X_259 hq e_259 hZ hown hml (k0_8 hw) (rm1 hw p1  h_259 n0 Zs_261) at_25 ?_ 2
  rintro T_260 L_260 _ X_260 ⟨⟨⟩, Nq_260, e_260⟩
  have N_260 := Fr.app N0 Nq_260
  obtain ⟨cl_262, Ar_262, qk_262, Sz_262, Ng_262, Hs_262, Gs_262⟩ := id V_259
  obtain ⟨T_263, h_263, X_263, e_263, W_263, st_263⟩ := stC X_260 hx hZ e_260 Ar_262 (j := (0 : Int32)) (inb_of Sz_262 ⟨by decide, by decide⟩) (g := (mkF m 28 #[iv p1, iv p2, iv p3, iv p4, iv p5, iv p6, iv 4, rv b_259, .unset, .unset, .unset, .unset, .unset] [(.int (own_draw p1)), (.int 0), (.ref b_259)])) rfl rfl (hb hby at_28)
  refine own_st st_263 ?_
  have V_263 : Arv Z h_263 b_259 k_259 .char (4 : Int32) [(.int (own_draw p1)), (.int (0 : Int32)), (.int (0 : Int32)), (.int (0 : Int32))] (.int (0 : Int32)) := by have q := Arv.set Ar_262 qk_262 Sz_262 Ng_262 Hs_262 Gs_262 (fits_nar_char _) W_263 0 rfl (Nat.le_of_ble_eq_true rfl); rw [own_drn] at q; exact q
  have N_263 := Fr.snoc X_263 N_260 gg_259
  show own_Go _ _ _ _ (T_263.setTop (mkF m 29 #[iv p1, iv p2, iv p3, iv p4, iv p5, iv p6, iv 4, rv b_259, .unset, .unset, .unset, .unset, .unset] []))
  refine o_iload X_263 hq at_29 rfl (o_iconst X_263 hq 1 at_31 rfl (o_icmpNo X_263 hq at_32 (by decide) (o_aload X_263 hq at_35 rfl rfl (o_iconst X_263 hq 1 at_37 rfl (o_iloadN X_263 hq at_38 rfl ?_)))))
  have Zs_265 : n0 ≤ h_263.size := (Nat.le_trans Zs_261 (Keep.of_wr W_263).1)
  refine c_S1 X_263 hq e_263 hZ hown hml (k0_8 hw) (rm1 hw p2  h_263 n0 Zs_265) at_39 ?_ 2
  rintro T_264 L_264 _ X_264 ⟨⟨⟩, Nq_264, e_264⟩
  have N_264 := Fr.app N_263 Nq_264
  obtain ⟨cl_266, Ar_266, qk_266, Sz_266, Ng_266, Hs_266, Gs_266⟩ := id V_263
  obtain ⟨T_267, h_267, X_267, e_267, W_267, st_267⟩ := stC X_264 hx hZ e_264 Ar_266 (j := (1 : Int32)) (inb_of Sz_266 ⟨by decide, by decide⟩) (g := (mkF m 42 #[iv p1, iv p2, iv p3, iv p4, iv p5, iv p6, iv 4, rv b_259, .unset, .unset, .unset, .unset, .unset] [(.int (own_draw p2)), (.int 1), (.ref b_259)])) rfl rfl (hb hby at_42)
  refine own_st st_267 ?_
  have V_267 : Arv Z h_267 b_259 k_259 .char (4 : Int32) [(.int (own_draw p1)), (.int (own_draw p2)), (.int (0 : Int32)), (.int (0 : Int32))] (.int (0 : Int32)) := by have q := Arv.set Ar_266 qk_266 Sz_266 Ng_266 Hs_266 Gs_266 (fits_nar_char _) W_267 1 rfl (Nat.le_of_ble_eq_true rfl); rw [own_drn] at q; exact q
  have N_267 := Fr.snoc X_267 N_264 gg_259
  show own_Go _ _ _ _ (T_267.setTop (mkF m 43 #[iv p1, iv p2, iv p3, iv p4, iv p5, iv p6, iv 4, rv b_259, .unset, .unset, .unset, .unset, .unset] []))
  refine o_iload X_267 hq at_43 rfl (o_iconst X_267 hq 2 at_45 rfl (o_icmpNo X_267 hq at_46 (by decide) (o_aload X_267 hq at_49 rfl rfl (o_iconst X_267 hq 2 at_51 rfl (o_iloadN X_267 hq at_52 rfl ?_)))))
  have Zs_269 : n0 ≤ h_267.size := (Nat.le_trans Zs_265 (Keep.of_wr W_267).1)
  refine c_S1 X_267 hq e_267 hZ hown hml (k0_8 hw) (rm1 hw p3  h_267 n0 Zs_269) at_53 ?_ 2
  rintro T_268 L_268 _ X_268 ⟨⟨⟩, Nq_268, e_268⟩
  have N_268 := Fr.app N_267 Nq_268
  obtain ⟨cl_270, Ar_270, qk_270, Sz_270, Ng_270, Hs_270, Gs_270⟩ := id V_267
  obtain ⟨T_271, h_271, X_271, e_271, W_271, st_271⟩ := stC X_268 hx hZ e_268 Ar_270 (j := (2 : Int32)) (inb_of Sz_270 ⟨by decide, by decide⟩) (g := (mkF m 56 #[iv p1, iv p2, iv p3, iv p4, iv p5, iv p6, iv 4, rv b_259, .unset, .unset, .unset, .unset, .unset] [(.int (own_draw p3)), (.int 2), (.ref b_259)])) rfl rfl (hb hby at_56)
  refine own_st st_271 ?_
  have V_271 : Arv Z h_271 b_259 k_259 .char (4 : Int32) [(.int (own_draw p1)), (.int (own_draw p2)), (.int (own_draw p3)), (.int (0 : Int32))] (.int (0 : Int32)) := by have q := Arv.set Ar_270 qk_270 Sz_270 Ng_270 Hs_270 Gs_270 (fits_nar_char _) W_271 2 rfl (Nat.le_of_ble_eq_true rfl); rw [own_drn] at q; exact q
  have N_271 := Fr.snoc X_271 N_268 gg_259
  show own_Go _ _ _ _ (T_271.setTop (mkF m 57 #[iv p1, iv p2, iv p3, iv p4, iv p5, iv p6, iv 4, rv b_259, .unset, .unset, .unset, .unset, .unset] []))
  refine o_iload X_271 hq at_57 rfl (o_iconst X_271 hq 3 at_59 rfl (o_icmpNo X_271 hq at_60 (by decide) (o_aload X_271 hq at_63 rfl rfl (o_iconst X_271 hq 3 at_65 rfl (o_iloadN X_271 hq at_66 rfl ?_)))))
  have Zs_273 : n0 ≤ h_271.size := (Nat.le_trans Zs_269 (Keep.of_wr W_271).1)
  refine c_S1 X_271 hq e_271 hZ hown hml (k0_8 hw) (rm1 hw p4  h_271 n0 Zs_273) at_67 ?_ 2
  rintro T_272 L_272 _ X_272 ⟨⟨⟩, Nq_272, e_272⟩
  have N_272 := Fr.app N_271 Nq_272
  obtain ⟨cl_274, Ar_274, qk_274, Sz_274, Ng_274, Hs_274, Gs_274⟩ := id V_271
  obtain ⟨T_275, h_275, X_275, e_275, W_275, st_275⟩ := stC X_272 hx hZ e_272 Ar_274 (j := (3 : Int32)) (inb_of Sz_274 ⟨by decide, by decide⟩) (g := (mkF m 70 #[iv p1, iv p2, iv p3, iv p4, iv p5, iv p6, iv 4, rv b_259, .unset, .unset, .unset, .unset, .unset] [(.int (own_draw p4)), (.int 3), (.ref b_259)])) rfl rfl (hb hby at_70)
  refine own_st st_275 ?_
  have V_275 : Arv Z h_275 b_259 k_259 .char (4 : Int32) [(.int (own_draw p1)), (.int (own_draw p2)), (.int (own_draw p3)), (.int (own_draw p4))] (.int (0 : Int32)) := by have q := Arv.set Ar_274 qk_274 Sz_274 Ng_274 Hs_274 Gs_274 (fits_nar_char _) W_275 3 rfl (Nat.le_of_ble_eq_true rfl); rw [own_drn] at q; exact q
  have N_275 := Fr.snoc X_275 N_272 gg_259
  show own_Go _ _ _ _ (T_275.setTop (mkF m 71 #[iv p1, iv p2, iv p3, iv p4, iv p5, iv p6, iv 4, rv b_259, .unset, .unset, .unset, .unset, .unset] []))
  refine o_iload X_275 hq at_71 rfl (o_iconst X_275 hq 4 at_73 rfl (o_icmpYes X_275 hq (pc' := 86) at_74 (by decide) ?_))
  have Zs_276 : n0 ≤ h_275.size := (Nat.le_trans Zs_273 (Keep.of_wr W_275).1)
  have Kp_277 : Keep h0 h_275 [] := ((((((Keep.refl h0 []).ext E_259).wr W_263 (Or.inr sz_259)).wr W_267 (Or.inr sz_259)).wr W_271 (Or.inr sz_259)).wr W_275 (Or.inr sz_259))
  obtain ⟨T_278, h_278, X_278, e_278, E_278, A_278, D_278, -, st_278⟩ := newO X_275 hx hZ hown (w_ hw 6 rfl) (w_ hw 7 rfl) (w_ hw 8 rfl) e_275 (g := (mkF m 86 #[iv p1, iv p2, iv p3, iv p4, iv p5, iv p6, iv 4, rv b_259, .unset, .unset, .unset, .unset, .unset] [])) rfl (hb hby at_86) (by decide) (by decide)
  obtain ⟨b_278, g_278⟩ : ∃ z, z = h_275.size := ⟨_, rfl⟩
  rw [← g_278] at A_278 D_278 st_278
  have gg_278 : n0 ≤ b_278 := Nat.le_trans Zs_276 (Nat.le_of_eq g_278.symm)
  have sz_278 : h0.size ≤ b_278 := Nat.le_trans Kp_277.1 (Nat.le_of_eq g_278.symm)
  have Fi_278_coder : Fld Z h_278 b_278 "java/lang/String" "coder" "B" (.int (0 : Int32)) := D_278 (Or.inr (w_ hw 32 rfl)) (ty := .byte) (by decide)
  have Fi_278_value : Fld Z h_278 b_278 "java/lang/String" "value" "[B" .null := D_278 (Or.inr (w_ hw 34 rfl)) (ty := (.array .byte)) (by decide)
  refine own_st st_278 ?_
  show own_Go _ _ _ _ (T_278.setTop (mkF m 89 #[iv p1, iv p2, iv p3, iv p4, iv p5, iv p6, iv 4, rv b_259, .unset, .unset, .unset, .unset, .unset] [(.ref b_278)]))
  refine o_dup X_278 hq at_89 rfl (o_aload X_278 hq at_90 rfl rfl ?_)
  have Fa_280 := (V_275.ext E_278)
  have Fa_281 := ((((((S1.ext E_259).wr W_263).wr W_267).wr W_271).wr W_275).ext E_278)
  have Zs_282 : n0 ≤ h_278.size := (Nat.le_trans Zs_276 E_278.1)
  refine c_I1v X_278 hq e_278 hZ hown hml (k0_16 hw) (rmiA4 hw b_278 b_259 k_259 (.int (0 : Int32)) w (own_draw p1) (own_draw p2) (own_draw p3) (own_draw p4) h_278 n0 Zs_282 A_278 gg_278 Fi_278_value Fi_278_coder Fa_280 (own_drb _).1 (own_drb _).1 (own_drb _).1 (own_drb _).1 Fa_281 hw0) at_92 ?_ 1
  rintro T_279 L_279 X_279 ⟨b__279, kb__279, -, Nq_279, K_279, gq_279_b, sq_279_b, Fq_279_0, Fq_279_1, Fq_279_2⟩
  have N_279 := Fr.app N_275 Nq_279
  have Kp_283 : Keep h0 h_278 [] := (Kp_277.ext E_278)
  have szq_279_b : h0.size ≤ b__279 := Nat.le_trans Kp_283.1 sq_279_b
  refine o_astore X_279 hq at_95 rfl (l' := #[iv p1, iv p2, iv p3, iv p4, iv p5, iv p6, iv 4, rv b_259, rv b_278, .unset, .unset, .unset, .unset]) rfl (o_aload X_279 hq at_97 rfl rfl ?_)
  have Fa_285 := (A_278.keep K_279)
  have Fa_286 := (own_Sta_keep Fa_281 K_279 (nsS (A_278.nostat) ns0))
  have Fa_287 := (own_Sta_keep ((((((S2.ext E_259).wr W_263).wr W_267).wr W_271).wr W_275).ext E_278) K_279 (nsS (A_278.nostat) ns0))
  have Zs_288 : n0 ≤ T_279.heap.size := (Nat.le_trans Zs_282 K_279.1)
  refine c_S1 X_279 hq rfl hZ hown hml (k0_19 hw) (rmisn4 hw b_278 b__279 kb__279 [(.int (((own_draw p1).toInt8.toInt32).toInt8.toInt32)), (.int (((own_draw p2).toInt8.toInt32).toInt8.toInt32)), (.int (((own_draw p3).toInt8.toInt32).toInt8.toInt32)), (.int (((own_draw p4).toInt8.toInt32).toInt8.toInt32))] (.int (0 : Int32)) w sfv (own_f5 (own_draw p1) (own_draw p2) (own_draw p3) (own_draw p4) (own_draw p5)) T_279.heap n0 Zs_288 Fa_285 Fq_279_0 Fq_279_1 Fq_279_2 Fa_286 hw0 (own_fat4 _ _ _ _ _) (own_fbd (own_drb p1) (own_drb p2) (own_drb p3) (own_drb p4) (own_drb p5)) Fa_287 hsf) at_99 ?_ 0
  rintro T_284 L_284 _ X_284 ⟨⟨⟩, Nq_284, e_284⟩
  have N_284 := Fr.app N_279 Nq_284
  refine o_istore X_284 hq at_102 (l' := #[iv p1, iv p2, iv p3, iv p4, iv p5, iv p6, iv 4, rv b_259, rv b_278, iv (own_isn_4 (own_f5 (own_draw p1) (own_draw p2) (own_draw p3) (own_draw p4) (own_draw p5))), .unset, .unset, .unset]) rfl (o_iload X_284 hq at_104 rfl (o_ifNo X_284 hq at_106 (by decide) (o_aload X_284 hq at_109 rfl rfl (o_iconst X_284 hq 0 at_111 rfl ?_))))
  have Fa_289 := (Fa_280.keep K_279 (ninS (Nat.ne_of_lt (Nat.lt_of_lt_of_le V_275.lt (Nat.le_of_eq g_278.symm))) nin0))
  obtain ⟨cl_290, Ar_290, qk_290, Sz_290, Ng_290, Hs_290, Gs_290⟩ := id Fa_289
  refine own_st (X_284.caload hx (j := (0 : Int32)) (v := (.int (own_draw p1))) (by rw [e_284]; exact Ar_290.1) (State.isArrayOf_alike hZ.alike Ar_290.2.1) Ar_290.2.2 (inb_of Sz_290 ⟨by decide, by decide⟩) (Hs_290.at (j := (0 : Int32)) (inb_of Sz_290 ⟨by decide, by decide⟩) rfl) (g := (mkF m 112 #[iv p1, iv p2, iv p3, iv p4, iv p5, iv p6, iv 4, rv b_259, rv b_278, iv (own_isn_4 (own_f5 (own_draw p1) (own_draw p2) (own_draw p3) (own_draw p4) (own_draw p5))), .unset, .unset, .unset] [(.int 0), (.ref b_259)])) rfl rfl (hb hby at_112)) ?_
  show own_Go _ _ _ _ (T_284.setTop (mkF m 113 #[iv p1, iv p2, iv p3, iv p4, iv p5, iv p6, iv 4, rv b_259, rv b_278, iv (own_isn_4 (own_f5 (own_draw p1) (own_draw p2) (own_draw p3) (own_draw p4) (own_draw p5))), .unset, .unset, .unset] [(.int (own_draw p1))]))
  refine o_bipush X_284 hq 43 at_113 rfl ?_
  by_cases hc115__291 : (own_draw p1) = (43 : Int32)
  ·refine o_icmpYes X_284 hq (pc' := 127) at_115 (teq hc115__291).1 (o_iconst X_284 hq 1 at_127 rfl (o_goto X_284 hq (pc' := 132) at_128 (o_istore X_284 hq at_132 (l' := #[iv p1, iv p2, iv p3, iv p4, iv p5, iv p6, iv 4, rv b_259, rv b_278, iv (own_isn_4 (own_f5 (own_draw p1) (own_draw p2) (own_draw p3) (own_draw p4) (own_draw p5))), iv 1, .unset, .unset]) rfl (o_aload X_284 hq at_134 rfl rfl (o_iload X_284 hq at_136 rfl (o_iconst X_284 hq 0 at_138 rfl ?_))))))
   refine c_S3 X_284 hq e_284 hZ hown hml (k0_25 hw) (rmpointb hw b_259 (1 : Int32) (0 : Int32) k_259 (4 : Int32) [(.int (own_draw p1)), (.int (own_draw p2)), (.int (own_draw p3)), (.int (own_draw p4))] (.int (0 : Int32)) T_279.heap n0 Zs_288 Fa_289 (by decide) (by decide)) at_139 ?_ 0
   rintro T_292 L_292 _ X_292 ⟨⟨⟩, Nq_292, e_292⟩
   have N_292 := Fr.app N_284 Nq_292
   refine o_aload X_292 hq at_142 rfl rfl (o_iload X_292 hq at_144 rfl (o_iconst X_292 hq 1 at_146 rfl ?_))
   refine c_S3 X_292 hq e_292 hZ hown hml (k0_25 hw) (rmpti hw b_259 (1 : Int32) (1 : Int32) k_259 (4 : Int32) [(.int (own_draw p1)), (.int (own_draw p2)), (.int (own_draw p3)), (.int (own_draw p4))] (.int (0 : Int32)) (own_draw p2) T_279.heap n0 Zs_288 Fa_289 (by decide) (by decide) (by decide) rfl) at_147 ?_ 1
   rintro T_293 L_293 _ X_293 ⟨⟨⟩, Nq_293, e_293⟩
   have N_293 := Fr.app N_292 Nq_293
   refine o_iadd X_293 hq at_150 (o_aload X_293 hq at_151 rfl rfl (o_iload X_293 hq at_153 rfl (o_iconst X_293 hq 2 at_155 rfl ?_)))
   refine c_S3 X_293 hq e_293 hZ hown hml (k0_25 hw) (rmpti hw b_259 (1 : Int32) (2 : Int32) k_259 (4 : Int32) [(.int (own_draw p1)), (.int (own_draw p2)), (.int (own_draw p3)), (.int (own_draw p4))] (.int (0 : Int32)) (own_draw p3) T_279.heap n0 Zs_288 Fa_289 (by decide) (by decide) (by decide) rfl) at_156 ?_ 1
   rintro T_294 L_294 _ X_294 ⟨⟨⟩, Nq_294, e_294⟩
   have N_294 := Fr.app N_293 Nq_294
   refine o_iadd X_294 hq at_159 (o_aload X_294 hq at_160 rfl rfl (o_iload X_294 hq at_162 rfl (o_iconst X_294 hq 3 at_164 rfl ?_)))
   refine c_S3 X_294 hq e_294 hZ hown hml (k0_25 hw) (rmpti hw b_259 (1 : Int32) (3 : Int32) k_259 (4 : Int32) [(.int (own_draw p1)), (.int (own_draw p2)), (.int (own_draw p3)), (.int (own_draw p4))] (.int (0 : Int32)) (own_draw p4) T_279.heap n0 Zs_288 Fa_289 (by decide) (by decide) (by decide) rfl) at_165 ?_ 1
   rintro T_295 L_295 _ X_295 ⟨⟨⟩, Nq_295, e_295⟩
   have N_295 := Fr.app N_294 Nq_295
   refine o_iadd X_295 hq at_168 (o_aload X_295 hq at_169 rfl rfl (o_iload X_295 hq at_171 rfl (o_iconst X_295 hq 4 at_173 rfl ?_)))
   refine c_S3 X_295 hq e_295 hZ hown hml (k0_25 hw) (rmpointo hw b_259 (1 : Int32) (4 : Int32) k_259 (4 : Int32) [(.int (own_draw p1)), (.int (own_draw p2)), (.int (own_draw p3)), (.int (own_draw p4))] (.int (0 : Int32)) T_279.heap n0 Zs_288 Fa_289 (by decide)) at_174 ?_ 1
   rintro T_296 L_296 _ X_296 ⟨⟨⟩, Nq_296, e_296⟩
   have N_296 := Fr.app N_295 Nq_296
   refine o_iadd X_296 hq at_177 (o_istore X_296 hq at_178 (l' := #[iv p1, iv p2, iv p3, iv p4, iv p5, iv p6, iv 4, rv b_259, rv b_278, iv (own_isn_4 (own_f5 (own_draw p1) (own_draw p2) (own_draw p3) (own_draw p4) (own_draw p5))), iv 1, iv (((((0 : Int32) + (own_pt (own_draw p2))) + (own_pt (own_draw p3))) + (own_pt (own_draw p4))) + (0 : Int32)), .unset]) rfl (o_iload X_296 hq at_180 rfl (o_iload X_296 hq at_182 rfl (o_icmpNo X_296 hq at_184 (by decide) (o_iload X_296 hq at_187 rfl (o_iconst X_296 hq 1 at_189 rfl ?_))))))
   by_cases hc190__297 : (1 : Int32) < (((((0 : Int32) + (own_pt (own_draw p2))) + (own_pt (own_draw p3))) + (own_pt (own_draw p4))) + (0 : Int32))
   ·refine o_icmpYes X_296 hq (pc' := 252) at_190 (tlt hc190__297).2.2.1 (o_iconst X_296 hq 0 at_252 rfl (o_istore X_296 hq at_253 (l' := #[iv p1, iv p2, iv p3, iv p4, iv p5, iv p6, iv 4, rv b_259, rv b_278, iv (own_isn_4 (own_f5 (own_draw p1) (own_draw p2) (own_draw p3) (own_draw p4) (own_draw p5))), iv 1, iv (((((0 : Int32) + (own_pt (own_draw p2))) + (own_pt (own_draw p3))) + (own_pt (own_draw p4))) + (0 : Int32)), iv 0]) rfl (o_iload X_296 hq at_255 rfl (o_iload X_296 hq at_257 rfl (o_icmpNo X_296 hq at_259 (teq (((own_law_4 (own_draw p1) (own_draw p2) (own_draw p3) (own_draw p4) (own_draw p5) (own_drb p1) (own_drb p2) (own_drb p3) (own_drb p4) (own_drb p5)).trans (if_pos hc115__291)).trans (if_pos hc190__297))).2 (o_iconst X_296 hq 1 at_262 rfl (o_goto X_296 hq (pc' := 267) at_263 ?_)))))))
    have Kp_298 : Keep h0 T_279.heap [] := (Kp_283.trans K_279 (allS (Or.inr sz_278) all0))
    have Ks_299 := (Nat.le_trans (Nat.le_trans (Nat.le_trans (Nat.le_trans (Nat.le_trans (Nat.le_trans (Nat.le_trans (Nat.le_refl h0.size) E_259.1) (Keep.of_wr W_263).1) (Keep.of_wr W_267).1) (Keep.of_wr W_271).1) (Keep.of_wr W_275).1) E_278.1) K_279.1)
    exact e_ZW X_296 hS0 e_296 Ks_299 hq hlk hrt at_267 ⟨rfl, N_296, Kp_298⟩
   ·refine o_icmpNo X_296 hq at_190 (flt hc190__297).2.2.1 (o_aload X_296 hq at_193 rfl rfl (o_iload X_296 hq at_195 rfl (o_iconst X_296 hq 0 at_197 rfl ?_)))
    refine c_S3 X_296 hq e_296 hZ hown hml (k0_29 hw) (rmgoodb hw b_259 (1 : Int32) (0 : Int32) k_259 (4 : Int32) [(.int (own_draw p1)), (.int (own_draw p2)), (.int (own_draw p3)), (.int (own_draw p4))] (.int (0 : Int32)) T_279.heap n0 Zs_288 Fa_289 (by decide) (by decide)) at_198 ?_ 0
    rintro T_300 L_300 _ X_300 ⟨⟨⟩, Nq_300, e_300⟩
    have N_300 := Fr.app N_296 Nq_300
    refine o_ifNo X_300 hq at_201 (by decide) (o_aload X_300 hq at_204 rfl rfl (o_iload X_300 hq at_206 rfl (o_iconst X_300 hq 1 at_208 rfl ?_)))
    refine c_S3 X_300 hq e_300 hZ hown hml (k0_29 hw) (rmgdlo hw b_259 (1 : Int32) (1 : Int32) k_259 (4 : Int32) [(.int (own_draw p1)), (.int (own_draw p2)), (.int (own_draw p3)), (.int (own_draw p4))] (.int (0 : Int32)) (own_draw p2) T_279.heap n0 Zs_288 Fa_289 (by decide) (by decide) (by decide) rfl (by decide)) at_209 ?_ 0
    rintro T_301 L_301 _ X_301 ⟨⟨⟩, Nq_301, e_301⟩
    have N_301 := Fr.app N_300 Nq_301
    by_cases hc212__302 : (own_gd_lo (own_draw p2)) = (0 : Int32)
    ·refine o_ifYes X_301 hq (pc' := 252) at_212 (teq hc212__302).1 (o_iconst X_301 hq 0 at_252 rfl (o_istore X_301 hq at_253 (l' := #[iv p1, iv p2, iv p3, iv p4, iv p5, iv p6, iv 4, rv b_259, rv b_278, iv (own_isn_4 (own_f5 (own_draw p1) (own_draw p2) (own_draw p3) (own_draw p4) (own_draw p5))), iv 1, iv (((((0 : Int32) + (own_pt (own_draw p2))) + (own_pt (own_draw p3))) + (own_pt (own_draw p4))) + (0 : Int32)), iv 0]) rfl (o_iload X_301 hq at_255 rfl (o_iload X_301 hq at_257 rfl (o_icmpNo X_301 hq at_259 (teq ((((own_law_4 (own_draw p1) (own_draw p2) (own_draw p3) (own_draw p4) (own_draw p5) (own_drb p1) (own_drb p2) (own_drb p3) (own_drb p4) (own_drb p5)).trans (if_pos hc115__291)).trans (if_neg hc190__297)).trans (if_pos hc212__302))).2 (o_iconst X_301 hq 1 at_262 rfl (o_goto X_301 hq (pc' := 267) at_263 ?_)))))))
     have Kp_303 : Keep h0 T_279.heap [] := (Kp_283.trans K_279 (allS (Or.inr sz_278) all0))
     have Ks_304 := (Nat.le_trans (Nat.le_trans (Nat.le_trans (Nat.le_trans (Nat.le_trans (Nat.le_trans (Nat.le_trans (Nat.le_refl h0.size) E_259.1) (Keep.of_wr W_263).1) (Keep.of_wr W_267).1) (Keep.of_wr W_271).1) (Keep.of_wr W_275).1) E_278.1) K_279.1)
     exact e_ZW X_301 hS0 e_301 Ks_304 hq hlk hrt at_267 ⟨rfl, N_301, Kp_303⟩
    ·refine o_ifNo X_301 hq at_212 (feq hc212__302).1 (o_aload X_301 hq at_215 rfl rfl (o_iload X_301 hq at_217 rfl (o_iconst X_301 hq 2 at_219 rfl ?_)))
     refine c_S3 X_301 hq e_301 hZ hown hml (k0_29 hw) (rmgdmid hw b_259 (1 : Int32) (2 : Int32) k_259 (4 : Int32) [(.int (own_draw p1)), (.int (own_draw p2)), (.int (own_draw p3)), (.int (own_draw p4))] (.int (0 : Int32)) (own_draw p3) T_279.heap n0 Zs_288 Fa_289 (by decide) (by decide) (by decide) rfl (by decide) (by decide)) at_220 ?_ 0
     rintro T_305 L_305 _ X_305 ⟨⟨⟩, Nq_305, e_305⟩
     have N_305 := Fr.app N_301 Nq_305
     by_cases hc223__306 : (own_gd_mid (own_draw p3)) = (0 : Int32)
     ·refine o_ifYes X_305 hq (pc' := 252) at_223 (teq hc223__306).1 (o_iconst X_305 hq 0 at_252 rfl (o_istore X_305 hq at_253 (l' := #[iv p1, iv p2, iv p3, iv p4, iv p5, iv p6, iv 4, rv b_259, rv b_278, iv (own_isn_4 (own_f5 (own_draw p1) (own_draw p2) (own_draw p3) (own_draw p4) (own_draw p5))), iv 1, iv (((((0 : Int32) + (own_pt (own_draw p2))) + (own_pt (own_draw p3))) + (own_pt (own_draw p4))) + (0 : Int32)), iv 0]) rfl (o_iload X_305 hq at_255 rfl (o_iload X_305 hq at_257 rfl (o_icmpNo X_305 hq at_259 (teq (((((own_law_4 (own_draw p1) (own_draw p2) (own_draw p3) (own_draw p4) (own_draw p5) (own_drb p1) (own_drb p2) (own_drb p3) (own_drb p4) (own_drb p5)).trans (if_pos hc115__291)).trans (if_neg hc190__297)).trans (if_neg hc212__302)).trans (if_pos hc223__306))).2 (o_iconst X_305 hq 1 at_262 rfl (o_goto X_305 hq (pc' := 267) at_263 ?_)))))))
      have Kp_307 : Keep h0 T_279.heap [] := (Kp_283.trans K_279 (allS (Or.inr sz_278) all0))
      have Ks_308 := (Nat.le_trans (Nat.le_trans (Nat.le_trans (Nat.le_trans (Nat.le_trans (Nat.le_trans (Nat.le_trans (Nat.le_refl h0.size) E_259.1) (Keep.of_wr W_263).1) (Keep.of_wr W_267).1) (Keep.of_wr W_271).1) (Keep.of_wr W_275).1) E_278.1) K_279.1)
      exact e_ZW X_305 hS0 e_305 Ks_308 hq hlk hrt at_267 ⟨rfl, N_305, Kp_307⟩
     ·refine o_ifNo X_305 hq at_223 (feq hc223__306).1 (o_aload X_305 hq at_226 rfl rfl (o_iload X_305 hq at_228 rfl (o_iconst X_305 hq 3 at_230 rfl ?_)))
      refine c_S3 X_305 hq e_305 hZ hown hml (k0_29 hw) (rmgdhi hw b_259 (1 : Int32) (3 : Int32) k_259 (4 : Int32) [(.int (own_draw p1)), (.int (own_draw p2)), (.int (own_draw p3)), (.int (own_draw p4))] (.int (0 : Int32)) (own_draw p4) T_279.heap n0 Zs_288 Fa_289 (by decide) (by decide) (by decide) rfl (by decide) (by decide)) at_231 ?_ 0
      rintro T_309 L_309 _ X_309 ⟨⟨⟩, Nq_309, e_309⟩
      have N_309 := Fr.app N_305 Nq_309
      by_cases hc234__310 : (own_gd_hi (own_draw p4)) = (0 : Int32)
      ·refine o_ifYes X_309 hq (pc' := 252) at_234 (teq hc234__310).1 (o_iconst X_309 hq 0 at_252 rfl (o_istore X_309 hq at_253 (l' := #[iv p1, iv p2, iv p3, iv p4, iv p5, iv p6, iv 4, rv b_259, rv b_278, iv (own_isn_4 (own_f5 (own_draw p1) (own_draw p2) (own_draw p3) (own_draw p4) (own_draw p5))), iv 1, iv (((((0 : Int32) + (own_pt (own_draw p2))) + (own_pt (own_draw p3))) + (own_pt (own_draw p4))) + (0 : Int32)), iv 0]) rfl (o_iload X_309 hq at_255 rfl (o_iload X_309 hq at_257 rfl (o_icmpNo X_309 hq at_259 (teq ((((((own_law_4 (own_draw p1) (own_draw p2) (own_draw p3) (own_draw p4) (own_draw p5) (own_drb p1) (own_drb p2) (own_drb p3) (own_drb p4) (own_drb p5)).trans (if_pos hc115__291)).trans (if_neg hc190__297)).trans (if_neg hc212__302)).trans (if_neg hc223__306)).trans (if_pos hc234__310))).2 (o_iconst X_309 hq 1 at_262 rfl (o_goto X_309 hq (pc' := 267) at_263 ?_)))))))
       have Kp_311 : Keep h0 T_279.heap [] := (Kp_283.trans K_279 (allS (Or.inr sz_278) all0))
       have Ks_312 := (Nat.le_trans (Nat.le_trans (Nat.le_trans (Nat.le_trans (Nat.le_trans (Nat.le_trans (Nat.le_trans (Nat.le_refl h0.size) E_259.1) (Keep.of_wr W_263).1) (Keep.of_wr W_267).1) (Keep.of_wr W_271).1) (Keep.of_wr W_275).1) E_278.1) K_279.1)
       exact e_ZW X_309 hS0 e_309 Ks_312 hq hlk hrt at_267 ⟨rfl, N_309, Kp_311⟩
      ·refine o_ifNo X_309 hq at_234 (feq hc234__310).1 (o_aload X_309 hq at_237 rfl rfl (o_iload X_309 hq at_239 rfl (o_iconst X_309 hq 4 at_241 rfl ?_)))
       refine c_S3 X_309 hq e_309 hZ hown hml (k0_29 hw) (rmgoodo hw b_259 (1 : Int32) (4 : Int32) k_259 (4 : Int32) [(.int (own_draw p1)), (.int (own_draw p2)), (.int (own_draw p3)), (.int (own_draw p4))] (.int (0 : Int32)) T_279.heap n0 Zs_288 Fa_289 (by decide)) at_242 ?_ 0
       rintro T_313 L_313 _ X_313 ⟨⟨⟩, Nq_313, e_313⟩
       have N_313 := Fr.app N_309 Nq_313
       refine o_ifNo X_313 hq at_245 (by decide) (o_iconst X_313 hq 1 at_248 rfl (o_goto X_313 hq (pc' := 253) at_249 (o_istore X_313 hq at_253 (l' := #[iv p1, iv p2, iv p3, iv p4, iv p5, iv p6, iv 4, rv b_259, rv b_278, iv (own_isn_4 (own_f5 (own_draw p1) (own_draw p2) (own_draw p3) (own_draw p4) (own_draw p5))), iv 1, iv (((((0 : Int32) + (own_pt (own_draw p2))) + (own_pt (own_draw p3))) + (own_pt (own_draw p4))) + (0 : Int32)), iv 1]) rfl (o_iload X_313 hq at_255 rfl (o_iload X_313 hq at_257 rfl (o_icmpNo X_313 hq at_259 (teq ((((((own_law_4 (own_draw p1) (own_draw p2) (own_draw p3) (own_draw p4) (own_draw p5) (own_drb p1) (own_drb p2) (own_drb p3) (own_drb p4) (own_drb p5)).trans (if_pos hc115__291)).trans (if_neg hc190__297)).trans (if_neg hc212__302)).trans (if_neg hc223__306)).trans (if_neg hc234__310))).2 (o_iconst X_313 hq 1 at_262 rfl (o_goto X_313 hq (pc' := 267) at_263 ?_))))))))
       have Kp_314 : Keep h0 T_279.heap [] := (Kp_283.trans K_279 (allS (Or.inr sz_278) all0))
       have Ks_315 := (Nat.le_trans (Nat.le_trans (Nat.le_trans (Nat.le_trans (Nat.le_trans (Nat.le_trans (Nat.le_trans (Nat.le_refl h0.size) E_259.1) (Keep.of_wr W_263).1) (Keep.of_wr W_267).1) (Keep.of_wr W_271).1) (Keep.of_wr W_275).1) E_278.1) K_279.1)
       exact e_ZW X_313 hS0 e_313 Ks_315 hq hlk hrt at_267 ⟨rfl, N_313, Kp_314⟩
  ·refine o_icmpNo X_284 hq at_115 (feq hc115__291).1 (o_aload X_284 hq at_118 rfl rfl (o_iconst X_284 hq 0 at_120 rfl ?_))
   obtain ⟨cl_316, Ar_316, qk_316, Sz_316, Ng_316, Hs_316, Gs_316⟩ := id Fa_289
   refine own_st (X_284.caload hx (j := (0 : Int32)) (v := (.int (own_draw p1))) (by rw [e_284]; exact Ar_316.1) (State.isArrayOf_alike hZ.alike Ar_316.2.1) Ar_316.2.2 (inb_of Sz_316 ⟨by decide, by decide⟩) (Hs_316.at (j := (0 : Int32)) (inb_of Sz_316 ⟨by decide, by decide⟩) rfl) (g := (mkF m 121 #[iv p1, iv p2, iv p3, iv p4, iv p5, iv p6, iv 4, rv b_259, rv b_278, iv (own_isn_4 (own_f5 (own_draw p1) (own_draw p2) (own_draw p3) (own_draw p4) (own_draw p5))), .unset, .unset, .unset] [(.int 0), (.ref b_259)])) rfl rfl (hb hby at_121)) ?_
   show own_Go _ _ _ _ (T_284.setTop (mkF m 122 #[iv p1, iv p2, iv p3, iv p4, iv p5, iv p6, iv 4, rv b_259, rv b_278, iv (own_isn_4 (own_f5 (own_draw p1) (own_draw p2) (own_draw p3) (own_draw p4) (own_draw p5))), .unset, .unset, .unset] [(.int (own_draw p1))]))
   refine o_bipush X_284 hq 45 at_122 rfl ?_
   by_cases hc124__317 : (own_draw p1) = (45 : Int32)
   ·refine o_icmpNo X_284 hq at_124 (teq hc124__317).2 (o_iconst X_284 hq 1 at_127 rfl (o_goto X_284 hq (pc' := 132) at_128 (o_istore X_284 hq at_132 (l' := #[iv p1, iv p2, iv p3, iv p4, iv p5, iv p6, iv 4, rv b_259, rv b_278, iv (own_isn_4 (own_f5 (own_draw p1) (own_draw p2) (own_draw p3) (own_draw p4) (own_draw p5))), iv 1, .unset, .unset]) rfl (o_aload X_284 hq at_134 rfl rfl (o_iload X_284 hq at_136 rfl (o_iconst X_284 hq 0 at_138 rfl ?_))))))
    refine c_S3 X_284 hq e_284 hZ hown hml (k0_25 hw) (rmpointb hw b_259 (1 : Int32) (0 : Int32) k_259 (4 : Int32) [(.int (own_draw p1)), (.int (own_draw p2)), (.int (own_draw p3)), (.int (own_draw p4))] (.int (0 : Int32)) T_279.heap n0 Zs_288 Fa_289 (by decide) (by decide)) at_139 ?_ 0
    rintro T_318 L_318 _ X_318 ⟨⟨⟩, Nq_318, e_318⟩
    have N_318 := Fr.app N_284 Nq_318
    refine o_aload X_318 hq at_142 rfl rfl (o_iload X_318 hq at_144 rfl (o_iconst X_318 hq 1 at_146 rfl ?_))
    refine c_S3 X_318 hq e_318 hZ hown hml (k0_25 hw) (rmpti hw b_259 (1 : Int32) (1 : Int32) k_259 (4 : Int32) [(.int (own_draw p1)), (.int (own_draw p2)), (.int (own_draw p3)), (.int (own_draw p4))] (.int (0 : Int32)) (own_draw p2) T_279.heap n0 Zs_288 Fa_289 (by decide) (by decide) (by decide) rfl) at_147 ?_ 1
    rintro T_319 L_319 _ X_319 ⟨⟨⟩, Nq_319, e_319⟩
    have N_319 := Fr.app N_318 Nq_319
    refine o_iadd X_319 hq at_150 (o_aload X_319 hq at_151 rfl rfl (o_iload X_319 hq at_153 rfl (o_iconst X_319 hq 2 at_155 rfl ?_)))
    refine c_S3 X_319 hq e_319 hZ hown hml (k0_25 hw) (rmpti hw b_259 (1 : Int32) (2 : Int32) k_259 (4 : Int32) [(.int (own_draw p1)), (.int (own_draw p2)), (.int (own_draw p3)), (.int (own_draw p4))] (.int (0 : Int32)) (own_draw p3) T_279.heap n0 Zs_288 Fa_289 (by decide) (by decide) (by decide) rfl) at_156 ?_ 1
    rintro T_320 L_320 _ X_320 ⟨⟨⟩, Nq_320, e_320⟩
    have N_320 := Fr.app N_319 Nq_320
    refine o_iadd X_320 hq at_159 (o_aload X_320 hq at_160 rfl rfl (o_iload X_320 hq at_162 rfl (o_iconst X_320 hq 3 at_164 rfl ?_)))
    refine c_S3 X_320 hq e_320 hZ hown hml (k0_25 hw) (rmpti hw b_259 (1 : Int32) (3 : Int32) k_259 (4 : Int32) [(.int (own_draw p1)), (.int (own_draw p2)), (.int (own_draw p3)), (.int (own_draw p4))] (.int (0 : Int32)) (own_draw p4) T_279.heap n0 Zs_288 Fa_289 (by decide) (by decide) (by decide) rfl) at_165 ?_ 1
    rintro T_321 L_321 _ X_321 ⟨⟨⟩, Nq_321, e_321⟩
    have N_321 := Fr.app N_320 Nq_321
    refine o_iadd X_321 hq at_168 (o_aload X_321 hq at_169 rfl rfl (o_iload X_321 hq at_171 rfl (o_iconst X_321 hq 4 at_173 rfl ?_)))
    refine c_S3 X_321 hq e_321 hZ hown hml (k0_25 hw) (rmpointo hw b_259 (1 : Int32) (4 : Int32) k_259 (4 : Int32) [(.int (own_draw p1)), (.int (own_draw p2)), (.int (own_draw p3)), (.int (own_draw p4))] (.int (0 : Int32)) T_279.heap n0 Zs_288 Fa_289 (by decide)) at_174 ?_ 1
    rintro T_322 L_322 _ X_322 ⟨⟨⟩, Nq_322, e_322⟩
    have N_322 := Fr.app N_321 Nq_322
    refine o_iadd X_322 hq at_177 (o_istore X_322 hq at_178 (l' := #[iv p1, iv p2, iv p3, iv p4, iv p5, iv p6, iv 4, rv b_259, rv b_278, iv (own_isn_4 (own_f5 (own_draw p1) (own_draw p2) (own_draw p3) (own_draw p4) (own_draw p5))), iv 1, iv (((((0 : Int32) + (own_pt (own_draw p2))) + (own_pt (own_draw p3))) + (own_pt (own_draw p4))) + (0 : Int32)), .unset]) rfl (o_iload X_322 hq at_180 rfl (o_iload X_322 hq at_182 rfl (o_icmpNo X_322 hq at_184 (by decide) (o_iload X_322 hq at_187 rfl (o_iconst X_322 hq 1 at_189 rfl ?_))))))
    by_cases hc190__323 : (1 : Int32) < (((((0 : Int32) + (own_pt (own_draw p2))) + (own_pt (own_draw p3))) + (own_pt (own_draw p4))) + (0 : Int32))
    ·refine o_icmpYes X_322 hq (pc' := 252) at_190 (tlt hc190__323).2.2.1 (o_iconst X_322 hq 0 at_252 rfl (o_istore X_322 hq at_253 (l' := #[iv p1, iv p2, iv p3, iv p4, iv p5, iv p6, iv 4, rv b_259, rv b_278, iv (own_isn_4 (own_f5 (own_draw p1) (own_draw p2) (own_draw p3) (own_draw p4) (own_draw p5))), iv 1, iv (((((0 : Int32) + (own_pt (own_draw p2))) + (own_pt (own_draw p3))) + (own_pt (own_draw p4))) + (0 : Int32)), iv 0]) rfl (o_iload X_322 hq at_255 rfl (o_iload X_322 hq at_257 rfl (o_icmpNo X_322 hq at_259 (teq ((((own_law_4 (own_draw p1) (own_draw p2) (own_draw p3) (own_draw p4) (own_draw p5) (own_drb p1) (own_drb p2) (own_drb p3) (own_drb p4) (own_drb p5)).trans (if_neg hc115__291)).trans (if_pos hc124__317)).trans (if_pos hc190__323))).2 (o_iconst X_322 hq 1 at_262 rfl (o_goto X_322 hq (pc' := 267) at_263 ?_)))))))
     have Kp_324 : Keep h0 T_279.heap [] := (Kp_283.trans K_279 (allS (Or.inr sz_278) all0))
     have Ks_325 := (Nat.le_trans (Nat.le_trans (Nat.le_trans (Nat.le_trans (Nat.le_trans (Nat.le_trans (Nat.le_trans (Nat.le_refl h0.size) E_259.1) (Keep.of_wr W_263).1) (Keep.of_wr W_267).1) (Keep.of_wr W_271).1) (Keep.of_wr W_275).1) E_278.1) K_279.1)
     exact e_ZW X_322 hS0 e_322 Ks_325 hq hlk hrt at_267 ⟨rfl, N_322, Kp_324⟩
    ·refine o_icmpNo X_322 hq at_190 (flt hc190__323).2.2.1 (o_aload X_322 hq at_193 rfl rfl (o_iload X_322 hq at_195 rfl (o_iconst X_322 hq 0 at_197 rfl ?_)))
     refine c_S3 X_322 hq e_322 hZ hown hml (k0_29 hw) (rmgoodb hw b_259 (1 : Int32) (0 : Int32) k_259 (4 : Int32) [(.int (own_draw p1)), (.int (own_draw p2)), (.int (own_draw p3)), (.int (own_draw p4))] (.int (0 : Int32)) T_279.heap n0 Zs_288 Fa_289 (by decide) (by decide)) at_198 ?_ 0
     rintro T_326 L_326 _ X_326 ⟨⟨⟩, Nq_326, e_326⟩
     have N_326 := Fr.app N_322 Nq_326
     refine o_ifNo X_326 hq at_201 (by decide) (o_aload X_326 hq at_204 rfl rfl (o_iload X_326 hq at_206 rfl (o_iconst X_326 hq 1 at_208 rfl ?_)))
     refine c_S3 X_326 hq e_326 hZ hown hml (k0_29 hw) (rmgdlo hw b_259 (1 : Int32) (1 : Int32) k_259 (4 : Int32) [(.int (own_draw p1)), (.int (own_draw p2)), (.int (own_draw p3)), (.int (own_draw p4))] (.int (0 : Int32)) (own_draw p2) T_279.heap n0 Zs_288 Fa_289 (by decide) (by decide) (by decide) rfl (by decide)) at_209 ?_ 0
     rintro T_327 L_327 _ X_327 ⟨⟨⟩, Nq_327, e_327⟩
     have N_327 := Fr.app N_326 Nq_327
     by_cases hc212__328 : (own_gd_lo (own_draw p2)) = (0 : Int32)
     ·refine o_ifYes X_327 hq (pc' := 252) at_212 (teq hc212__328).1 (o_iconst X_327 hq 0 at_252 rfl (o_istore X_327 hq at_253 (l' := #[iv p1, iv p2, iv p3, iv p4, iv p5, iv p6, iv 4, rv b_259, rv b_278, iv (own_isn_4 (own_f5 (own_draw p1) (own_draw p2) (own_draw p3) (own_draw p4) (own_draw p5))), iv 1, iv (((((0 : Int32) + (own_pt (own_draw p2))) + (own_pt (own_draw p3))) + (own_pt (own_draw p4))) + (0 : Int32)), iv 0]) rfl (o_iload X_327 hq at_255 rfl (o_iload X_327 hq at_257 rfl (o_icmpNo X_327 hq at_259 (teq (((((own_law_4 (own_draw p1) (own_draw p2) (own_draw p3) (own_draw p4) (own_draw p5) (own_drb p1) (own_drb p2) (own_drb p3) (own_drb p4) (own_drb p5)).trans (if_neg hc115__291)).trans (if_pos hc124__317)).trans (if_neg hc190__323)).trans (if_pos hc212__328))).2 (o_iconst X_327 hq 1 at_262 rfl (o_goto X_327 hq (pc' := 267) at_263 ?_)))))))
      have Kp_329 : Keep h0 T_279.heap [] := (Kp_283.trans K_279 (allS (Or.inr sz_278) all0))
      have Ks_330 := (Nat.le_trans (Nat.le_trans (Nat.le_trans (Nat.le_trans (Nat.le_trans (Nat.le_trans (Nat.le_trans (Nat.le_refl h0.size) E_259.1) (Keep.of_wr W_263).1) (Keep.of_wr W_267).1) (Keep.of_wr W_271).1) (Keep.of_wr W_275).1) E_278.1) K_279.1)
      exact e_ZW X_327 hS0 e_327 Ks_330 hq hlk hrt at_267 ⟨rfl, N_327, Kp_329⟩
     ·refine o_ifNo X_327 hq at_212 (feq hc212__328).1 (o_aload X_327 hq at_215 rfl rfl (o_iload X_327 hq at_217 rfl (o_iconst X_327 hq 2 at_219 rfl ?_)))
      refine c_S3 X_327 hq e_327 hZ hown hml (k0_29 hw) (rmgdmid hw b_259 (1 : Int32) (2 : Int32) k_259 (4 : Int32) [(.int (own_draw p1)), (.int (own_draw p2)), (.int (own_draw p3)), (.int (own_draw p4))] (.int (0 : Int32)) (own_draw p3) T_279.heap n0 Zs_288 Fa_289 (by decide) (by decide) (by decide) rfl (by decide) (by decide)) at_220 ?_ 0
      rintro T_331 L_331 _ X_331 ⟨⟨⟩, Nq_331, e_331⟩
      have N_331 := Fr.app N_327 Nq_331
      by_cases hc223__332 : (own_gd_mid (own_draw p3)) = (0 : Int32)
      ·refine o_ifYes X_331 hq (pc' := 252) at_223 (teq hc223__332).1 (o_iconst X_331 hq 0 at_252 rfl (o_istore X_331 hq at_253 (l' := #[iv p1, iv p2, iv p3, iv p4, iv p5, iv p6, iv 4, rv b_259, rv b_278, iv (own_isn_4 (own_f5 (own_draw p1) (own_draw p2) (own_draw p3) (own_draw p4) (own_draw p5))), iv 1, iv (((((0 : Int32) + (own_pt (own_draw p2))) + (own_pt (own_draw p3))) + (own_pt (own_draw p4))) + (0 : Int32)), iv 0]) rfl (o_iload X_331 hq at_255 rfl (o_iload X_331 hq at_257 rfl (o_icmpNo X_331 hq at_259 (teq ((((((own_law_4 (own_draw p1) (own_draw p2) (own_draw p3) (own_draw p4) (own_draw p5) (own_drb p1) (own_drb p2) (own_drb p3) (own_drb p4) (own_drb p5)).trans (if_neg hc115__291)).trans (if_pos hc124__317)).trans (if_neg hc190__323)).trans (if_neg hc212__328)).trans (if_pos hc223__332))).2 (o_iconst X_331 hq 1 at_262 rfl (o_goto X_331 hq (pc' := 267) at_263 ?_)))))))
       have Kp_333 : Keep h0 T_279.heap [] := (Kp_283.trans K_279 (allS (Or.inr sz_278) all0))
       have Ks_334 := (Nat.le_trans (Nat.le_trans (Nat.le_trans (Nat.le_trans (Nat.le_trans (Nat.le_trans (Nat.le_trans (Nat.le_refl h0.size) E_259.1) (Keep.of_wr W_263).1) (Keep.of_wr W_267).1) (Keep.of_wr W_271).1) (Keep.of_wr W_275).1) E_278.1) K_279.1)
       exact e_ZW X_331 hS0 e_331 Ks_334 hq hlk hrt at_267 ⟨rfl, N_331, Kp_333⟩
      ·refine o_ifNo X_331 hq at_223 (feq hc223__332).1 (o_aload X_331 hq at_226 rfl rfl (o_iload X_331 hq at_228 rfl (o_iconst X_331 hq 3 at_230 rfl ?_)))
       refine c_S3 X_331 hq e_331 hZ hown hml (k0_29 hw) (rmgdhi hw b_259 (1 : Int32) (3 : Int32) k_259 (4 : Int32) [(.int (own_draw p1)), (.int (own_draw p2)), (.int (own_draw p3)), (.int (own_draw p4))] (.int (0 : Int32)) (own_draw p4) T_279.heap n0 Zs_288 Fa_289 (by decide) (by decide) (by decide) rfl (by decide) (by decide)) at_231 ?_ 0
       rintro T_335 L_335 _ X_335 ⟨⟨⟩, Nq_335, e_335⟩
       have N_335 := Fr.app N_331 Nq_335
       by_cases hc234__336 : (own_gd_hi (own_draw p4)) = (0 : Int32)
       ·refine o_ifYes X_335 hq (pc' := 252) at_234 (teq hc234__336).1 (o_iconst X_335 hq 0 at_252 rfl (o_istore X_335 hq at_253 (l' := #[iv p1, iv p2, iv p3, iv p4, iv p5, iv p6, iv 4, rv b_259, rv b_278, iv (own_isn_4 (own_f5 (own_draw p1) (own_draw p2) (own_draw p3) (own_draw p4) (own_draw p5))), iv 1, iv (((((0 : Int32) + (own_pt (own_draw p2))) + (own_pt (own_draw p3))) + (own_pt (own_draw p4))) + (0 : Int32)), iv 0]) rfl (o_iload X_335 hq at_255 rfl (o_iload X_335 hq at_257 rfl (o_icmpNo X_335 hq at_259 (teq (((((((own_law_4 (own_draw p1) (own_draw p2) (own_draw p3) (own_draw p4) (own_draw p5) (own_drb p1) (own_drb p2) (own_drb p3) (own_drb p4) (own_drb p5)).trans (if_neg hc115__291)).trans (if_pos hc124__317)).trans (if_neg hc190__323)).trans (if_neg hc212__328)).trans (if_neg hc223__332)).trans (if_pos hc234__336))).2 (o_iconst X_335 hq 1 at_262 rfl (o_goto X_335 hq (pc' := 267) at_263 ?_)))))))
        have Kp_337 : Keep h0 T_279.heap [] := (Kp_283.trans K_279 (allS (Or.inr sz_278) all0))
        have Ks_338 := (Nat.le_trans (Nat.le_trans (Nat.le_trans (Nat.le_trans (Nat.le_trans (Nat.le_trans (Nat.le_trans (Nat.le_refl h0.size) E_259.1) (Keep.of_wr W_263).1) (Keep.of_wr W_267).1) (Keep.of_wr W_271).1) (Keep.of_wr W_275).1) E_278.1) K_279.1)
        exact e_ZW X_335 hS0 e_335 Ks_338 hq hlk hrt at_267 ⟨rfl, N_335, Kp_337⟩
       ·refine o_ifNo X_335 hq at_234 (feq hc234__336).1 (o_aload X_335 hq at_237 rfl rfl (o_iload X_335 hq at_239 rfl (o_iconst X_335 hq 4 at_241 rfl ?_)))
        refine c_S3 X_335 hq e_335 hZ hown hml (k0_29 hw) (rmgoodo hw b_259 (1 : Int32) (4 : Int32) k_259 (4 : Int32) [(.int (own_draw p1)), (.int (own_draw p2)), (.int (own_draw p3)), (.int (own_draw p4))] (.int (0 : Int32)) T_279.heap n0 Zs_288 Fa_289 (by decide)) at_242 ?_ 0
        rintro T_339 L_339 _ X_339 ⟨⟨⟩, Nq_339, e_339⟩
        have N_339 := Fr.app N_335 Nq_339
        refine o_ifNo X_339 hq at_245 (by decide) (o_iconst X_339 hq 1 at_248 rfl (o_goto X_339 hq (pc' := 253) at_249 (o_istore X_339 hq at_253 (l' := #[iv p1, iv p2, iv p3, iv p4, iv p5, iv p6, iv 4, rv b_259, rv b_278, iv (own_isn_4 (own_f5 (own_draw p1) (own_draw p2) (own_draw p3) (own_draw p4) (own_draw p5))), iv 1, iv (((((0 : Int32) + (own_pt (own_draw p2))) + (own_pt (own_draw p3))) + (own_pt (own_draw p4))) + (0 : Int32)), iv 1]) rfl (o_iload X_339 hq at_255 rfl (o_iload X_339 hq at_257 rfl (o_icmpNo X_339 hq at_259 (teq (((((((own_law_4 (own_draw p1) (own_draw p2) (own_draw p3) (own_draw p4) (own_draw p5) (own_drb p1) (own_drb p2) (own_drb p3) (own_drb p4) (own_drb p5)).trans (if_neg hc115__291)).trans (if_pos hc124__317)).trans (if_neg hc190__323)).trans (if_neg hc212__328)).trans (if_neg hc223__332)).trans (if_neg hc234__336))).2 (o_iconst X_339 hq 1 at_262 rfl (o_goto X_339 hq (pc' := 267) at_263 ?_))))))))
        have Kp_340 : Keep h0 T_279.heap [] := (Kp_283.trans K_279 (allS (Or.inr sz_278) all0))
        have Ks_341 := (Nat.le_trans (Nat.le_trans (Nat.le_trans (Nat.le_trans (Nat.le_trans (Nat.le_trans (Nat.le_trans (Nat.le_refl h0.size) E_259.1) (Keep.of_wr W_263).1) (Keep.of_wr W_267).1) (Keep.of_wr W_271).1) (Keep.of_wr W_275).1) E_278.1) K_279.1)
        exact e_ZW X_339 hS0 e_339 Ks_341 hq hlk hrt at_267 ⟨rfl, N_339, Kp_340⟩
   ·refine o_icmpYes X_284 hq (pc' := 131) at_124 (feq hc124__317).2 (o_iconst X_284 hq 0 at_131 rfl (o_istore X_284 hq at_132 (l' := #[iv p1, iv p2, iv p3, iv p4, iv p5, iv p6, iv 4, rv b_259, rv b_278, iv (own_isn_4 (own_f5 (own_draw p1) (own_draw p2) (own_draw p3) (own_draw p4) (own_draw p5))), iv 0, .unset, .unset]) rfl (o_aload X_284 hq at_134 rfl rfl (o_iload X_284 hq at_136 rfl (o_iconst X_284 hq 0 at_138 rfl ?_)))))
    refine c_S3 X_284 hq e_284 hZ hown hml (k0_25 hw) (rmpti hw b_259 (0 : Int32) (0 : Int32) k_259 (4 : Int32) [(.int (own_draw p1)), (.int (own_draw p2)), (.int (own_draw p3)), (.int (own_draw p4))] (.int (0 : Int32)) (own_draw p1) T_279.heap n0 Zs_288 Fa_289 (by decide) (by decide) (by decide) rfl) at_139 ?_ 0
    rintro T_342 L_342 _ X_342 ⟨⟨⟩, Nq_342, e_342⟩
    have N_342 := Fr.app N_284 Nq_342
    refine o_aload X_342 hq at_142 rfl rfl (o_iload X_342 hq at_144 rfl (o_iconst X_342 hq 1 at_146 rfl ?_))
    refine c_S3 X_342 hq e_342 hZ hown hml (k0_25 hw) (rmpti hw b_259 (0 : Int32) (1 : Int32) k_259 (4 : Int32) [(.int (own_draw p1)), (.int (own_draw p2)), (.int (own_draw p3)), (.int (own_draw p4))] (.int (0 : Int32)) (own_draw p2) T_279.heap n0 Zs_288 Fa_289 (by decide) (by decide) (by decide) rfl) at_147 ?_ 1
    rintro T_343 L_343 _ X_343 ⟨⟨⟩, Nq_343, e_343⟩
    have N_343 := Fr.app N_342 Nq_343
    refine o_iadd X_343 hq at_150 (o_aload X_343 hq at_151 rfl rfl (o_iload X_343 hq at_153 rfl (o_iconst X_343 hq 2 at_155 rfl ?_)))
    refine c_S3 X_343 hq e_343 hZ hown hml (k0_25 hw) (rmpti hw b_259 (0 : Int32) (2 : Int32) k_259 (4 : Int32) [(.int (own_draw p1)), (.int (own_draw p2)), (.int (own_draw p3)), (.int (own_draw p4))] (.int (0 : Int32)) (own_draw p3) T_279.heap n0 Zs_288 Fa_289 (by decide) (by decide) (by decide) rfl) at_156 ?_ 1
    rintro T_344 L_344 _ X_344 ⟨⟨⟩, Nq_344, e_344⟩
    have N_344 := Fr.app N_343 Nq_344
    refine o_iadd X_344 hq at_159 (o_aload X_344 hq at_160 rfl rfl (o_iload X_344 hq at_162 rfl (o_iconst X_344 hq 3 at_164 rfl ?_)))
    refine c_S3 X_344 hq e_344 hZ hown hml (k0_25 hw) (rmpti hw b_259 (0 : Int32) (3 : Int32) k_259 (4 : Int32) [(.int (own_draw p1)), (.int (own_draw p2)), (.int (own_draw p3)), (.int (own_draw p4))] (.int (0 : Int32)) (own_draw p4) T_279.heap n0 Zs_288 Fa_289 (by decide) (by decide) (by decide) rfl) at_165 ?_ 1
    rintro T_345 L_345 _ X_345 ⟨⟨⟩, Nq_345, e_345⟩
    have N_345 := Fr.app N_344 Nq_345
    refine o_iadd X_345 hq at_168 (o_aload X_345 hq at_169 rfl rfl (o_iload X_345 hq at_171 rfl (o_iconst X_345 hq 4 at_173 rfl ?_)))
    refine c_S3 X_345 hq e_345 hZ hown hml (k0_25 hw) (rmpointo hw b_259 (0 : Int32) (4 : Int32) k_259 (4 : Int32) [(.int (own_draw p1)), (.int (own_draw p2)), (.int (own_draw p3)), (.int (own_draw p4))] (.int (0 : Int32)) T_279.heap n0 Zs_288 Fa_289 (by decide)) at_174 ?_ 1
    rintro T_346 L_346 _ X_346 ⟨⟨⟩, Nq_346, e_346⟩
    have N_346 := Fr.app N_345 Nq_346
    refine o_iadd X_346 hq at_177 (o_istore X_346 hq at_178 (l' := #[iv p1, iv p2, iv p3, iv p4, iv p5, iv p6, iv 4, rv b_259, rv b_278, iv (own_isn_4 (own_f5 (own_draw p1) (own_draw p2) (own_draw p3) (own_draw p4) (own_draw p5))), iv 0, iv (((((own_pt (own_draw p1)) + (own_pt (own_draw p2))) + (own_pt (own_draw p3))) + (own_pt (own_draw p4))) + (0 : Int32)), .unset]) rfl (o_iload X_346 hq at_180 rfl (o_iload X_346 hq at_182 rfl (o_icmpNo X_346 hq at_184 (by decide) (o_iload X_346 hq at_187 rfl (o_iconst X_346 hq 1 at_189 rfl ?_))))))
    by_cases hc190__347 : (1 : Int32) < (((((own_pt (own_draw p1)) + (own_pt (own_draw p2))) + (own_pt (own_draw p3))) + (own_pt (own_draw p4))) + (0 : Int32))
    ·refine o_icmpYes X_346 hq (pc' := 252) at_190 (tlt hc190__347).2.2.1 (o_iconst X_346 hq 0 at_252 rfl (o_istore X_346 hq at_253 (l' := #[iv p1, iv p2, iv p3, iv p4, iv p5, iv p6, iv 4, rv b_259, rv b_278, iv (own_isn_4 (own_f5 (own_draw p1) (own_draw p2) (own_draw p3) (own_draw p4) (own_draw p5))), iv 0, iv (((((own_pt (own_draw p1)) + (own_pt (own_draw p2))) + (own_pt (own_draw p3))) + (own_pt (own_draw p4))) + (0 : Int32)), iv 0]) rfl (o_iload X_346 hq at_255 rfl (o_iload X_346 hq at_257 rfl (o_icmpNo X_346 hq at_259 (teq ((((own_law_4 (own_draw p1) (own_draw p2) (own_draw p3) (own_draw p4) (own_draw p5) (own_drb p1) (own_drb p2) (own_drb p3) (own_drb p4) (own_drb p5)).trans (if_neg hc115__291)).trans (if_neg hc124__317)).trans (if_pos hc190__347))).2 (o_iconst X_346 hq 1 at_262 rfl (o_goto X_346 hq (pc' := 267) at_263 ?_)))))))
     have Kp_348 : Keep h0 T_279.heap [] := (Kp_283.trans K_279 (allS (Or.inr sz_278) all0))
     have Ks_349 := (Nat.le_trans (Nat.le_trans (Nat.le_trans (Nat.le_trans (Nat.le_trans (Nat.le_trans (Nat.le_trans (Nat.le_refl h0.size) E_259.1) (Keep.of_wr W_263).1) (Keep.of_wr W_267).1) (Keep.of_wr W_271).1) (Keep.of_wr W_275).1) E_278.1) K_279.1)
     exact e_ZW X_346 hS0 e_346 Ks_349 hq hlk hrt at_267 ⟨rfl, N_346, Kp_348⟩
    ·refine o_icmpNo X_346 hq at_190 (flt hc190__347).2.2.1 (o_aload X_346 hq at_193 rfl rfl (o_iload X_346 hq at_195 rfl (o_iconst X_346 hq 0 at_197 rfl ?_)))
     refine c_S3 X_346 hq e_346 hZ hown hml (k0_29 hw) (rmgdlo hw b_259 (0 : Int32) (0 : Int32) k_259 (4 : Int32) [(.int (own_draw p1)), (.int (own_draw p2)), (.int (own_draw p3)), (.int (own_draw p4))] (.int (0 : Int32)) (own_draw p1) T_279.heap n0 Zs_288 Fa_289 (by decide) (by decide) (by decide) rfl (by decide)) at_198 ?_ 0
     rintro T_350 L_350 _ X_350 ⟨⟨⟩, Nq_350, e_350⟩
     have N_350 := Fr.app N_346 Nq_350
     by_cases hc201__351 : (own_gd_lo (own_draw p1)) = (0 : Int32)
     ·refine o_ifYes X_350 hq (pc' := 252) at_201 (teq hc201__351).1 (o_iconst X_350 hq 0 at_252 rfl (o_istore X_350 hq at_253 (l' := #[iv p1, iv p2, iv p3, iv p4, iv p5, iv p6, iv 4, rv b_259, rv b_278, iv (own_isn_4 (own_f5 (own_draw p1) (own_draw p2) (own_draw p3) (own_draw p4) (own_draw p5))), iv 0, iv (((((own_pt (own_draw p1)) + (own_pt (own_draw p2))) + (own_pt (own_draw p3))) + (own_pt (own_draw p4))) + (0 : Int32)), iv 0]) rfl (o_iload X_350 hq at_255 rfl (o_iload X_350 hq at_257 rfl (o_icmpNo X_350 hq at_259 (teq (((((own_law_4 (own_draw p1) (own_draw p2) (own_draw p3) (own_draw p4) (own_draw p5) (own_drb p1) (own_drb p2) (own_drb p3) (own_drb p4) (own_drb p5)).trans (if_neg hc115__291)).trans (if_neg hc124__317)).trans (if_neg hc190__347)).trans (if_pos hc201__351))).2 (o_iconst X_350 hq 1 at_262 rfl (o_goto X_350 hq (pc' := 267) at_263 ?_)))))))
      have Kp_352 : Keep h0 T_279.heap [] := (Kp_283.trans K_279 (allS (Or.inr sz_278) all0))
      have Ks_353 := (Nat.le_trans (Nat.le_trans (Nat.le_trans (Nat.le_trans (Nat.le_trans (Nat.le_trans (Nat.le_trans (Nat.le_refl h0.size) E_259.1) (Keep.of_wr W_263).1) (Keep.of_wr W_267).1) (Keep.of_wr W_271).1) (Keep.of_wr W_275).1) E_278.1) K_279.1)
      exact e_ZW X_350 hS0 e_350 Ks_353 hq hlk hrt at_267 ⟨rfl, N_350, Kp_352⟩
     ·refine o_ifNo X_350 hq at_201 (feq hc201__351).1 (o_aload X_350 hq at_204 rfl rfl (o_iload X_350 hq at_206 rfl (o_iconst X_350 hq 1 at_208 rfl ?_)))
      refine c_S3 X_350 hq e_350 hZ hown hml (k0_29 hw) (rmgdmid hw b_259 (0 : Int32) (1 : Int32) k_259 (4 : Int32) [(.int (own_draw p1)), (.int (own_draw p2)), (.int (own_draw p3)), (.int (own_draw p4))] (.int (0 : Int32)) (own_draw p2) T_279.heap n0 Zs_288 Fa_289 (by decide) (by decide) (by decide) rfl (by decide) (by decide)) at_209 ?_ 0
      rintro T_354 L_354 _ X_354 ⟨⟨⟩, Nq_354, e_354⟩
      have N_354 := Fr.app N_350 Nq_354
      by_cases hc212__355 : (own_gd_mid (own_draw p2)) = (0 : Int32)
      ·refine o_ifYes X_354 hq (pc' := 252) at_212 (teq hc212__355).1 (o_iconst X_354 hq 0 at_252 rfl (o_istore X_354 hq at_253 (l' := #[iv p1, iv p2, iv p3, iv p4, iv p5, iv p6, iv 4, rv b_259, rv b_278, iv (own_isn_4 (own_f5 (own_draw p1) (own_draw p2) (own_draw p3) (own_draw p4) (own_draw p5))), iv 0, iv (((((own_pt (own_draw p1)) + (own_pt (own_draw p2))) + (own_pt (own_draw p3))) + (own_pt (own_draw p4))) + (0 : Int32)), iv 0]) rfl (o_iload X_354 hq at_255 rfl (o_iload X_354 hq at_257 rfl (o_icmpNo X_354 hq at_259 (teq ((((((own_law_4 (own_draw p1) (own_draw p2) (own_draw p3) (own_draw p4) (own_draw p5) (own_drb p1) (own_drb p2) (own_drb p3) (own_drb p4) (own_drb p5)).trans (if_neg hc115__291)).trans (if_neg hc124__317)).trans (if_neg hc190__347)).trans (if_neg hc201__351)).trans (if_pos hc212__355))).2 (o_iconst X_354 hq 1 at_262 rfl (o_goto X_354 hq (pc' := 267) at_263 ?_)))))))
       have Kp_356 : Keep h0 T_279.heap [] := (Kp_283.trans K_279 (allS (Or.inr sz_278) all0))
       have Ks_357 := (Nat.le_trans (Nat.le_trans (Nat.le_trans (Nat.le_trans (Nat.le_trans (Nat.le_trans (Nat.le_trans (Nat.le_refl h0.size) E_259.1) (Keep.of_wr W_263).1) (Keep.of_wr W_267).1) (Keep.of_wr W_271).1) (Keep.of_wr W_275).1) E_278.1) K_279.1)
       exact e_ZW X_354 hS0 e_354 Ks_357 hq hlk hrt at_267 ⟨rfl, N_354, Kp_356⟩
      ·refine o_ifNo X_354 hq at_212 (feq hc212__355).1 (o_aload X_354 hq at_215 rfl rfl (o_iload X_354 hq at_217 rfl (o_iconst X_354 hq 2 at_219 rfl ?_)))
       refine c_S3 X_354 hq e_354 hZ hown hml (k0_29 hw) (rmgdmid hw b_259 (0 : Int32) (2 : Int32) k_259 (4 : Int32) [(.int (own_draw p1)), (.int (own_draw p2)), (.int (own_draw p3)), (.int (own_draw p4))] (.int (0 : Int32)) (own_draw p3) T_279.heap n0 Zs_288 Fa_289 (by decide) (by decide) (by decide) rfl (by decide) (by decide)) at_220 ?_ 0
       rintro T_358 L_358 _ X_358 ⟨⟨⟩, Nq_358, e_358⟩
       have N_358 := Fr.app N_354 Nq_358
       by_cases hc223__359 : (own_gd_mid (own_draw p3)) = (0 : Int32)
       ·refine o_ifYes X_358 hq (pc' := 252) at_223 (teq hc223__359).1 (o_iconst X_358 hq 0 at_252 rfl (o_istore X_358 hq at_253 (l' := #[iv p1, iv p2, iv p3, iv p4, iv p5, iv p6, iv 4, rv b_259, rv b_278, iv (own_isn_4 (own_f5 (own_draw p1) (own_draw p2) (own_draw p3) (own_draw p4) (own_draw p5))), iv 0, iv (((((own_pt (own_draw p1)) + (own_pt (own_draw p2))) + (own_pt (own_draw p3))) + (own_pt (own_draw p4))) + (0 : Int32)), iv 0]) rfl (o_iload X_358 hq at_255 rfl (o_iload X_358 hq at_257 rfl (o_icmpNo X_358 hq at_259 (teq (((((((own_law_4 (own_draw p1) (own_draw p2) (own_draw p3) (own_draw p4) (own_draw p5) (own_drb p1) (own_drb p2) (own_drb p3) (own_drb p4) (own_drb p5)).trans (if_neg hc115__291)).trans (if_neg hc124__317)).trans (if_neg hc190__347)).trans (if_neg hc201__351)).trans (if_neg hc212__355)).trans (if_pos hc223__359))).2 (o_iconst X_358 hq 1 at_262 rfl (o_goto X_358 hq (pc' := 267) at_263 ?_)))))))
        have Kp_360 : Keep h0 T_279.heap [] := (Kp_283.trans K_279 (allS (Or.inr sz_278) all0))
        have Ks_361 := (Nat.le_trans (Nat.le_trans (Nat.le_trans (Nat.le_trans (Nat.le_trans (Nat.le_trans (Nat.le_trans (Nat.le_refl h0.size) E_259.1) (Keep.of_wr W_263).1) (Keep.of_wr W_267).1) (Keep.of_wr W_271).1) (Keep.of_wr W_275).1) E_278.1) K_279.1)
        exact e_ZW X_358 hS0 e_358 Ks_361 hq hlk hrt at_267 ⟨rfl, N_358, Kp_360⟩
       ·refine o_ifNo X_358 hq at_223 (feq hc223__359).1 (o_aload X_358 hq at_226 rfl rfl (o_iload X_358 hq at_228 rfl (o_iconst X_358 hq 3 at_230 rfl ?_)))
        refine c_S3 X_358 hq e_358 hZ hown hml (k0_29 hw) (rmgdhi hw b_259 (0 : Int32) (3 : Int32) k_259 (4 : Int32) [(.int (own_draw p1)), (.int (own_draw p2)), (.int (own_draw p3)), (.int (own_draw p4))] (.int (0 : Int32)) (own_draw p4) T_279.heap n0 Zs_288 Fa_289 (by decide) (by decide) (by decide) rfl (by decide) (by decide)) at_231 ?_ 0
        rintro T_362 L_362 _ X_362 ⟨⟨⟩, Nq_362, e_362⟩
        have N_362 := Fr.app N_358 Nq_362
        by_cases hc234__363 : (own_gd_hi (own_draw p4)) = (0 : Int32)
        ·refine o_ifYes X_362 hq (pc' := 252) at_234 (teq hc234__363).1 (o_iconst X_362 hq 0 at_252 rfl (o_istore X_362 hq at_253 (l' := #[iv p1, iv p2, iv p3, iv p4, iv p5, iv p6, iv 4, rv b_259, rv b_278, iv (own_isn_4 (own_f5 (own_draw p1) (own_draw p2) (own_draw p3) (own_draw p4) (own_draw p5))), iv 0, iv (((((own_pt (own_draw p1)) + (own_pt (own_draw p2))) + (own_pt (own_draw p3))) + (own_pt (own_draw p4))) + (0 : Int32)), iv 0]) rfl (o_iload X_362 hq at_255 rfl (o_iload X_362 hq at_257 rfl (o_icmpNo X_362 hq at_259 (teq ((((((((own_law_4 (own_draw p1) (own_draw p2) (own_draw p3) (own_draw p4) (own_draw p5) (own_drb p1) (own_drb p2) (own_drb p3) (own_drb p4) (own_drb p5)).trans (if_neg hc115__291)).trans (if_neg hc124__317)).trans (if_neg hc190__347)).trans (if_neg hc201__351)).trans (if_neg hc212__355)).trans (if_neg hc223__359)).trans (if_pos hc234__363))).2 (o_iconst X_362 hq 1 at_262 rfl (o_goto X_362 hq (pc' := 267) at_263 ?_)))))))
         have Kp_364 : Keep h0 T_279.heap [] := (Kp_283.trans K_279 (allS (Or.inr sz_278) all0))
         have Ks_365 := (Nat.le_trans (Nat.le_trans (Nat.le_trans (Nat.le_trans (Nat.le_trans (Nat.le_trans (Nat.le_trans (Nat.le_refl h0.size) E_259.1) (Keep.of_wr W_263).1) (Keep.of_wr W_267).1) (Keep.of_wr W_271).1) (Keep.of_wr W_275).1) E_278.1) K_279.1)
         exact e_ZW X_362 hS0 e_362 Ks_365 hq hlk hrt at_267 ⟨rfl, N_362, Kp_364⟩
        ·refine o_ifNo X_362 hq at_234 (feq hc234__363).1 (o_aload X_362 hq at_237 rfl rfl (o_iload X_362 hq at_239 rfl (o_iconst X_362 hq 4 at_241 rfl ?_)))
         refine c_S3 X_362 hq e_362 hZ hown hml (k0_29 hw) (rmgoodo hw b_259 (0 : Int32) (4 : Int32) k_259 (4 : Int32) [(.int (own_draw p1)), (.int (own_draw p2)), (.int (own_draw p3)), (.int (own_draw p4))] (.int (0 : Int32)) T_279.heap n0 Zs_288 Fa_289 (by decide)) at_242 ?_ 0
         rintro T_366 L_366 _ X_366 ⟨⟨⟩, Nq_366, e_366⟩
         have N_366 := Fr.app N_362 Nq_366
         refine o_ifNo X_366 hq at_245 (by decide) (o_iconst X_366 hq 1 at_248 rfl (o_goto X_366 hq (pc' := 253) at_249 (o_istore X_366 hq at_253 (l' := #[iv p1, iv p2, iv p3, iv p4, iv p5, iv p6, iv 4, rv b_259, rv b_278, iv (own_isn_4 (own_f5 (own_draw p1) (own_draw p2) (own_draw p3) (own_draw p4) (own_draw p5))), iv 0, iv (((((own_pt (own_draw p1)) + (own_pt (own_draw p2))) + (own_pt (own_draw p3))) + (own_pt (own_draw p4))) + (0 : Int32)), iv 1]) rfl (o_iload X_366 hq at_255 rfl (o_iload X_366 hq at_257 rfl (o_icmpNo X_366 hq at_259 (teq ((((((((own_law_4 (own_draw p1) (own_draw p2) (own_draw p3) (own_draw p4) (own_draw p5) (own_drb p1) (own_drb p2) (own_drb p3) (own_drb p4) (own_drb p5)).trans (if_neg hc115__291)).trans (if_neg hc124__317)).trans (if_neg hc190__347)).trans (if_neg hc201__351)).trans (if_neg hc212__355)).trans (if_neg hc223__359)).trans (if_neg hc234__363))).2 (o_iconst X_366 hq 1 at_262 rfl (o_goto X_366 hq (pc' := 267) at_263 ?_))))))))
         have Kp_367 : Keep h0 T_279.heap [] := (Kp_283.trans K_279 (allS (Or.inr sz_278) all0))
         have Ks_368 := (Nat.le_trans (Nat.le_trans (Nat.le_trans (Nat.le_trans (Nat.le_trans (Nat.le_trans (Nat.le_trans (Nat.le_refl h0.size) E_259.1) (Keep.of_wr W_263).1) (Keep.of_wr W_267).1) (Keep.of_wr W_271).1) (Keep.of_wr W_275).1) E_278.1) K_279.1)
         exact e_ZW X_366 hS0 e_366 Ks_368 hq hlk hrt at_267 ⟨rfl, N_366, Kp_367⟩
 ·rw [hL]
  show own_Go _ _ _ _ (s₁.setTop (mkF m 10 #[iv p1, iv p2, iv p3, iv p4, iv p5, iv p6, iv 5, .unset, .unset, .unset, .unset, .unset, .unset] []))
  refine o_iload X0 hq at_10 rfl ?_
  obtain ⟨T_369, h_369, k_369, X_369, e_369, E_369, A_369, st_369⟩ := newP X0 hx hZ (w_ hw 1 rfl) e0 (g := (mkF m 12 #[iv p1, iv p2, iv p3, iv p4, iv p5, iv p6, iv 5, .unset, .unset, .unset, .unset, .unset, .unset] [(.int 5)])) rfl (hb hby at_12) rfl (by decide) (cap := 5) (by decide) (by decide) (by decide) (by decide)
  obtain ⟨b_369, g_369⟩ : ∃ z, z = h0.size := ⟨_, rfl⟩
  rw [← g_369] at A_369 st_369
  have V_369 : Arv Z h_369 b_369 k_369 .char (5 : Int32) [(.int (0 : Int32)), (.int (0 : Int32)), (.int (0 : Int32)), (.int (0 : Int32)), (.int (0 : Int32))] (.int (0 : Int32)) := (Arv.new A_369 (by decide)).pad (pad_rep [] (.int (0 : Int32)) 5)
  have gg_369 : n0 ≤ b_369 := Nat.le_trans Z0 (Nat.le_of_eq g_369.symm)
  have sz_369 : h0.size ≤ b_369 := Nat.le_trans (Keep.refl h0 []).1 (Nat.le_of_eq g_369.symm)
  refine own_st st_369 ?_
  show own_Go _ _ _ _ (T_369.setTop (mkF m 14 #[iv p1, iv p2, iv p3, iv p4, iv p5, iv p6, iv 5, .unset, .unset, .unset, .unset, .unset, .unset] [(.ref b_369)]))
  refine o_astore X_369 hq at_14 rfl (l' := #[iv p1, iv p2, iv p3, iv p4, iv p5, iv p6, iv 5, rv b_369, .unset, .unset, .unset, .unset, .unset]) rfl (o_iload X_369 hq at_16 rfl (o_ifNo X_369 hq at_18 (by decide) (o_aload X_369 hq at_21 rfl rfl (o_iconst X_369 hq 0 at_23 rfl (o_iloadN X_369 hq at_24 rfl ?_)))))
  have Zs_371 : n0 ≤ h_369.size := (Nat.le_trans Z0 E_369.1)
  refine c_S1 X_369 hq e_369 hZ hown hml (k0_8 hw) (rm1 hw p1  h_369 n0 Zs_371) at_25 ?_ 2
  rintro T_370 L_370 _ X_370 ⟨⟨⟩, Nq_370, e_370⟩
  have N_370 := Fr.app N0 Nq_370
  obtain ⟨cl_372, Ar_372, qk_372, Sz_372, Ng_372, Hs_372, Gs_372⟩ := id V_369
  obtain ⟨T_373, h_373, X_373, e_373, W_373, st_373⟩ := stC X_370 hx hZ e_370 Ar_372 (j := (0 : Int32)) (inb_of Sz_372 ⟨by decide, by decide⟩) (g := (mkF m 28 #[iv p1, iv p2, iv p3, iv p4, iv p5, iv p6, iv 5, rv b_369, .unset, .unset, .unset, .unset, .unset] [(.int (own_draw p1)), (.int 0), (.ref b_369)])) rfl rfl (hb hby at_28)
  refine own_st st_373 ?_
  have V_373 : Arv Z h_373 b_369 k_369 .char (5 : Int32) [(.int (own_draw p1)), (.int (0 : Int32)), (.int (0 : Int32)), (.int (0 : Int32)), (.int (0 : Int32))] (.int (0 : Int32)) := by have q := Arv.set Ar_372 qk_372 Sz_372 Ng_372 Hs_372 Gs_372 (fits_nar_char _) W_373 0 rfl (Nat.le_of_ble_eq_true rfl); rw [own_drn] at q; exact q
  have N_373 := Fr.snoc X_373 N_370 gg_369
  show own_Go _ _ _ _ (T_373.setTop (mkF m 29 #[iv p1, iv p2, iv p3, iv p4, iv p5, iv p6, iv 5, rv b_369, .unset, .unset, .unset, .unset, .unset] []))
  refine o_iload X_373 hq at_29 rfl (o_iconst X_373 hq 1 at_31 rfl (o_icmpNo X_373 hq at_32 (by decide) (o_aload X_373 hq at_35 rfl rfl (o_iconst X_373 hq 1 at_37 rfl (o_iloadN X_373 hq at_38 rfl ?_)))))
  have Zs_375 : n0 ≤ h_373.size := (Nat.le_trans Zs_371 (Keep.of_wr W_373).1)
  refine c_S1 X_373 hq e_373 hZ hown hml (k0_8 hw) (rm1 hw p2  h_373 n0 Zs_375) at_39 ?_ 2
  rintro T_374 L_374 _ X_374 ⟨⟨⟩, Nq_374, e_374⟩
  have N_374 := Fr.app N_373 Nq_374
  obtain ⟨cl_376, Ar_376, qk_376, Sz_376, Ng_376, Hs_376, Gs_376⟩ := id V_373
  obtain ⟨T_377, h_377, X_377, e_377, W_377, st_377⟩ := stC X_374 hx hZ e_374 Ar_376 (j := (1 : Int32)) (inb_of Sz_376 ⟨by decide, by decide⟩) (g := (mkF m 42 #[iv p1, iv p2, iv p3, iv p4, iv p5, iv p6, iv 5, rv b_369, .unset, .unset, .unset, .unset, .unset] [(.int (own_draw p2)), (.int 1), (.ref b_369)])) rfl rfl (hb hby at_42)
  refine own_st st_377 ?_
  have V_377 : Arv Z h_377 b_369 k_369 .char (5 : Int32) [(.int (own_draw p1)), (.int (own_draw p2)), (.int (0 : Int32)), (.int (0 : Int32)), (.int (0 : Int32))] (.int (0 : Int32)) := by have q := Arv.set Ar_376 qk_376 Sz_376 Ng_376 Hs_376 Gs_376 (fits_nar_char _) W_377 1 rfl (Nat.le_of_ble_eq_true rfl); rw [own_drn] at q; exact q
  have N_377 := Fr.snoc X_377 N_374 gg_369
  show own_Go _ _ _ _ (T_377.setTop (mkF m 43 #[iv p1, iv p2, iv p3, iv p4, iv p5, iv p6, iv 5, rv b_369, .unset, .unset, .unset, .unset, .unset] []))
  refine o_iload X_377 hq at_43 rfl (o_iconst X_377 hq 2 at_45 rfl (o_icmpNo X_377 hq at_46 (by decide) (o_aload X_377 hq at_49 rfl rfl (o_iconst X_377 hq 2 at_51 rfl (o_iloadN X_377 hq at_52 rfl ?_)))))
  have Zs_379 : n0 ≤ h_377.size := (Nat.le_trans Zs_375 (Keep.of_wr W_377).1)
  refine c_S1 X_377 hq e_377 hZ hown hml (k0_8 hw) (rm1 hw p3  h_377 n0 Zs_379) at_53 ?_ 2
  rintro T_378 L_378 _ X_378 ⟨⟨⟩, Nq_378, e_378⟩
  have N_378 := Fr.app N_377 Nq_378
  obtain ⟨cl_380, Ar_380, qk_380, Sz_380, Ng_380, Hs_380, Gs_380⟩ := id V_377
  obtain ⟨T_381, h_381, X_381, e_381, W_381, st_381⟩ := stC X_378 hx hZ e_378 Ar_380 (j := (2 : Int32)) (inb_of Sz_380 ⟨by decide, by decide⟩) (g := (mkF m 56 #[iv p1, iv p2, iv p3, iv p4, iv p5, iv p6, iv 5, rv b_369, .unset, .unset, .unset, .unset, .unset] [(.int (own_draw p3)), (.int 2), (.ref b_369)])) rfl rfl (hb hby at_56)
  refine own_st st_381 ?_
  have V_381 : Arv Z h_381 b_369 k_369 .char (5 : Int32) [(.int (own_draw p1)), (.int (own_draw p2)), (.int (own_draw p3)), (.int (0 : Int32)), (.int (0 : Int32))] (.int (0 : Int32)) := by have q := Arv.set Ar_380 qk_380 Sz_380 Ng_380 Hs_380 Gs_380 (fits_nar_char _) W_381 2 rfl (Nat.le_of_ble_eq_true rfl); rw [own_drn] at q; exact q
  have N_381 := Fr.snoc X_381 N_378 gg_369
  show own_Go _ _ _ _ (T_381.setTop (mkF m 57 #[iv p1, iv p2, iv p3, iv p4, iv p5, iv p6, iv 5, rv b_369, .unset, .unset, .unset, .unset, .unset] []))
  refine o_iload X_381 hq at_57 rfl (o_iconst X_381 hq 3 at_59 rfl (o_icmpNo X_381 hq at_60 (by decide) (o_aload X_381 hq at_63 rfl rfl (o_iconst X_381 hq 3 at_65 rfl (o_iloadN X_381 hq at_66 rfl ?_)))))
  have Zs_383 : n0 ≤ h_381.size := (Nat.le_trans Zs_379 (Keep.of_wr W_381).1)
  refine c_S1 X_381 hq e_381 hZ hown hml (k0_8 hw) (rm1 hw p4  h_381 n0 Zs_383) at_67 ?_ 2
  rintro T_382 L_382 _ X_382 ⟨⟨⟩, Nq_382, e_382⟩
  have N_382 := Fr.app N_381 Nq_382
  obtain ⟨cl_384, Ar_384, qk_384, Sz_384, Ng_384, Hs_384, Gs_384⟩ := id V_381
  obtain ⟨T_385, h_385, X_385, e_385, W_385, st_385⟩ := stC X_382 hx hZ e_382 Ar_384 (j := (3 : Int32)) (inb_of Sz_384 ⟨by decide, by decide⟩) (g := (mkF m 70 #[iv p1, iv p2, iv p3, iv p4, iv p5, iv p6, iv 5, rv b_369, .unset, .unset, .unset, .unset, .unset] [(.int (own_draw p4)), (.int 3), (.ref b_369)])) rfl rfl (hb hby at_70)
  refine own_st st_385 ?_
  have V_385 : Arv Z h_385 b_369 k_369 .char (5 : Int32) [(.int (own_draw p1)), (.int (own_draw p2)), (.int (own_draw p3)), (.int (own_draw p4)), (.int (0 : Int32))] (.int (0 : Int32)) := by have q := Arv.set Ar_384 qk_384 Sz_384 Ng_384 Hs_384 Gs_384 (fits_nar_char _) W_385 3 rfl (Nat.le_of_ble_eq_true rfl); rw [own_drn] at q; exact q
  have N_385 := Fr.snoc X_385 N_382 gg_369
  show own_Go _ _ _ _ (T_385.setTop (mkF m 71 #[iv p1, iv p2, iv p3, iv p4, iv p5, iv p6, iv 5, rv b_369, .unset, .unset, .unset, .unset, .unset] []))
  refine o_iload X_385 hq at_71 rfl (o_iconst X_385 hq 4 at_73 rfl (o_icmpNo X_385 hq at_74 (by decide) (o_aload X_385 hq at_77 rfl rfl (o_iconst X_385 hq 4 at_79 rfl (o_iload X_385 hq at_80 rfl ?_)))))
  have Zs_387 : n0 ≤ h_385.size := (Nat.le_trans Zs_383 (Keep.of_wr W_385).1)
  refine c_S1 X_385 hq e_385 hZ hown hml (k0_8 hw) (rm1 hw p5  h_385 n0 Zs_387) at_82 ?_ 2
  rintro T_386 L_386 _ X_386 ⟨⟨⟩, Nq_386, e_386⟩
  have N_386 := Fr.app N_385 Nq_386
  obtain ⟨cl_388, Ar_388, qk_388, Sz_388, Ng_388, Hs_388, Gs_388⟩ := id V_385
  obtain ⟨T_389, h_389, X_389, e_389, W_389, st_389⟩ := stC X_386 hx hZ e_386 Ar_388 (j := (4 : Int32)) (inb_of Sz_388 ⟨by decide, by decide⟩) (g := (mkF m 85 #[iv p1, iv p2, iv p3, iv p4, iv p5, iv p6, iv 5, rv b_369, .unset, .unset, .unset, .unset, .unset] [(.int (own_draw p5)), (.int 4), (.ref b_369)])) rfl rfl (hb hby at_85)
  refine own_st st_389 ?_
  have V_389 : Arv Z h_389 b_369 k_369 .char (5 : Int32) [(.int (own_draw p1)), (.int (own_draw p2)), (.int (own_draw p3)), (.int (own_draw p4)), (.int (own_draw p5))] (.int (0 : Int32)) := by have q := Arv.set Ar_388 qk_388 Sz_388 Ng_388 Hs_388 Gs_388 (fits_nar_char _) W_389 4 rfl (Nat.le_of_ble_eq_true rfl); rw [own_drn] at q; exact q
  have N_389 := Fr.snoc X_389 N_386 gg_369
  show own_Go _ _ _ _ (T_389.setTop (mkF m 86 #[iv p1, iv p2, iv p3, iv p4, iv p5, iv p6, iv 5, rv b_369, .unset, .unset, .unset, .unset, .unset] []))
  have Zs_390 : n0 ≤ h_389.size := (Nat.le_trans Zs_387 (Keep.of_wr W_389).1)
  have Kp_391 : Keep h0 h_389 [] := (((((((Keep.refl h0 []).ext E_369).wr W_373 (Or.inr sz_369)).wr W_377 (Or.inr sz_369)).wr W_381 (Or.inr sz_369)).wr W_385 (Or.inr sz_369)).wr W_389 (Or.inr sz_369))
  obtain ⟨T_392, h_392, X_392, e_392, E_392, A_392, D_392, -, st_392⟩ := newO X_389 hx hZ hown (w_ hw 6 rfl) (w_ hw 7 rfl) (w_ hw 8 rfl) e_389 (g := (mkF m 86 #[iv p1, iv p2, iv p3, iv p4, iv p5, iv p6, iv 5, rv b_369, .unset, .unset, .unset, .unset, .unset] [])) rfl (hb hby at_86) (by decide) (by decide)
  obtain ⟨b_392, g_392⟩ : ∃ z, z = h_389.size := ⟨_, rfl⟩
  rw [← g_392] at A_392 D_392 st_392
  have gg_392 : n0 ≤ b_392 := Nat.le_trans Zs_390 (Nat.le_of_eq g_392.symm)
  have sz_392 : h0.size ≤ b_392 := Nat.le_trans Kp_391.1 (Nat.le_of_eq g_392.symm)
  have Fi_392_coder : Fld Z h_392 b_392 "java/lang/String" "coder" "B" (.int (0 : Int32)) := D_392 (Or.inr (w_ hw 32 rfl)) (ty := .byte) (by decide)
  have Fi_392_value : Fld Z h_392 b_392 "java/lang/String" "value" "[B" .null := D_392 (Or.inr (w_ hw 34 rfl)) (ty := (.array .byte)) (by decide)
  refine own_st st_392 ?_
  show own_Go _ _ _ _ (T_392.setTop (mkF m 89 #[iv p1, iv p2, iv p3, iv p4, iv p5, iv p6, iv 5, rv b_369, .unset, .unset, .unset, .unset, .unset] [(.ref b_392)]))
  refine o_dup X_392 hq at_89 rfl (o_aload X_392 hq at_90 rfl rfl ?_)
  have Fa_394 := (V_389.ext E_392)
  have Fa_395 := (((((((S1.ext E_369).wr W_373).wr W_377).wr W_381).wr W_385).wr W_389).ext E_392)
  have Zs_396 : n0 ≤ h_392.size := (Nat.le_trans Zs_390 E_392.1)
  refine c_I1v X_392 hq e_392 hZ hown hml (k0_16 hw) (rmiA5 hw b_392 b_369 k_369 (.int (0 : Int32)) w (own_draw p1) (own_draw p2) (own_draw p3) (own_draw p4) (own_draw p5) h_392 n0 Zs_396 A_392 gg_392 Fi_392_value Fi_392_coder Fa_394 (own_drb _).1 (own_drb _).1 (own_drb _).1 (own_drb _).1 (own_drb _).1 Fa_395 hw0) at_92 ?_ 1
  rintro T_393 L_393 X_393 ⟨b__393, kb__393, -, Nq_393, K_393, gq_393_b, sq_393_b, Fq_393_0, Fq_393_1, Fq_393_2⟩
  have N_393 := Fr.app N_389 Nq_393
  have Kp_397 : Keep h0 h_392 [] := (Kp_391.ext E_392)
  have szq_393_b : h0.size ≤ b__393 := Nat.le_trans Kp_397.1 sq_393_b
  refine o_astore X_393 hq at_95 rfl (l' := #[iv p1, iv p2, iv p3, iv p4, iv p5, iv p6, iv 5, rv b_369, rv b_392, .unset, .unset, .unset, .unset]) rfl (o_aload X_393 hq at_97 rfl rfl ?_)
  have Fa_399 := (A_392.keep K_393)
  have Fa_400 := (own_Sta_keep Fa_395 K_393 (nsS (A_392.nostat) ns0))
  have Fa_401 := (own_Sta_keep (((((((S2.ext E_369).wr W_373).wr W_377).wr W_381).wr W_385).wr W_389).ext E_392) K_393 (nsS (A_392.nostat) ns0))
  have Zs_402 : n0 ≤ T_393.heap.size := (Nat.le_trans Zs_396 K_393.1)
  refine c_S1 X_393 hq rfl hZ hown hml (k0_19 hw) (rmisn5 hw b_392 b__393 kb__393 [(.int (((own_draw p1).toInt8.toInt32).toInt8.toInt32)), (.int (((own_draw p2).toInt8.toInt32).toInt8.toInt32)), (.int (((own_draw p3).toInt8.toInt32).toInt8.toInt32)), (.int (((own_draw p4).toInt8.toInt32).toInt8.toInt32)), (.int (((own_draw p5).toInt8.toInt32).toInt8.toInt32))] (.int (0 : Int32)) w sfv (own_f5 (own_draw p1) (own_draw p2) (own_draw p3) (own_draw p4) (own_draw p5)) T_393.heap n0 Zs_402 Fa_399 Fq_393_0 Fq_393_1 Fq_393_2 Fa_400 hw0 (own_fat5 _ _ _ _ _) (own_fbd (own_drb p1) (own_drb p2) (own_drb p3) (own_drb p4) (own_drb p5)) Fa_401 hsf) at_99 ?_ 0
  rintro T_398 L_398 _ X_398 ⟨⟨⟩, Nq_398, e_398⟩
  have N_398 := Fr.app N_393 Nq_398
  refine o_istore X_398 hq at_102 (l' := #[iv p1, iv p2, iv p3, iv p4, iv p5, iv p6, iv 5, rv b_369, rv b_392, iv (own_isn_5 (own_f5 (own_draw p1) (own_draw p2) (own_draw p3) (own_draw p4) (own_draw p5))), .unset, .unset, .unset]) rfl (o_iload X_398 hq at_104 rfl (o_ifNo X_398 hq at_106 (by decide) (o_aload X_398 hq at_109 rfl rfl (o_iconst X_398 hq 0 at_111 rfl ?_))))
  have Fa_403 := (Fa_394.keep K_393 (ninS (Nat.ne_of_lt (Nat.lt_of_lt_of_le V_389.lt (Nat.le_of_eq g_392.symm))) nin0))
  obtain ⟨cl_404, Ar_404, qk_404, Sz_404, Ng_404, Hs_404, Gs_404⟩ := id Fa_403
  refine own_st (X_398.caload hx (j := (0 : Int32)) (v := (.int (own_draw p1))) (by rw [e_398]; exact Ar_404.1) (State.isArrayOf_alike hZ.alike Ar_404.2.1) Ar_404.2.2 (inb_of Sz_404 ⟨by decide, by decide⟩) (Hs_404.at (j := (0 : Int32)) (inb_of Sz_404 ⟨by decide, by decide⟩) rfl) (g := (mkF m 112 #[iv p1, iv p2, iv p3, iv p4, iv p5, iv p6, iv 5, rv b_369, rv b_392, iv (own_isn_5 (own_f5 (own_draw p1) (own_draw p2) (own_draw p3) (own_draw p4) (own_draw p5))), .unset, .unset, .unset] [(.int 0), (.ref b_369)])) rfl rfl (hb hby at_112)) ?_
  show own_Go _ _ _ _ (T_398.setTop (mkF m 113 #[iv p1, iv p2, iv p3, iv p4, iv p5, iv p6, iv 5, rv b_369, rv b_392, iv (own_isn_5 (own_f5 (own_draw p1) (own_draw p2) (own_draw p3) (own_draw p4) (own_draw p5))), .unset, .unset, .unset] [(.int (own_draw p1))]))
  refine o_bipush X_398 hq 43 at_113 rfl ?_
  by_cases hc115__405 : (own_draw p1) = (43 : Int32)
  ·refine o_icmpYes X_398 hq (pc' := 127) at_115 (teq hc115__405).1 (o_iconst X_398 hq 1 at_127 rfl (o_goto X_398 hq (pc' := 132) at_128 (o_istore X_398 hq at_132 (l' := #[iv p1, iv p2, iv p3, iv p4, iv p5, iv p6, iv 5, rv b_369, rv b_392, iv (own_isn_5 (own_f5 (own_draw p1) (own_draw p2) (own_draw p3) (own_draw p4) (own_draw p5))), iv 1, .unset, .unset]) rfl (o_aload X_398 hq at_134 rfl rfl (o_iload X_398 hq at_136 rfl (o_iconst X_398 hq 0 at_138 rfl ?_))))))
   refine c_S3 X_398 hq e_398 hZ hown hml (k0_25 hw) (rmpointb hw b_369 (1 : Int32) (0 : Int32) k_369 (5 : Int32) [(.int (own_draw p1)), (.int (own_draw p2)), (.int (own_draw p3)), (.int (own_draw p4)), (.int (own_draw p5))] (.int (0 : Int32)) T_393.heap n0 Zs_402 Fa_403 (by decide) (by decide)) at_139 ?_ 0
   rintro T_406 L_406 _ X_406 ⟨⟨⟩, Nq_406, e_406⟩
   have N_406 := Fr.app N_398 Nq_406
   refine o_aload X_406 hq at_142 rfl rfl (o_iload X_406 hq at_144 rfl (o_iconst X_406 hq 1 at_146 rfl ?_))
   refine c_S3 X_406 hq e_406 hZ hown hml (k0_25 hw) (rmpti hw b_369 (1 : Int32) (1 : Int32) k_369 (5 : Int32) [(.int (own_draw p1)), (.int (own_draw p2)), (.int (own_draw p3)), (.int (own_draw p4)), (.int (own_draw p5))] (.int (0 : Int32)) (own_draw p2) T_393.heap n0 Zs_402 Fa_403 (by decide) (by decide) (by decide) rfl) at_147 ?_ 1
   rintro T_407 L_407 _ X_407 ⟨⟨⟩, Nq_407, e_407⟩
   have N_407 := Fr.app N_406 Nq_407
   refine o_iadd X_407 hq at_150 (o_aload X_407 hq at_151 rfl rfl (o_iload X_407 hq at_153 rfl (o_iconst X_407 hq 2 at_155 rfl ?_)))
   refine c_S3 X_407 hq e_407 hZ hown hml (k0_25 hw) (rmpti hw b_369 (1 : Int32) (2 : Int32) k_369 (5 : Int32) [(.int (own_draw p1)), (.int (own_draw p2)), (.int (own_draw p3)), (.int (own_draw p4)), (.int (own_draw p5))] (.int (0 : Int32)) (own_draw p3) T_393.heap n0 Zs_402 Fa_403 (by decide) (by decide) (by decide) rfl) at_156 ?_ 1
   rintro T_408 L_408 _ X_408 ⟨⟨⟩, Nq_408, e_408⟩
   have N_408 := Fr.app N_407 Nq_408
   refine o_iadd X_408 hq at_159 (o_aload X_408 hq at_160 rfl rfl (o_iload X_408 hq at_162 rfl (o_iconst X_408 hq 3 at_164 rfl ?_)))
   refine c_S3 X_408 hq e_408 hZ hown hml (k0_25 hw) (rmpti hw b_369 (1 : Int32) (3 : Int32) k_369 (5 : Int32) [(.int (own_draw p1)), (.int (own_draw p2)), (.int (own_draw p3)), (.int (own_draw p4)), (.int (own_draw p5))] (.int (0 : Int32)) (own_draw p4) T_393.heap n0 Zs_402 Fa_403 (by decide) (by decide) (by decide) rfl) at_165 ?_ 1
   rintro T_409 L_409 _ X_409 ⟨⟨⟩, Nq_409, e_409⟩
   have N_409 := Fr.app N_408 Nq_409
   refine o_iadd X_409 hq at_168 (o_aload X_409 hq at_169 rfl rfl (o_iload X_409 hq at_171 rfl (o_iconst X_409 hq 4 at_173 rfl ?_)))
   refine c_S3 X_409 hq e_409 hZ hown hml (k0_25 hw) (rmpti hw b_369 (1 : Int32) (4 : Int32) k_369 (5 : Int32) [(.int (own_draw p1)), (.int (own_draw p2)), (.int (own_draw p3)), (.int (own_draw p4)), (.int (own_draw p5))] (.int (0 : Int32)) (own_draw p5) T_393.heap n0 Zs_402 Fa_403 (by decide) (by decide) (by decide) rfl) at_174 ?_ 1
   rintro T_410 L_410 _ X_410 ⟨⟨⟩, Nq_410, e_410⟩
   have N_410 := Fr.app N_409 Nq_410
   refine o_iadd X_410 hq at_177 (o_istore X_410 hq at_178 (l' := #[iv p1, iv p2, iv p3, iv p4, iv p5, iv p6, iv 5, rv b_369, rv b_392, iv (own_isn_5 (own_f5 (own_draw p1) (own_draw p2) (own_draw p3) (own_draw p4) (own_draw p5))), iv 1, iv (((((0 : Int32) + (own_pt (own_draw p2))) + (own_pt (own_draw p3))) + (own_pt (own_draw p4))) + (own_pt (own_draw p5))), .unset]) rfl (o_iload X_410 hq at_180 rfl (o_iload X_410 hq at_182 rfl (o_icmpNo X_410 hq at_184 (by decide) (o_iload X_410 hq at_187 rfl (o_iconst X_410 hq 1 at_189 rfl ?_))))))
   by_cases hc190__411 : (1 : Int32) < (((((0 : Int32) + (own_pt (own_draw p2))) + (own_pt (own_draw p3))) + (own_pt (own_draw p4))) + (own_pt (own_draw p5)))
   ·refine o_icmpYes X_410 hq (pc' := 252) at_190 (tlt hc190__411).2.2.1 (o_iconst X_410 hq 0 at_252 rfl (o_istore X_410 hq at_253 (l' := #[iv p1, iv p2, iv p3, iv p4, iv p5, iv p6, iv 5, rv b_369, rv b_392, iv (own_isn_5 (own_f5 (own_draw p1) (own_draw p2) (own_draw p3) (own_draw p4) (own_draw p5))), iv 1, iv (((((0 : Int32) + (own_pt (own_draw p2))) + (own_pt (own_draw p3))) + (own_pt (own_draw p4))) + (own_pt (own_draw p5))), iv 0]) rfl (o_iload X_410 hq at_255 rfl (o_iload X_410 hq at_257 rfl (o_icmpNo X_410 hq at_259 (teq (((own_law_5 (own_draw p1) (own_draw p2) (own_draw p3) (own_draw p4) (own_draw p5) (own_drb p1) (own_drb p2) (own_drb p3) (own_drb p4) (own_drb p5)).trans (if_pos hc115__405)).trans (if_pos hc190__411))).2 (o_iconst X_410 hq 1 at_262 rfl (o_goto X_410 hq (pc' := 267) at_263 ?_)))))))
    have Kp_412 : Keep h0 T_393.heap [] := (Kp_397.trans K_393 (allS (Or.inr sz_392) all0))
    have Ks_413 := (Nat.le_trans (Nat.le_trans (Nat.le_trans (Nat.le_trans (Nat.le_trans (Nat.le_trans (Nat.le_trans (Nat.le_trans (Nat.le_refl h0.size) E_369.1) (Keep.of_wr W_373).1) (Keep.of_wr W_377).1) (Keep.of_wr W_381).1) (Keep.of_wr W_385).1) (Keep.of_wr W_389).1) E_392.1) K_393.1)
    exact e_ZW X_410 hS0 e_410 Ks_413 hq hlk hrt at_267 ⟨rfl, N_410, Kp_412⟩
   ·refine o_icmpNo X_410 hq at_190 (flt hc190__411).2.2.1 (o_aload X_410 hq at_193 rfl rfl (o_iload X_410 hq at_195 rfl (o_iconst X_410 hq 0 at_197 rfl ?_)))
    refine c_S3 X_410 hq e_410 hZ hown hml (k0_29 hw) (rmgoodb hw b_369 (1 : Int32) (0 : Int32) k_369 (5 : Int32) [(.int (own_draw p1)), (.int (own_draw p2)), (.int (own_draw p3)), (.int (own_draw p4)), (.int (own_draw p5))] (.int (0 : Int32)) T_393.heap n0 Zs_402 Fa_403 (by decide) (by decide)) at_198 ?_ 0
    rintro T_414 L_414 _ X_414 ⟨⟨⟩, Nq_414, e_414⟩
    have N_414 := Fr.app N_410 Nq_414
    refine o_ifNo X_414 hq at_201 (by decide) (o_aload X_414 hq at_204 rfl rfl (o_iload X_414 hq at_206 rfl (o_iconst X_414 hq 1 at_208 rfl ?_)))
    refine c_S3 X_414 hq e_414 hZ hown hml (k0_29 hw) (rmgdlo hw b_369 (1 : Int32) (1 : Int32) k_369 (5 : Int32) [(.int (own_draw p1)), (.int (own_draw p2)), (.int (own_draw p3)), (.int (own_draw p4)), (.int (own_draw p5))] (.int (0 : Int32)) (own_draw p2) T_393.heap n0 Zs_402 Fa_403 (by decide) (by decide) (by decide) rfl (by decide)) at_209 ?_ 0
    rintro T_415 L_415 _ X_415 ⟨⟨⟩, Nq_415, e_415⟩
    have N_415 := Fr.app N_414 Nq_415
    by_cases hc212__416 : (own_gd_lo (own_draw p2)) = (0 : Int32)
    ·refine o_ifYes X_415 hq (pc' := 252) at_212 (teq hc212__416).1 (o_iconst X_415 hq 0 at_252 rfl (o_istore X_415 hq at_253 (l' := #[iv p1, iv p2, iv p3, iv p4, iv p5, iv p6, iv 5, rv b_369, rv b_392, iv (own_isn_5 (own_f5 (own_draw p1) (own_draw p2) (own_draw p3) (own_draw p4) (own_draw p5))), iv 1, iv (((((0 : Int32) + (own_pt (own_draw p2))) + (own_pt (own_draw p3))) + (own_pt (own_draw p4))) + (own_pt (own_draw p5))), iv 0]) rfl (o_iload X_415 hq at_255 rfl (o_iload X_415 hq at_257 rfl (o_icmpNo X_415 hq at_259 (teq ((((own_law_5 (own_draw p1) (own_draw p2) (own_draw p3) (own_draw p4) (own_draw p5) (own_drb p1) (own_drb p2) (own_drb p3) (own_drb p4) (own_drb p5)).trans (if_pos hc115__405)).trans (if_neg hc190__411)).trans (if_pos hc212__416))).2 (o_iconst X_415 hq 1 at_262 rfl (o_goto X_415 hq (pc' := 267) at_263 ?_)))))))
     have Kp_417 : Keep h0 T_393.heap [] := (Kp_397.trans K_393 (allS (Or.inr sz_392) all0))
     have Ks_418 := (Nat.le_trans (Nat.le_trans (Nat.le_trans (Nat.le_trans (Nat.le_trans (Nat.le_trans (Nat.le_trans (Nat.le_trans (Nat.le_refl h0.size) E_369.1) (Keep.of_wr W_373).1) (Keep.of_wr W_377).1) (Keep.of_wr W_381).1) (Keep.of_wr W_385).1) (Keep.of_wr W_389).1) E_392.1) K_393.1)
     exact e_ZW X_415 hS0 e_415 Ks_418 hq hlk hrt at_267 ⟨rfl, N_415, Kp_417⟩
    ·refine o_ifNo X_415 hq at_212 (feq hc212__416).1 (o_aload X_415 hq at_215 rfl rfl (o_iload X_415 hq at_217 rfl (o_iconst X_415 hq 2 at_219 rfl ?_)))
     refine c_S3 X_415 hq e_415 hZ hown hml (k0_29 hw) (rmgdmid hw b_369 (1 : Int32) (2 : Int32) k_369 (5 : Int32) [(.int (own_draw p1)), (.int (own_draw p2)), (.int (own_draw p3)), (.int (own_draw p4)), (.int (own_draw p5))] (.int (0 : Int32)) (own_draw p3) T_393.heap n0 Zs_402 Fa_403 (by decide) (by decide) (by decide) rfl (by decide) (by decide)) at_220 ?_ 0
     rintro T_419 L_419 _ X_419 ⟨⟨⟩, Nq_419, e_419⟩
     have N_419 := Fr.app N_415 Nq_419
     by_cases hc223__420 : (own_gd_mid (own_draw p3)) = (0 : Int32)
     ·refine o_ifYes X_419 hq (pc' := 252) at_223 (teq hc223__420).1 (o_iconst X_419 hq 0 at_252 rfl (o_istore X_419 hq at_253 (l' := #[iv p1, iv p2, iv p3, iv p4, iv p5, iv p6, iv 5, rv b_369, rv b_392, iv (own_isn_5 (own_f5 (own_draw p1) (own_draw p2) (own_draw p3) (own_draw p4) (own_draw p5))), iv 1, iv (((((0 : Int32) + (own_pt (own_draw p2))) + (own_pt (own_draw p3))) + (own_pt (own_draw p4))) + (own_pt (own_draw p5))), iv 0]) rfl (o_iload X_419 hq at_255 rfl (o_iload X_419 hq at_257 rfl (o_icmpNo X_419 hq at_259 (teq (((((own_law_5 (own_draw p1) (own_draw p2) (own_draw p3) (own_draw p4) (own_draw p5) (own_drb p1) (own_drb p2) (own_drb p3) (own_drb p4) (own_drb p5)).trans (if_pos hc115__405)).trans (if_neg hc190__411)).trans (if_neg hc212__416)).trans (if_pos hc223__420))).2 (o_iconst X_419 hq 1 at_262 rfl (o_goto X_419 hq (pc' := 267) at_263 ?_)))))))
      have Kp_421 : Keep h0 T_393.heap [] := (Kp_397.trans K_393 (allS (Or.inr sz_392) all0))
      have Ks_422 := (Nat.le_trans (Nat.le_trans (Nat.le_trans (Nat.le_trans (Nat.le_trans (Nat.le_trans (Nat.le_trans (Nat.le_trans (Nat.le_refl h0.size) E_369.1) (Keep.of_wr W_373).1) (Keep.of_wr W_377).1) (Keep.of_wr W_381).1) (Keep.of_wr W_385).1) (Keep.of_wr W_389).1) E_392.1) K_393.1)
      exact e_ZW X_419 hS0 e_419 Ks_422 hq hlk hrt at_267 ⟨rfl, N_419, Kp_421⟩
     ·refine o_ifNo X_419 hq at_223 (feq hc223__420).1 (o_aload X_419 hq at_226 rfl rfl (o_iload X_419 hq at_228 rfl (o_iconst X_419 hq 3 at_230 rfl ?_)))
      refine c_S3 X_419 hq e_419 hZ hown hml (k0_29 hw) (rmgdmid hw b_369 (1 : Int32) (3 : Int32) k_369 (5 : Int32) [(.int (own_draw p1)), (.int (own_draw p2)), (.int (own_draw p3)), (.int (own_draw p4)), (.int (own_draw p5))] (.int (0 : Int32)) (own_draw p4) T_393.heap n0 Zs_402 Fa_403 (by decide) (by decide) (by decide) rfl (by decide) (by decide)) at_231 ?_ 0
      rintro T_423 L_423 _ X_423 ⟨⟨⟩, Nq_423, e_423⟩
      have N_423 := Fr.app N_419 Nq_423
      by_cases hc234__424 : (own_gd_mid (own_draw p4)) = (0 : Int32)
      ·refine o_ifYes X_423 hq (pc' := 252) at_234 (teq hc234__424).1 (o_iconst X_423 hq 0 at_252 rfl (o_istore X_423 hq at_253 (l' := #[iv p1, iv p2, iv p3, iv p4, iv p5, iv p6, iv 5, rv b_369, rv b_392, iv (own_isn_5 (own_f5 (own_draw p1) (own_draw p2) (own_draw p3) (own_draw p4) (own_draw p5))), iv 1, iv (((((0 : Int32) + (own_pt (own_draw p2))) + (own_pt (own_draw p3))) + (own_pt (own_draw p4))) + (own_pt (own_draw p5))), iv 0]) rfl (o_iload X_423 hq at_255 rfl (o_iload X_423 hq at_257 rfl (o_icmpNo X_423 hq at_259 (teq ((((((own_law_5 (own_draw p1) (own_draw p2) (own_draw p3) (own_draw p4) (own_draw p5) (own_drb p1) (own_drb p2) (own_drb p3) (own_drb p4) (own_drb p5)).trans (if_pos hc115__405)).trans (if_neg hc190__411)).trans (if_neg hc212__416)).trans (if_neg hc223__420)).trans (if_pos hc234__424))).2 (o_iconst X_423 hq 1 at_262 rfl (o_goto X_423 hq (pc' := 267) at_263 ?_)))))))
       have Kp_425 : Keep h0 T_393.heap [] := (Kp_397.trans K_393 (allS (Or.inr sz_392) all0))
       have Ks_426 := (Nat.le_trans (Nat.le_trans (Nat.le_trans (Nat.le_trans (Nat.le_trans (Nat.le_trans (Nat.le_trans (Nat.le_trans (Nat.le_refl h0.size) E_369.1) (Keep.of_wr W_373).1) (Keep.of_wr W_377).1) (Keep.of_wr W_381).1) (Keep.of_wr W_385).1) (Keep.of_wr W_389).1) E_392.1) K_393.1)
       exact e_ZW X_423 hS0 e_423 Ks_426 hq hlk hrt at_267 ⟨rfl, N_423, Kp_425⟩
      ·refine o_ifNo X_423 hq at_234 (feq hc234__424).1 (o_aload X_423 hq at_237 rfl rfl (o_iload X_423 hq at_239 rfl (o_iconst X_423 hq 4 at_241 rfl ?_)))
       refine c_S3 X_423 hq e_423 hZ hown hml (k0_29 hw) (rmgdhi hw b_369 (1 : Int32) (4 : Int32) k_369 (5 : Int32) [(.int (own_draw p1)), (.int (own_draw p2)), (.int (own_draw p3)), (.int (own_draw p4)), (.int (own_draw p5))] (.int (0 : Int32)) (own_draw p5) T_393.heap n0 Zs_402 Fa_403 (by decide) (by decide) (by decide) rfl (by decide) (by decide)) at_242 ?_ 0
       rintro T_427 L_427 _ X_427 ⟨⟨⟩, Nq_427, e_427⟩
       have N_427 := Fr.app N_423 Nq_427
       by_cases hc245__428 : (own_gd_hi (own_draw p5)) = (0 : Int32)
       ·refine o_ifYes X_427 hq (pc' := 252) at_245 (teq hc245__428).1 (o_iconst X_427 hq 0 at_252 rfl (o_istore X_427 hq at_253 (l' := #[iv p1, iv p2, iv p3, iv p4, iv p5, iv p6, iv 5, rv b_369, rv b_392, iv (own_isn_5 (own_f5 (own_draw p1) (own_draw p2) (own_draw p3) (own_draw p4) (own_draw p5))), iv 1, iv (((((0 : Int32) + (own_pt (own_draw p2))) + (own_pt (own_draw p3))) + (own_pt (own_draw p4))) + (own_pt (own_draw p5))), iv 0]) rfl (o_iload X_427 hq at_255 rfl (o_iload X_427 hq at_257 rfl (o_icmpNo X_427 hq at_259 (teq (((((((own_law_5 (own_draw p1) (own_draw p2) (own_draw p3) (own_draw p4) (own_draw p5) (own_drb p1) (own_drb p2) (own_drb p3) (own_drb p4) (own_drb p5)).trans (if_pos hc115__405)).trans (if_neg hc190__411)).trans (if_neg hc212__416)).trans (if_neg hc223__420)).trans (if_neg hc234__424)).trans (if_pos hc245__428))).2 (o_iconst X_427 hq 1 at_262 rfl (o_goto X_427 hq (pc' := 267) at_263 ?_)))))))
        have Kp_429 : Keep h0 T_393.heap [] := (Kp_397.trans K_393 (allS (Or.inr sz_392) all0))
        have Ks_430 := (Nat.le_trans (Nat.le_trans (Nat.le_trans (Nat.le_trans (Nat.le_trans (Nat.le_trans (Nat.le_trans (Nat.le_trans (Nat.le_refl h0.size) E_369.1) (Keep.of_wr W_373).1) (Keep.of_wr W_377).1) (Keep.of_wr W_381).1) (Keep.of_wr W_385).1) (Keep.of_wr W_389).1) E_392.1) K_393.1)
        exact e_ZW X_427 hS0 e_427 Ks_430 hq hlk hrt at_267 ⟨rfl, N_427, Kp_429⟩
       ·refine o_ifNo X_427 hq at_245 (feq hc245__428).1 (o_iconst X_427 hq 1 at_248 rfl (o_goto X_427 hq (pc' := 253) at_249 (o_istore X_427 hq at_253 (l' := #[iv p1, iv p2, iv p3, iv p4, iv p5, iv p6, iv 5, rv b_369, rv b_392, iv (own_isn_5 (own_f5 (own_draw p1) (own_draw p2) (own_draw p3) (own_draw p4) (own_draw p5))), iv 1, iv (((((0 : Int32) + (own_pt (own_draw p2))) + (own_pt (own_draw p3))) + (own_pt (own_draw p4))) + (own_pt (own_draw p5))), iv 1]) rfl (o_iload X_427 hq at_255 rfl (o_iload X_427 hq at_257 rfl (o_icmpNo X_427 hq at_259 (teq (((((((own_law_5 (own_draw p1) (own_draw p2) (own_draw p3) (own_draw p4) (own_draw p5) (own_drb p1) (own_drb p2) (own_drb p3) (own_drb p4) (own_drb p5)).trans (if_pos hc115__405)).trans (if_neg hc190__411)).trans (if_neg hc212__416)).trans (if_neg hc223__420)).trans (if_neg hc234__424)).trans (if_neg hc245__428))).2 (o_iconst X_427 hq 1 at_262 rfl (o_goto X_427 hq (pc' := 267) at_263 ?_))))))))
        have Kp_431 : Keep h0 T_393.heap [] := (Kp_397.trans K_393 (allS (Or.inr sz_392) all0))
        have Ks_432 := (Nat.le_trans (Nat.le_trans (Nat.le_trans (Nat.le_trans (Nat.le_trans (Nat.le_trans (Nat.le_trans (Nat.le_trans (Nat.le_refl h0.size) E_369.1) (Keep.of_wr W_373).1) (Keep.of_wr W_377).1) (Keep.of_wr W_381).1) (Keep.of_wr W_385).1) (Keep.of_wr W_389).1) E_392.1) K_393.1)
        exact e_ZW X_427 hS0 e_427 Ks_432 hq hlk hrt at_267 ⟨rfl, N_427, Kp_431⟩
  ·refine o_icmpNo X_398 hq at_115 (feq hc115__405).1 (o_aload X_398 hq at_118 rfl rfl (o_iconst X_398 hq 0 at_120 rfl ?_))
   obtain ⟨cl_433, Ar_433, qk_433, Sz_433, Ng_433, Hs_433, Gs_433⟩ := id Fa_403
   refine own_st (X_398.caload hx (j := (0 : Int32)) (v := (.int (own_draw p1))) (by rw [e_398]; exact Ar_433.1) (State.isArrayOf_alike hZ.alike Ar_433.2.1) Ar_433.2.2 (inb_of Sz_433 ⟨by decide, by decide⟩) (Hs_433.at (j := (0 : Int32)) (inb_of Sz_433 ⟨by decide, by decide⟩) rfl) (g := (mkF m 121 #[iv p1, iv p2, iv p3, iv p4, iv p5, iv p6, iv 5, rv b_369, rv b_392, iv (own_isn_5 (own_f5 (own_draw p1) (own_draw p2) (own_draw p3) (own_draw p4) (own_draw p5))), .unset, .unset, .unset] [(.int 0), (.ref b_369)])) rfl rfl (hb hby at_121)) ?_
   show own_Go _ _ _ _ (T_398.setTop (mkF m 122 #[iv p1, iv p2, iv p3, iv p4, iv p5, iv p6, iv 5, rv b_369, rv b_392, iv (own_isn_5 (own_f5 (own_draw p1) (own_draw p2) (own_draw p3) (own_draw p4) (own_draw p5))), .unset, .unset, .unset] [(.int (own_draw p1))]))
   refine o_bipush X_398 hq 45 at_122 rfl ?_
   by_cases hc124__434 : (own_draw p1) = (45 : Int32)
   ·refine o_icmpNo X_398 hq at_124 (teq hc124__434).2 (o_iconst X_398 hq 1 at_127 rfl (o_goto X_398 hq (pc' := 132) at_128 (o_istore X_398 hq at_132 (l' := #[iv p1, iv p2, iv p3, iv p4, iv p5, iv p6, iv 5, rv b_369, rv b_392, iv (own_isn_5 (own_f5 (own_draw p1) (own_draw p2) (own_draw p3) (own_draw p4) (own_draw p5))), iv 1, .unset, .unset]) rfl (o_aload X_398 hq at_134 rfl rfl (o_iload X_398 hq at_136 rfl (o_iconst X_398 hq 0 at_138 rfl ?_))))))
    refine c_S3 X_398 hq e_398 hZ hown hml (k0_25 hw) (rmpointb hw b_369 (1 : Int32) (0 : Int32) k_369 (5 : Int32) [(.int (own_draw p1)), (.int (own_draw p2)), (.int (own_draw p3)), (.int (own_draw p4)), (.int (own_draw p5))] (.int (0 : Int32)) T_393.heap n0 Zs_402 Fa_403 (by decide) (by decide)) at_139 ?_ 0
    rintro T_435 L_435 _ X_435 ⟨⟨⟩, Nq_435, e_435⟩
    have N_435 := Fr.app N_398 Nq_435
    refine o_aload X_435 hq at_142 rfl rfl (o_iload X_435 hq at_144 rfl (o_iconst X_435 hq 1 at_146 rfl ?_))
    refine c_S3 X_435 hq e_435 hZ hown hml (k0_25 hw) (rmpti hw b_369 (1 : Int32) (1 : Int32) k_369 (5 : Int32) [(.int (own_draw p1)), (.int (own_draw p2)), (.int (own_draw p3)), (.int (own_draw p4)), (.int (own_draw p5))] (.int (0 : Int32)) (own_draw p2) T_393.heap n0 Zs_402 Fa_403 (by decide) (by decide) (by decide) rfl) at_147 ?_ 1
    rintro T_436 L_436 _ X_436 ⟨⟨⟩, Nq_436, e_436⟩
    have N_436 := Fr.app N_435 Nq_436
    refine o_iadd X_436 hq at_150 (o_aload X_436 hq at_151 rfl rfl (o_iload X_436 hq at_153 rfl (o_iconst X_436 hq 2 at_155 rfl ?_)))
    refine c_S3 X_436 hq e_436 hZ hown hml (k0_25 hw) (rmpti hw b_369 (1 : Int32) (2 : Int32) k_369 (5 : Int32) [(.int (own_draw p1)), (.int (own_draw p2)), (.int (own_draw p3)), (.int (own_draw p4)), (.int (own_draw p5))] (.int (0 : Int32)) (own_draw p3) T_393.heap n0 Zs_402 Fa_403 (by decide) (by decide) (by decide) rfl) at_156 ?_ 1
    rintro T_437 L_437 _ X_437 ⟨⟨⟩, Nq_437, e_437⟩
    have N_437 := Fr.app N_436 Nq_437
    refine o_iadd X_437 hq at_159 (o_aload X_437 hq at_160 rfl rfl (o_iload X_437 hq at_162 rfl (o_iconst X_437 hq 3 at_164 rfl ?_)))
    refine c_S3 X_437 hq e_437 hZ hown hml (k0_25 hw) (rmpti hw b_369 (1 : Int32) (3 : Int32) k_369 (5 : Int32) [(.int (own_draw p1)), (.int (own_draw p2)), (.int (own_draw p3)), (.int (own_draw p4)), (.int (own_draw p5))] (.int (0 : Int32)) (own_draw p4) T_393.heap n0 Zs_402 Fa_403 (by decide) (by decide) (by decide) rfl) at_165 ?_ 1
    rintro T_438 L_438 _ X_438 ⟨⟨⟩, Nq_438, e_438⟩
    have N_438 := Fr.app N_437 Nq_438
    refine o_iadd X_438 hq at_168 (o_aload X_438 hq at_169 rfl rfl (o_iload X_438 hq at_171 rfl (o_iconst X_438 hq 4 at_173 rfl ?_)))
    refine c_S3 X_438 hq e_438 hZ hown hml (k0_25 hw) (rmpti hw b_369 (1 : Int32) (4 : Int32) k_369 (5 : Int32) [(.int (own_draw p1)), (.int (own_draw p2)), (.int (own_draw p3)), (.int (own_draw p4)), (.int (own_draw p5))] (.int (0 : Int32)) (own_draw p5) T_393.heap n0 Zs_402 Fa_403 (by decide) (by decide) (by decide) rfl) at_174 ?_ 1
    rintro T_439 L_439 _ X_439 ⟨⟨⟩, Nq_439, e_439⟩
    have N_439 := Fr.app N_438 Nq_439
    refine o_iadd X_439 hq at_177 (o_istore X_439 hq at_178 (l' := #[iv p1, iv p2, iv p3, iv p4, iv p5, iv p6, iv 5, rv b_369, rv b_392, iv (own_isn_5 (own_f5 (own_draw p1) (own_draw p2) (own_draw p3) (own_draw p4) (own_draw p5))), iv 1, iv (((((0 : Int32) + (own_pt (own_draw p2))) + (own_pt (own_draw p3))) + (own_pt (own_draw p4))) + (own_pt (own_draw p5))), .unset]) rfl (o_iload X_439 hq at_180 rfl (o_iload X_439 hq at_182 rfl (o_icmpNo X_439 hq at_184 (by decide) (o_iload X_439 hq at_187 rfl (o_iconst X_439 hq 1 at_189 rfl ?_))))))
    by_cases hc190__440 : (1 : Int32) < (((((0 : Int32) + (own_pt (own_draw p2))) + (own_pt (own_draw p3))) + (own_pt (own_draw p4))) + (own_pt (own_draw p5)))
    ·refine o_icmpYes X_439 hq (pc' := 252) at_190 (tlt hc190__440).2.2.1 (o_iconst X_439 hq 0 at_252 rfl (o_istore X_439 hq at_253 (l' := #[iv p1, iv p2, iv p3, iv p4, iv p5, iv p6, iv 5, rv b_369, rv b_392, iv (own_isn_5 (own_f5 (own_draw p1) (own_draw p2) (own_draw p3) (own_draw p4) (own_draw p5))), iv 1, iv (((((0 : Int32) + (own_pt (own_draw p2))) + (own_pt (own_draw p3))) + (own_pt (own_draw p4))) + (own_pt (own_draw p5))), iv 0]) rfl (o_iload X_439 hq at_255 rfl (o_iload X_439 hq at_257 rfl (o_icmpNo X_439 hq at_259 (teq ((((own_law_5 (own_draw p1) (own_draw p2) (own_draw p3) (own_draw p4) (own_draw p5) (own_drb p1) (own_drb p2) (own_drb p3) (own_drb p4) (own_drb p5)).trans (if_neg hc115__405)).trans (if_pos hc124__434)).trans (if_pos hc190__440))).2 (o_iconst X_439 hq 1 at_262 rfl (o_goto X_439 hq (pc' := 267) at_263 ?_)))))))
     have Kp_441 : Keep h0 T_393.heap [] := (Kp_397.trans K_393 (allS (Or.inr sz_392) all0))
     have Ks_442 := (Nat.le_trans (Nat.le_trans (Nat.le_trans (Nat.le_trans (Nat.le_trans (Nat.le_trans (Nat.le_trans (Nat.le_trans (Nat.le_refl h0.size) E_369.1) (Keep.of_wr W_373).1) (Keep.of_wr W_377).1) (Keep.of_wr W_381).1) (Keep.of_wr W_385).1) (Keep.of_wr W_389).1) E_392.1) K_393.1)
     exact e_ZW X_439 hS0 e_439 Ks_442 hq hlk hrt at_267 ⟨rfl, N_439, Kp_441⟩
    ·refine o_icmpNo X_439 hq at_190 (flt hc190__440).2.2.1 (o_aload X_439 hq at_193 rfl rfl (o_iload X_439 hq at_195 rfl (o_iconst X_439 hq 0 at_197 rfl ?_)))
     refine c_S3 X_439 hq e_439 hZ hown hml (k0_29 hw) (rmgoodb hw b_369 (1 : Int32) (0 : Int32) k_369 (5 : Int32) [(.int (own_draw p1)), (.int (own_draw p2)), (.int (own_draw p3)), (.int (own_draw p4)), (.int (own_draw p5))] (.int (0 : Int32)) T_393.heap n0 Zs_402 Fa_403 (by decide) (by decide)) at_198 ?_ 0
     rintro T_443 L_443 _ X_443 ⟨⟨⟩, Nq_443, e_443⟩
     have N_443 := Fr.app N_439 Nq_443
     refine o_ifNo X_443 hq at_201 (by decide) (o_aload X_443 hq at_204 rfl rfl (o_iload X_443 hq at_206 rfl (o_iconst X_443 hq 1 at_208 rfl ?_)))
     refine c_S3 X_443 hq e_443 hZ hown hml (k0_29 hw) (rmgdlo hw b_369 (1 : Int32) (1 : Int32) k_369 (5 : Int32) [(.int (own_draw p1)), (.int (own_draw p2)), (.int (own_draw p3)), (.int (own_draw p4)), (.int (own_draw p5))] (.int (0 : Int32)) (own_draw p2) T_393.heap n0 Zs_402 Fa_403 (by decide) (by decide) (by decide) rfl (by decide)) at_209 ?_ 0
     rintro T_444 L_444 _ X_444 ⟨⟨⟩, Nq_444, e_444⟩
     have N_444 := Fr.app N_443 Nq_444
     by_cases hc212__445 : (own_gd_lo (own_draw p2)) = (0 : Int32)
     ·refine o_ifYes X_444 hq (pc' := 252) at_212 (teq hc212__445).1 (o_iconst X_444 hq 0 at_252 rfl (o_istore X_444 hq at_253 (l' := #[iv p1, iv p2, iv p3, iv p4, iv p5, iv p6, iv 5, rv b_369, rv b_392, iv (own_isn_5 (own_f5 (own_draw p1) (own_draw p2) (own_draw p3) (own_draw p4) (own_draw p5))), iv 1, iv (((((0 : Int32) + (own_pt (own_draw p2))) + (own_pt (own_draw p3))) + (own_pt (own_draw p4))) + (own_pt (own_draw p5))), iv 0]) rfl (o_iload X_444 hq at_255 rfl (o_iload X_444 hq at_257 rfl (o_icmpNo X_444 hq at_259 (teq (((((own_law_5 (own_draw p1) (own_draw p2) (own_draw p3) (own_draw p4) (own_draw p5) (own_drb p1) (own_drb p2) (own_drb p3) (own_drb p4) (own_drb p5)).trans (if_neg hc115__405)).trans (if_pos hc124__434)).trans (if_neg hc190__440)).trans (if_pos hc212__445))).2 (o_iconst X_444 hq 1 at_262 rfl (o_goto X_444 hq (pc' := 267) at_263 ?_)))))))
      have Kp_446 : Keep h0 T_393.heap [] := (Kp_397.trans K_393 (allS (Or.inr sz_392) all0))
      have Ks_447 := (Nat.le_trans (Nat.le_trans (Nat.le_trans (Nat.le_trans (Nat.le_trans (Nat.le_trans (Nat.le_trans (Nat.le_trans (Nat.le_refl h0.size) E_369.1) (Keep.of_wr W_373).1) (Keep.of_wr W_377).1) (Keep.of_wr W_381).1) (Keep.of_wr W_385).1) (Keep.of_wr W_389).1) E_392.1) K_393.1)
      exact e_ZW X_444 hS0 e_444 Ks_447 hq hlk hrt at_267 ⟨rfl, N_444, Kp_446⟩
     ·refine o_ifNo X_444 hq at_212 (feq hc212__445).1 (o_aload X_444 hq at_215 rfl rfl (o_iload X_444 hq at_217 rfl (o_iconst X_444 hq 2 at_219 rfl ?_)))
      refine c_S3 X_444 hq e_444 hZ hown hml (k0_29 hw) (rmgdmid hw b_369 (1 : Int32) (2 : Int32) k_369 (5 : Int32) [(.int (own_draw p1)), (.int (own_draw p2)), (.int (own_draw p3)), (.int (own_draw p4)), (.int (own_draw p5))] (.int (0 : Int32)) (own_draw p3) T_393.heap n0 Zs_402 Fa_403 (by decide) (by decide) (by decide) rfl (by decide) (by decide)) at_220 ?_ 0
      rintro T_448 L_448 _ X_448 ⟨⟨⟩, Nq_448, e_448⟩
      have N_448 := Fr.app N_444 Nq_448
      by_cases hc223__449 : (own_gd_mid (own_draw p3)) = (0 : Int32)
      ·refine o_ifYes X_448 hq (pc' := 252) at_223 (teq hc223__449).1 (o_iconst X_448 hq 0 at_252 rfl (o_istore X_448 hq at_253 (l' := #[iv p1, iv p2, iv p3, iv p4, iv p5, iv p6, iv 5, rv b_369, rv b_392, iv (own_isn_5 (own_f5 (own_draw p1) (own_draw p2) (own_draw p3) (own_draw p4) (own_draw p5))), iv 1, iv (((((0 : Int32) + (own_pt (own_draw p2))) + (own_pt (own_draw p3))) + (own_pt (own_draw p4))) + (own_pt (own_draw p5))), iv 0]) rfl (o_iload X_448 hq at_255 rfl (o_iload X_448 hq at_257 rfl (o_icmpNo X_448 hq at_259 (teq ((((((own_law_5 (own_draw p1) (own_draw p2) (own_draw p3) (own_draw p4) (own_draw p5) (own_drb p1) (own_drb p2) (own_drb p3) (own_drb p4) (own_drb p5)).trans (if_neg hc115__405)).trans (if_pos hc124__434)).trans (if_neg hc190__440)).trans (if_neg hc212__445)).trans (if_pos hc223__449))).2 (o_iconst X_448 hq 1 at_262 rfl (o_goto X_448 hq (pc' := 267) at_263 ?_)))))))
       have Kp_450 : Keep h0 T_393.heap [] := (Kp_397.trans K_393 (allS (Or.inr sz_392) all0))
       have Ks_451 := (Nat.le_trans (Nat.le_trans (Nat.le_trans (Nat.le_trans (Nat.le_trans (Nat.le_trans (Nat.le_trans (Nat.le_trans (Nat.le_refl h0.size) E_369.1) (Keep.of_wr W_373).1) (Keep.of_wr W_377).1) (Keep.of_wr W_381).1) (Keep.of_wr W_385).1) (Keep.of_wr W_389).1) E_392.1) K_393.1)
       exact e_ZW X_448 hS0 e_448 Ks_451 hq hlk hrt at_267 ⟨rfl, N_448, Kp_450⟩
      ·refine o_ifNo X_448 hq at_223 (feq hc223__449).1 (o_aload X_448 hq at_226 rfl rfl (o_iload X_448 hq at_228 rfl (o_iconst X_448 hq 3 at_230 rfl ?_)))
       refine c_S3 X_448 hq e_448 hZ hown hml (k0_29 hw) (rmgdmid hw b_369 (1 : Int32) (3 : Int32) k_369 (5 : Int32) [(.int (own_draw p1)), (.int (own_draw p2)), (.int (own_draw p3)), (.int (own_draw p4)), (.int (own_draw p5))] (.int (0 : Int32)) (own_draw p4) T_393.heap n0 Zs_402 Fa_403 (by decide) (by decide) (by decide) rfl (by decide) (by decide)) at_231 ?_ 0
       rintro T_452 L_452 _ X_452 ⟨⟨⟩, Nq_452, e_452⟩
       have N_452 := Fr.app N_448 Nq_452
       by_cases hc234__453 : (own_gd_mid (own_draw p4)) = (0 : Int32)
       ·refine o_ifYes X_452 hq (pc' := 252) at_234 (teq hc234__453).1 (o_iconst X_452 hq 0 at_252 rfl (o_istore X_452 hq at_253 (l' := #[iv p1, iv p2, iv p3, iv p4, iv p5, iv p6, iv 5, rv b_369, rv b_392, iv (own_isn_5 (own_f5 (own_draw p1) (own_draw p2) (own_draw p3) (own_draw p4) (own_draw p5))), iv 1, iv (((((0 : Int32) + (own_pt (own_draw p2))) + (own_pt (own_draw p3))) + (own_pt (own_draw p4))) + (own_pt (own_draw p5))), iv 0]) rfl (o_iload X_452 hq at_255 rfl (o_iload X_452 hq at_257 rfl (o_icmpNo X_452 hq at_259 (teq (((((((own_law_5 (own_draw p1) (own_draw p2) (own_draw p3) (own_draw p4) (own_draw p5) (own_drb p1) (own_drb p2) (own_drb p3) (own_drb p4) (own_drb p5)).trans (if_neg hc115__405)).trans (if_pos hc124__434)).trans (if_neg hc190__440)).trans (if_neg hc212__445)).trans (if_neg hc223__449)).trans (if_pos hc234__453))).2 (o_iconst X_452 hq 1 at_262 rfl (o_goto X_452 hq (pc' := 267) at_263 ?_)))))))
        have Kp_454 : Keep h0 T_393.heap [] := (Kp_397.trans K_393 (allS (Or.inr sz_392) all0))
        have Ks_455 := (Nat.le_trans (Nat.le_trans (Nat.le_trans (Nat.le_trans (Nat.le_trans (Nat.le_trans (Nat.le_trans (Nat.le_trans (Nat.le_refl h0.size) E_369.1) (Keep.of_wr W_373).1) (Keep.of_wr W_377).1) (Keep.of_wr W_381).1) (Keep.of_wr W_385).1) (Keep.of_wr W_389).1) E_392.1) K_393.1)
        exact e_ZW X_452 hS0 e_452 Ks_455 hq hlk hrt at_267 ⟨rfl, N_452, Kp_454⟩
       ·refine o_ifNo X_452 hq at_234 (feq hc234__453).1 (o_aload X_452 hq at_237 rfl rfl (o_iload X_452 hq at_239 rfl (o_iconst X_452 hq 4 at_241 rfl ?_)))
        refine c_S3 X_452 hq e_452 hZ hown hml (k0_29 hw) (rmgdhi hw b_369 (1 : Int32) (4 : Int32) k_369 (5 : Int32) [(.int (own_draw p1)), (.int (own_draw p2)), (.int (own_draw p3)), (.int (own_draw p4)), (.int (own_draw p5))] (.int (0 : Int32)) (own_draw p5) T_393.heap n0 Zs_402 Fa_403 (by decide) (by decide) (by decide) rfl (by decide) (by decide)) at_242 ?_ 0
        rintro T_456 L_456 _ X_456 ⟨⟨⟩, Nq_456, e_456⟩
        have N_456 := Fr.app N_452 Nq_456
        by_cases hc245__457 : (own_gd_hi (own_draw p5)) = (0 : Int32)
        ·refine o_ifYes X_456 hq (pc' := 252) at_245 (teq hc245__457).1 (o_iconst X_456 hq 0 at_252 rfl (o_istore X_456 hq at_253 (l' := #[iv p1, iv p2, iv p3, iv p4, iv p5, iv p6, iv 5, rv b_369, rv b_392, iv (own_isn_5 (own_f5 (own_draw p1) (own_draw p2) (own_draw p3) (own_draw p4) (own_draw p5))), iv 1, iv (((((0 : Int32) + (own_pt (own_draw p2))) + (own_pt (own_draw p3))) + (own_pt (own_draw p4))) + (own_pt (own_draw p5))), iv 0]) rfl (o_iload X_456 hq at_255 rfl (o_iload X_456 hq at_257 rfl (o_icmpNo X_456 hq at_259 (teq ((((((((own_law_5 (own_draw p1) (own_draw p2) (own_draw p3) (own_draw p4) (own_draw p5) (own_drb p1) (own_drb p2) (own_drb p3) (own_drb p4) (own_drb p5)).trans (if_neg hc115__405)).trans (if_pos hc124__434)).trans (if_neg hc190__440)).trans (if_neg hc212__445)).trans (if_neg hc223__449)).trans (if_neg hc234__453)).trans (if_pos hc245__457))).2 (o_iconst X_456 hq 1 at_262 rfl (o_goto X_456 hq (pc' := 267) at_263 ?_)))))))
         have Kp_458 : Keep h0 T_393.heap [] := (Kp_397.trans K_393 (allS (Or.inr sz_392) all0))
         have Ks_459 := (Nat.le_trans (Nat.le_trans (Nat.le_trans (Nat.le_trans (Nat.le_trans (Nat.le_trans (Nat.le_trans (Nat.le_trans (Nat.le_refl h0.size) E_369.1) (Keep.of_wr W_373).1) (Keep.of_wr W_377).1) (Keep.of_wr W_381).1) (Keep.of_wr W_385).1) (Keep.of_wr W_389).1) E_392.1) K_393.1)
         exact e_ZW X_456 hS0 e_456 Ks_459 hq hlk hrt at_267 ⟨rfl, N_456, Kp_458⟩
        ·refine o_ifNo X_456 hq at_245 (feq hc245__457).1 (o_iconst X_456 hq 1 at_248 rfl (o_goto X_456 hq (pc' := 253) at_249 (o_istore X_456 hq at_253 (l' := #[iv p1, iv p2, iv p3, iv p4, iv p5, iv p6, iv 5, rv b_369, rv b_392, iv (own_isn_5 (own_f5 (own_draw p1) (own_draw p2) (own_draw p3) (own_draw p4) (own_draw p5))), iv 1, iv (((((0 : Int32) + (own_pt (own_draw p2))) + (own_pt (own_draw p3))) + (own_pt (own_draw p4))) + (own_pt (own_draw p5))), iv 1]) rfl (o_iload X_456 hq at_255 rfl (o_iload X_456 hq at_257 rfl (o_icmpNo X_456 hq at_259 (teq ((((((((own_law_5 (own_draw p1) (own_draw p2) (own_draw p3) (own_draw p4) (own_draw p5) (own_drb p1) (own_drb p2) (own_drb p3) (own_drb p4) (own_drb p5)).trans (if_neg hc115__405)).trans (if_pos hc124__434)).trans (if_neg hc190__440)).trans (if_neg hc212__445)).trans (if_neg hc223__449)).trans (if_neg hc234__453)).trans (if_neg hc245__457))).2 (o_iconst X_456 hq 1 at_262 rfl (o_goto X_456 hq (pc' := 267) at_263 ?_))))))))
         have Kp_460 : Keep h0 T_393.heap [] := (Kp_397.trans K_393 (allS (Or.inr sz_392) all0))
         have Ks_461 := (Nat.le_trans (Nat.le_trans (Nat.le_trans (Nat.le_trans (Nat.le_trans (Nat.le_trans (Nat.le_trans (Nat.le_trans (Nat.le_refl h0.size) E_369.1) (Keep.of_wr W_373).1) (Keep.of_wr W_377).1) (Keep.of_wr W_381).1) (Keep.of_wr W_385).1) (Keep.of_wr W_389).1) E_392.1) K_393.1)
         exact e_ZW X_456 hS0 e_456 Ks_461 hq hlk hrt at_267 ⟨rfl, N_456, Kp_460⟩
   ·refine o_icmpYes X_398 hq (pc' := 131) at_124 (feq hc124__434).2 (o_iconst X_398 hq 0 at_131 rfl (o_istore X_398 hq at_132 (l' := #[iv p1, iv p2, iv p3, iv p4, iv p5, iv p6, iv 5, rv b_369, rv b_392, iv (own_isn_5 (own_f5 (own_draw p1) (own_draw p2) (own_draw p3) (own_draw p4) (own_draw p5))), iv 0, .unset, .unset]) rfl (o_aload X_398 hq at_134 rfl rfl (o_iload X_398 hq at_136 rfl (o_iconst X_398 hq 0 at_138 rfl ?_)))))
    refine c_S3 X_398 hq e_398 hZ hown hml (k0_25 hw) (rmpti hw b_369 (0 : Int32) (0 : Int32) k_369 (5 : Int32) [(.int (own_draw p1)), (.int (own_draw p2)), (.int (own_draw p3)), (.int (own_draw p4)), (.int (own_draw p5))] (.int (0 : Int32)) (own_draw p1) T_393.heap n0 Zs_402 Fa_403 (by decide) (by decide) (by decide) rfl) at_139 ?_ 0
    rintro T_462 L_462 _ X_462 ⟨⟨⟩, Nq_462, e_462⟩
    have N_462 := Fr.app N_398 Nq_462
    refine o_aload X_462 hq at_142 rfl rfl (o_iload X_462 hq at_144 rfl (o_iconst X_462 hq 1 at_146 rfl ?_))
    refine c_S3 X_462 hq e_462 hZ hown hml (k0_25 hw) (rmpti hw b_369 (0 : Int32) (1 : Int32) k_369 (5 : Int32) [(.int (own_draw p1)), (.int (own_draw p2)), (.int (own_draw p3)), (.int (own_draw p4)), (.int (own_draw p5))] (.int (0 : Int32)) (own_draw p2) T_393.heap n0 Zs_402 Fa_403 (by decide) (by decide) (by decide) rfl) at_147 ?_ 1
    rintro T_463 L_463 _ X_463 ⟨⟨⟩, Nq_463, e_463⟩
    have N_463 := Fr.app N_462 Nq_463
    refine o_iadd X_463 hq at_150 (o_aload X_463 hq at_151 rfl rfl (o_iload X_463 hq at_153 rfl (o_iconst X_463 hq 2 at_155 rfl ?_)))
    refine c_S3 X_463 hq e_463 hZ hown hml (k0_25 hw) (rmpti hw b_369 (0 : Int32) (2 : Int32) k_369 (5 : Int32) [(.int (own_draw p1)), (.int (own_draw p2)), (.int (own_draw p3)), (.int (own_draw p4)), (.int (own_draw p5))] (.int (0 : Int32)) (own_draw p3) T_393.heap n0 Zs_402 Fa_403 (by decide) (by decide) (by decide) rfl) at_156 ?_ 1
    rintro T_464 L_464 _ X_464 ⟨⟨⟩, Nq_464, e_464⟩
    have N_464 := Fr.app N_463 Nq_464
    refine o_iadd X_464 hq at_159 (o_aload X_464 hq at_160 rfl rfl (o_iload X_464 hq at_162 rfl (o_iconst X_464 hq 3 at_164 rfl ?_)))
    refine c_S3 X_464 hq e_464 hZ hown hml (k0_25 hw) (rmpti hw b_369 (0 : Int32) (3 : Int32) k_369 (5 : Int32) [(.int (own_draw p1)), (.int (own_draw p2)), (.int (own_draw p3)), (.int (own_draw p4)), (.int (own_draw p5))] (.int (0 : Int32)) (own_draw p4) T_393.heap n0 Zs_402 Fa_403 (by decide) (by decide) (by decide) rfl) at_165 ?_ 1
    rintro T_465 L_465 _ X_465 ⟨⟨⟩, Nq_465, e_465⟩
    have N_465 := Fr.app N_464 Nq_465
    refine o_iadd X_465 hq at_168 (o_aload X_465 hq at_169 rfl rfl (o_iload X_465 hq at_171 rfl (o_iconst X_465 hq 4 at_173 rfl ?_)))
    refine c_S3 X_465 hq e_465 hZ hown hml (k0_25 hw) (rmpti hw b_369 (0 : Int32) (4 : Int32) k_369 (5 : Int32) [(.int (own_draw p1)), (.int (own_draw p2)), (.int (own_draw p3)), (.int (own_draw p4)), (.int (own_draw p5))] (.int (0 : Int32)) (own_draw p5) T_393.heap n0 Zs_402 Fa_403 (by decide) (by decide) (by decide) rfl) at_174 ?_ 1
    rintro T_466 L_466 _ X_466 ⟨⟨⟩, Nq_466, e_466⟩
    have N_466 := Fr.app N_465 Nq_466
    refine o_iadd X_466 hq at_177 (o_istore X_466 hq at_178 (l' := #[iv p1, iv p2, iv p3, iv p4, iv p5, iv p6, iv 5, rv b_369, rv b_392, iv (own_isn_5 (own_f5 (own_draw p1) (own_draw p2) (own_draw p3) (own_draw p4) (own_draw p5))), iv 0, iv (((((own_pt (own_draw p1)) + (own_pt (own_draw p2))) + (own_pt (own_draw p3))) + (own_pt (own_draw p4))) + (own_pt (own_draw p5))), .unset]) rfl (o_iload X_466 hq at_180 rfl (o_iload X_466 hq at_182 rfl (o_icmpNo X_466 hq at_184 (by decide) (o_iload X_466 hq at_187 rfl (o_iconst X_466 hq 1 at_189 rfl ?_))))))
    by_cases hc190__467 : (1 : Int32) < (((((own_pt (own_draw p1)) + (own_pt (own_draw p2))) + (own_pt (own_draw p3))) + (own_pt (own_draw p4))) + (own_pt (own_draw p5)))
    ·refine o_icmpYes X_466 hq (pc' := 252) at_190 (tlt hc190__467).2.2.1 (o_iconst X_466 hq 0 at_252 rfl (o_istore X_466 hq at_253 (l' := #[iv p1, iv p2, iv p3, iv p4, iv p5, iv p6, iv 5, rv b_369, rv b_392, iv (own_isn_5 (own_f5 (own_draw p1) (own_draw p2) (own_draw p3) (own_draw p4) (own_draw p5))), iv 0, iv (((((own_pt (own_draw p1)) + (own_pt (own_draw p2))) + (own_pt (own_draw p3))) + (own_pt (own_draw p4))) + (own_pt (own_draw p5))), iv 0]) rfl (o_iload X_466 hq at_255 rfl (o_iload X_466 hq at_257 rfl (o_icmpNo X_466 hq at_259 (teq ((((own_law_5 (own_draw p1) (own_draw p2) (own_draw p3) (own_draw p4) (own_draw p5) (own_drb p1) (own_drb p2) (own_drb p3) (own_drb p4) (own_drb p5)).trans (if_neg hc115__405)).trans (if_neg hc124__434)).trans (if_pos hc190__467))).2 (o_iconst X_466 hq 1 at_262 rfl (o_goto X_466 hq (pc' := 267) at_263 ?_)))))))
     have Kp_468 : Keep h0 T_393.heap [] := (Kp_397.trans K_393 (allS (Or.inr sz_392) all0))
     have Ks_469 := (Nat.le_trans (Nat.le_trans (Nat.le_trans (Nat.le_trans (Nat.le_trans (Nat.le_trans (Nat.le_trans (Nat.le_trans (Nat.le_refl h0.size) E_369.1) (Keep.of_wr W_373).1) (Keep.of_wr W_377).1) (Keep.of_wr W_381).1) (Keep.of_wr W_385).1) (Keep.of_wr W_389).1) E_392.1) K_393.1)
     exact e_ZW X_466 hS0 e_466 Ks_469 hq hlk hrt at_267 ⟨rfl, N_466, Kp_468⟩
    ·refine o_icmpNo X_466 hq at_190 (flt hc190__467).2.2.1 (o_aload X_466 hq at_193 rfl rfl (o_iload X_466 hq at_195 rfl (o_iconst X_466 hq 0 at_197 rfl ?_)))
     refine c_S3 X_466 hq e_466 hZ hown hml (k0_29 hw) (rmgdlo hw b_369 (0 : Int32) (0 : Int32) k_369 (5 : Int32) [(.int (own_draw p1)), (.int (own_draw p2)), (.int (own_draw p3)), (.int (own_draw p4)), (.int (own_draw p5))] (.int (0 : Int32)) (own_draw p1) T_393.heap n0 Zs_402 Fa_403 (by decide) (by decide) (by decide) rfl (by decide)) at_198 ?_ 0
     rintro T_470 L_470 _ X_470 ⟨⟨⟩, Nq_470, e_470⟩
     have N_470 := Fr.app N_466 Nq_470
     by_cases hc201__471 : (own_gd_lo (own_draw p1)) = (0 : Int32)
     ·refine o_ifYes X_470 hq (pc' := 252) at_201 (teq hc201__471).1 (o_iconst X_470 hq 0 at_252 rfl (o_istore X_470 hq at_253 (l' := #[iv p1, iv p2, iv p3, iv p4, iv p5, iv p6, iv 5, rv b_369, rv b_392, iv (own_isn_5 (own_f5 (own_draw p1) (own_draw p2) (own_draw p3) (own_draw p4) (own_draw p5))), iv 0, iv (((((own_pt (own_draw p1)) + (own_pt (own_draw p2))) + (own_pt (own_draw p3))) + (own_pt (own_draw p4))) + (own_pt (own_draw p5))), iv 0]) rfl (o_iload X_470 hq at_255 rfl (o_iload X_470 hq at_257 rfl (o_icmpNo X_470 hq at_259 (teq (((((own_law_5 (own_draw p1) (own_draw p2) (own_draw p3) (own_draw p4) (own_draw p5) (own_drb p1) (own_drb p2) (own_drb p3) (own_drb p4) (own_drb p5)).trans (if_neg hc115__405)).trans (if_neg hc124__434)).trans (if_neg hc190__467)).trans (if_pos hc201__471))).2 (o_iconst X_470 hq 1 at_262 rfl (o_goto X_470 hq (pc' := 267) at_263 ?_)))))))
      have Kp_472 : Keep h0 T_393.heap [] := (Kp_397.trans K_393 (allS (Or.inr sz_392) all0))
      have Ks_473 := (Nat.le_trans (Nat.le_trans (Nat.le_trans (Nat.le_trans (Nat.le_trans (Nat.le_trans (Nat.le_trans (Nat.le_trans (Nat.le_refl h0.size) E_369.1) (Keep.of_wr W_373).1) (Keep.of_wr W_377).1) (Keep.of_wr W_381).1) (Keep.of_wr W_385).1) (Keep.of_wr W_389).1) E_392.1) K_393.1)
      exact e_ZW X_470 hS0 e_470 Ks_473 hq hlk hrt at_267 ⟨rfl, N_470, Kp_472⟩
     ·refine o_ifNo X_470 hq at_201 (feq hc201__471).1 (o_aload X_470 hq at_204 rfl rfl (o_iload X_470 hq at_206 rfl (o_iconst X_470 hq 1 at_208 rfl ?_)))
      refine c_S3 X_470 hq e_470 hZ hown hml (k0_29 hw) (rmgdmid hw b_369 (0 : Int32) (1 : Int32) k_369 (5 : Int32) [(.int (own_draw p1)), (.int (own_draw p2)), (.int (own_draw p3)), (.int (own_draw p4)), (.int (own_draw p5))] (.int (0 : Int32)) (own_draw p2) T_393.heap n0 Zs_402 Fa_403 (by decide) (by decide) (by decide) rfl (by decide) (by decide)) at_209 ?_ 0
      rintro T_474 L_474 _ X_474 ⟨⟨⟩, Nq_474, e_474⟩
      have N_474 := Fr.app N_470 Nq_474
      by_cases hc212__475 : (own_gd_mid (own_draw p2)) = (0 : Int32)
      ·refine o_ifYes X_474 hq (pc' := 252) at_212 (teq hc212__475).1 (o_iconst X_474 hq 0 at_252 rfl (o_istore X_474 hq at_253 (l' := #[iv p1, iv p2, iv p3, iv p4, iv p5, iv p6, iv 5, rv b_369, rv b_392, iv (own_isn_5 (own_f5 (own_draw p1) (own_draw p2) (own_draw p3) (own_draw p4) (own_draw p5))), iv 0, iv (((((own_pt (own_draw p1)) + (own_pt (own_draw p2))) + (own_pt (own_draw p3))) + (own_pt (own_draw p4))) + (own_pt (own_draw p5))), iv 0]) rfl (o_iload X_474 hq at_255 rfl (o_iload X_474 hq at_257 rfl (o_icmpNo X_474 hq at_259 (teq ((((((own_law_5 (own_draw p1) (own_draw p2) (own_draw p3) (own_draw p4) (own_draw p5) (own_drb p1) (own_drb p2) (own_drb p3) (own_drb p4) (own_drb p5)).trans (if_neg hc115__405)).trans (if_neg hc124__434)).trans (if_neg hc190__467)).trans (if_neg hc201__471)).trans (if_pos hc212__475))).2 (o_iconst X_474 hq 1 at_262 rfl (o_goto X_474 hq (pc' := 267) at_263 ?_)))))))
       have Kp_476 : Keep h0 T_393.heap [] := (Kp_397.trans K_393 (allS (Or.inr sz_392) all0))
       have Ks_477 := (Nat.le_trans (Nat.le_trans (Nat.le_trans (Nat.le_trans (Nat.le_trans (Nat.le_trans (Nat.le_trans (Nat.le_trans (Nat.le_refl h0.size) E_369.1) (Keep.of_wr W_373).1) (Keep.of_wr W_377).1) (Keep.of_wr W_381).1) (Keep.of_wr W_385).1) (Keep.of_wr W_389).1) E_392.1) K_393.1)
       exact e_ZW X_474 hS0 e_474 Ks_477 hq hlk hrt at_267 ⟨rfl, N_474, Kp_476⟩
      ·refine o_ifNo X_474 hq at_212 (feq hc212__475).1 (o_aload X_474 hq at_215 rfl rfl (o_iload X_474 hq at_217 rfl (o_iconst X_474 hq 2 at_219 rfl ?_)))
       refine c_S3 X_474 hq e_474 hZ hown hml (k0_29 hw) (rmgdmid hw b_369 (0 : Int32) (2 : Int32) k_369 (5 : Int32) [(.int (own_draw p1)), (.int (own_draw p2)), (.int (own_draw p3)), (.int (own_draw p4)), (.int (own_draw p5))] (.int (0 : Int32)) (own_draw p3) T_393.heap n0 Zs_402 Fa_403 (by decide) (by decide) (by decide) rfl (by decide) (by decide)) at_220 ?_ 0
       rintro T_478 L_478 _ X_478 ⟨⟨⟩, Nq_478, e_478⟩
       have N_478 := Fr.app N_474 Nq_478
       by_cases hc223__479 : (own_gd_mid (own_draw p3)) = (0 : Int32)
       ·refine o_ifYes X_478 hq (pc' := 252) at_223 (teq hc223__479).1 (o_iconst X_478 hq 0 at_252 rfl (o_istore X_478 hq at_253 (l' := #[iv p1, iv p2, iv p3, iv p4, iv p5, iv p6, iv 5, rv b_369, rv b_392, iv (own_isn_5 (own_f5 (own_draw p1) (own_draw p2) (own_draw p3) (own_draw p4) (own_draw p5))), iv 0, iv (((((own_pt (own_draw p1)) + (own_pt (own_draw p2))) + (own_pt (own_draw p3))) + (own_pt (own_draw p4))) + (own_pt (own_draw p5))), iv 0]) rfl (o_iload X_478 hq at_255 rfl (o_iload X_478 hq at_257 rfl (o_icmpNo X_478 hq at_259 (teq (((((((own_law_5 (own_draw p1) (own_draw p2) (own_draw p3) (own_draw p4) (own_draw p5) (own_drb p1) (own_drb p2) (own_drb p3) (own_drb p4) (own_drb p5)).trans (if_neg hc115__405)).trans (if_neg hc124__434)).trans (if_neg hc190__467)).trans (if_neg hc201__471)).trans (if_neg hc212__475)).trans (if_pos hc223__479))).2 (o_iconst X_478 hq 1 at_262 rfl (o_goto X_478 hq (pc' := 267) at_263 ?_)))))))
        have Kp_480 : Keep h0 T_393.heap [] := (Kp_397.trans K_393 (allS (Or.inr sz_392) all0))
        have Ks_481 := (Nat.le_trans (Nat.le_trans (Nat.le_trans (Nat.le_trans (Nat.le_trans (Nat.le_trans (Nat.le_trans (Nat.le_trans (Nat.le_refl h0.size) E_369.1) (Keep.of_wr W_373).1) (Keep.of_wr W_377).1) (Keep.of_wr W_381).1) (Keep.of_wr W_385).1) (Keep.of_wr W_389).1) E_392.1) K_393.1)
        exact e_ZW X_478 hS0 e_478 Ks_481 hq hlk hrt at_267 ⟨rfl, N_478, Kp_480⟩
       ·refine o_ifNo X_478 hq at_223 (feq hc223__479).1 (o_aload X_478 hq at_226 rfl rfl (o_iload X_478 hq at_228 rfl (o_iconst X_478 hq 3 at_230 rfl ?_)))
        refine c_S3 X_478 hq e_478 hZ hown hml (k0_29 hw) (rmgdmid hw b_369 (0 : Int32) (3 : Int32) k_369 (5 : Int32) [(.int (own_draw p1)), (.int (own_draw p2)), (.int (own_draw p3)), (.int (own_draw p4)), (.int (own_draw p5))] (.int (0 : Int32)) (own_draw p4) T_393.heap n0 Zs_402 Fa_403 (by decide) (by decide) (by decide) rfl (by decide) (by decide)) at_231 ?_ 0
        rintro T_482 L_482 _ X_482 ⟨⟨⟩, Nq_482, e_482⟩
        have N_482 := Fr.app N_478 Nq_482
        by_cases hc234__483 : (own_gd_mid (own_draw p4)) = (0 : Int32)
        ·refine o_ifYes X_482 hq (pc' := 252) at_234 (teq hc234__483).1 (o_iconst X_482 hq 0 at_252 rfl (o_istore X_482 hq at_253 (l' := #[iv p1, iv p2, iv p3, iv p4, iv p5, iv p6, iv 5, rv b_369, rv b_392, iv (own_isn_5 (own_f5 (own_draw p1) (own_draw p2) (own_draw p3) (own_draw p4) (own_draw p5))), iv 0, iv (((((own_pt (own_draw p1)) + (own_pt (own_draw p2))) + (own_pt (own_draw p3))) + (own_pt (own_draw p4))) + (own_pt (own_draw p5))), iv 0]) rfl (o_iload X_482 hq at_255 rfl (o_iload X_482 hq at_257 rfl (o_icmpNo X_482 hq at_259 (teq ((((((((own_law_5 (own_draw p1) (own_draw p2) (own_draw p3) (own_draw p4) (own_draw p5) (own_drb p1) (own_drb p2) (own_drb p3) (own_drb p4) (own_drb p5)).trans (if_neg hc115__405)).trans (if_neg hc124__434)).trans (if_neg hc190__467)).trans (if_neg hc201__471)).trans (if_neg hc212__475)).trans (if_neg hc223__479)).trans (if_pos hc234__483))).2 (o_iconst X_482 hq 1 at_262 rfl (o_goto X_482 hq (pc' := 267) at_263 ?_)))))))
         have Kp_484 : Keep h0 T_393.heap [] := (Kp_397.trans K_393 (allS (Or.inr sz_392) all0))
         have Ks_485 := (Nat.le_trans (Nat.le_trans (Nat.le_trans (Nat.le_trans (Nat.le_trans (Nat.le_trans (Nat.le_trans (Nat.le_trans (Nat.le_refl h0.size) E_369.1) (Keep.of_wr W_373).1) (Keep.of_wr W_377).1) (Keep.of_wr W_381).1) (Keep.of_wr W_385).1) (Keep.of_wr W_389).1) E_392.1) K_393.1)
         exact e_ZW X_482 hS0 e_482 Ks_485 hq hlk hrt at_267 ⟨rfl, N_482, Kp_484⟩
        ·refine o_ifNo X_482 hq at_234 (feq hc234__483).1 (o_aload X_482 hq at_237 rfl rfl (o_iload X_482 hq at_239 rfl (o_iconst X_482 hq 4 at_241 rfl ?_)))
         refine c_S3 X_482 hq e_482 hZ hown hml (k0_29 hw) (rmgdhi hw b_369 (0 : Int32) (4 : Int32) k_369 (5 : Int32) [(.int (own_draw p1)), (.int (own_draw p2)), (.int (own_draw p3)), (.int (own_draw p4)), (.int (own_draw p5))] (.int (0 : Int32)) (own_draw p5) T_393.heap n0 Zs_402 Fa_403 (by decide) (by decide) (by decide) rfl (by decide) (by decide)) at_242 ?_ 0
         rintro T_486 L_486 _ X_486 ⟨⟨⟩, Nq_486, e_486⟩
         have N_486 := Fr.app N_482 Nq_486
         by_cases hc245__487 : (own_gd_hi (own_draw p5)) = (0 : Int32)
         ·refine o_ifYes X_486 hq (pc' := 252) at_245 (teq hc245__487).1 (o_iconst X_486 hq 0 at_252 rfl (o_istore X_486 hq at_253 (l' := #[iv p1, iv p2, iv p3, iv p4, iv p5, iv p6, iv 5, rv b_369, rv b_392, iv (own_isn_5 (own_f5 (own_draw p1) (own_draw p2) (own_draw p3) (own_draw p4) (own_draw p5))), iv 0, iv (((((own_pt (own_draw p1)) + (own_pt (own_draw p2))) + (own_pt (own_draw p3))) + (own_pt (own_draw p4))) + (own_pt (own_draw p5))), iv 0]) rfl (o_iload X_486 hq at_255 rfl (o_iload X_486 hq at_257 rfl (o_icmpNo X_486 hq at_259 (teq (((((((((own_law_5 (own_draw p1) (own_draw p2) (own_draw p3) (own_draw p4) (own_draw p5) (own_drb p1) (own_drb p2) (own_drb p3) (own_drb p4) (own_drb p5)).trans (if_neg hc115__405)).trans (if_neg hc124__434)).trans (if_neg hc190__467)).trans (if_neg hc201__471)).trans (if_neg hc212__475)).trans (if_neg hc223__479)).trans (if_neg hc234__483)).trans (if_pos hc245__487))).2 (o_iconst X_486 hq 1 at_262 rfl (o_goto X_486 hq (pc' := 267) at_263 ?_)))))))
          have Kp_488 : Keep h0 T_393.heap [] := (Kp_397.trans K_393 (allS (Or.inr sz_392) all0))
          have Ks_489 := (Nat.le_trans (Nat.le_trans (Nat.le_trans (Nat.le_trans (Nat.le_trans (Nat.le_trans (Nat.le_trans (Nat.le_trans (Nat.le_refl h0.size) E_369.1) (Keep.of_wr W_373).1) (Keep.of_wr W_377).1) (Keep.of_wr W_381).1) (Keep.of_wr W_385).1) (Keep.of_wr W_389).1) E_392.1) K_393.1)
          exact e_ZW X_486 hS0 e_486 Ks_489 hq hlk hrt at_267 ⟨rfl, N_486, Kp_488⟩
         ·refine o_ifNo X_486 hq at_245 (feq hc245__487).1 (o_iconst X_486 hq 1 at_248 rfl (o_goto X_486 hq (pc' := 253) at_249 (o_istore X_486 hq at_253 (l' := #[iv p1, iv p2, iv p3, iv p4, iv p5, iv p6, iv 5, rv b_369, rv b_392, iv (own_isn_5 (own_f5 (own_draw p1) (own_draw p2) (own_draw p3) (own_draw p4) (own_draw p5))), iv 0, iv (((((own_pt (own_draw p1)) + (own_pt (own_draw p2))) + (own_pt (own_draw p3))) + (own_pt (own_draw p4))) + (own_pt (own_draw p5))), iv 1]) rfl (o_iload X_486 hq at_255 rfl (o_iload X_486 hq at_257 rfl (o_icmpNo X_486 hq at_259 (teq (((((((((own_law_5 (own_draw p1) (own_draw p2) (own_draw p3) (own_draw p4) (own_draw p5) (own_drb p1) (own_drb p2) (own_drb p3) (own_drb p4) (own_drb p5)).trans (if_neg hc115__405)).trans (if_neg hc124__434)).trans (if_neg hc190__467)).trans (if_neg hc201__471)).trans (if_neg hc212__475)).trans (if_neg hc223__479)).trans (if_neg hc234__483)).trans (if_neg hc245__487))).2 (o_iconst X_486 hq 1 at_262 rfl (o_goto X_486 hq (pc' := 267) at_263 ?_))))))))
          have Kp_490 : Keep h0 T_393.heap [] := (Kp_397.trans K_393 (allS (Or.inr sz_392) all0))
          have Ks_491 := (Nat.le_trans (Nat.le_trans (Nat.le_trans (Nat.le_trans (Nat.le_trans (Nat.le_trans (Nat.le_trans (Nat.le_trans (Nat.le_refl h0.size) E_369.1) (Keep.of_wr W_373).1) (Keep.of_wr W_377).1) (Keep.of_wr W_381).1) (Keep.of_wr W_385).1) (Keep.of_wr W_389).1) E_392.1) K_393.1)
          exact e_ZW X_486 hS0 e_486 Ks_491 hq hlk hrt at_267 ⟨rfl, N_486, Kp_490⟩
theorem comes_1 {Post : Tables → Env → Array Value → State → Outcome → State → Prop} (hpost : ∀ tb e args s v u, (limb_1_1.after args s (.returned v) u = true ∧ limb_1_2.after args s (.returned v) u = true ∧ True) → ReturnedEndW s (.returned v) u (Jvm.fieldLocs frame_1_writes args s ++ Jvm.arrayLocs frame_1_arrays args s ++ Jvm.staticLocs frame_1_statics s) 16 1152 → Post tb e args s (.returned v) u) :
  ArmFor flags0 classFile x code maxLocals ret World_1 tables_1 room_1 Calls_1 rest_1 Pre_1 Post := by
 intro l hfl _ _ p e ha hc hk s m args below hf hA hF happ hP
 obtain ⟨hcalls, hrest, hpre⟩ := hP
 obtain ⟨-, -, -, hnamed, -, -, -, hat⟩ := (Spec.applies_iff hf).mp happ
 obtain ⟨hg, hn⟩ := and_e (Cond.before_iff.mp (show (Jvm.Cond.and given_1 narrow_1).before args s = true from hpre))
 obtain ⟨g1, g2⟩ := and_e hg
 obtain ⟨g3, g4⟩ := and_e g2
 obtain ⟨g5, g6⟩ := and_e g4
 obtain ⟨g7, g8⟩ := and_e g6
 obtain ⟨g9, g10⟩ := and_e g8
 obtain ⟨g11, g12⟩ := and_e g10
 obtain ⟨w0, w1, w2, w3, w4, w5, rfl⟩ : ∃ w0 w1 w2 w3 w4 w5 : Value, args = #[w0, w1, w2, w3, w4, w5] := by
  have hs : args.size = 6 := by simpa [Cond.value, given_1] using g1
  obtain ⟨L⟩ := args
  match L, hs with
  | [w0, w1, w2, w3, w4, w5], _ => exact ⟨w0, w1, w2, w3, w4, w5, rfl⟩
 have hw := fun d (hd : d ∈ tables_1) => atoms_spec (ws := Jvm.Cond.code x code maxLocals ret :: tables_1) hat d (List.mem_cons_of_mem _ hd)
 have hfit : Fit s := fun {y c} hc i hi => by
  obtain ⟨ha, rfl⟩ := Array.getElem?_eq_some_iff.mp hc
  have q := List.all_eq_true.mp ((Array.all_eq_true_iff_forall_mem.mp hF) _ (Array.getElem_mem ha)) i (List.mem_range.mpr hi)
  simpa [Array.getElem?_eq_getElem hi] using q
 obtain ⟨hsets, hown0⟩ := atoms_of _ (rest_1_c_eq ▸ (show rest_1_c.before _ s = true from hrest))
 have hr0 := Cond.before_iff.mp hown0
 obtain ⟨i0, ei0⟩ := is_v g3
 obtain rfl : w0 = (.int i0) := Option.some.inj ei0
 obtain ⟨i1, ei1⟩ := is_v g5
 obtain rfl : w1 = (.int i1) := Option.some.inj ei1
 obtain ⟨i2, ei2⟩ := is_v g7
 obtain rfl : w2 = (.int i2) := Option.some.inj ei2
 obtain ⟨i3, ei3⟩ := is_v g9
 obtain rfl : w3 = (.int i3) := Option.some.inj ei3
 obtain ⟨i4, ei4⟩ := is_v g11
 obtain rfl : w4 = (.int i4) := Option.some.inj ei4
 obtain ⟨i5, ei5⟩ := is_v g12
 obtain rfl : w5 = (.int i5) := Option.some.inj ei5
 obtain ⟨wC, evC⟩ := is_v (Cond.before_iff.mp (hsets _ (List.mem_of_getElem? (i := 1) rfl)))
 have hwC : ¬ wC = (0 : Int32) := gotF (Cond.eq_ints evC (Term.int_eval (0))) (not_v (Cond.before_iff.mp (hsets _ (List.mem_of_getElem? (i := 2) rfl))))
 obtain ⟨sfv, evS, hsf⟩ := isR_v (Cond.before_iff.mp (hsets _ (List.mem_of_getElem? (i := 8) rfl)))
 obtain ⟨n, o, h1, h2, h3, _, L, rfl, ⟨rfl, N, -⟩, hq⟩ := rm0 l s _ hw tables_1 i0 i1 i2 i3 i4 i5 wC sfv s.heap s.heap.size (Nat.le_refl _) (Sta.start evC (Or.inl (hsets _ (List.mem_of_getElem? (i := 0) rfl)))) hwC (Sta.start evS (Or.inl (hsets _ (List.mem_of_getElem? (i := 7) rfl)))) hsf p e ha hc hk s m _ below hf ((Spec.applies_iff_loose hf).mp happ).1 ⟨rfl, State.Warmed39.refl s, rfl, (CHv.start (own_EW hw) (fun p hp => hcalls.1 p hp) (hsets _ (List.mem_of_getElem? (i := 2) rfl)) (w_ hw 24 rfl) (w_ hw 7 rfl))⟩ trivial
 refine ⟨n, _, h1, h2, h3, hpost _ _ _ _ _ _ ⟨Cond.after_iff.mpr rfl, Cond.after_iff.mpr (eq_i res_at (Term.int_eval (1)) rfl), trivial⟩ ⟨hq.1, hq.2.1, hq.2.2.1, (hq.2.2.2.sift fun y hy => Or.inr (N y hy)).mono (by decide) (by decide)⟩⟩
theorem main_1_1 : Claimed_1_1 := comes_1 fun _ _ _ _ _ _ h hF => ⟨h.1, hF⟩
theorem main_1_2 : Claimed_1_2 := comes_1 fun _ _ _ _ _ _ h hF => ⟨h.2.1, hF⟩
end Jvm.Pilot.@@N@@
namespace Jvm.Pilot.@@N@@
open Jvm Jvm.ClassFile Sem Op Lib Jvm.Free Jvm.Stand Jvm.Pilot.@@N@@.Jvm.D
/-! MADE BY PROGRAM (witnessworld.py) out of the Statement's table words and the real class files: 21 classes; the members and pool entries that the words name. The judged class is class 1, her method 1. -/
namespace start1
open Jvm.ClassFile
def u (s : String) : CpInfo := .utf8 (stringToUtf16 s)
/-- a pool by its gaps: so many unusable entries, then the entry; so many at the end -/
def gap : Nat → List CpInfo → List CpInfo
  | 0, r => r
  | n + 1, r => .unusable :: gap n r
def poolList (es : List (Nat × CpInfo)) (last : Nat) : List CpInfo := es.foldr (fun e r => gap e.1 (e.2 :: r)) (gap last [])
def pool (es : List (Nat × CpInfo)) (last : Nat) : Array CpInfo := ⟨poolList es last⟩
def fileOf (pool : Array CpInfo) (this : Nat) (attrs : Array Attribute := #[]) (ms : Array MethodInfo := #[]) (fl : Nat := 33) (sup : Nat := 0) (ifs : Array Nat := #[]) (fds : Array FieldInfo := #[]) : ClassFile where
  minorVersion := 0
  majorVersion := 65
  constantPool := pool
  accessFlags := fl
  thisClass := this
  superClass := sup
  interfaces := ifs
  fields := fds
  methods := ms
  attributes := attrs
def plain (name : String) (sup : Option ClassId) : Class where
  name := name
  kind := .ordinary
  loader := none
  accessFlags := 33
  super := sup
  interfaces := #[]
  cf := none
  fields := #[]
  methods := #[]
  instanceTypes := #[]
  staticTypes := #[]
  resolved := #[]
  callSites := []
  init := .initialized
  statics := none
  mirror := none

def pool0 : Array CpInfo := pool [(5, u "<init>"), (0, u "()V"), (1, .class_ 10), (1, u "java/lang/Object")] 113

def k0c0 : Code := { maxStack := 0, maxLocals := 1, code := object_method_1_code, exceptionTable := #[], attributes := #[] }
def k0m0 : Method := { name := "<init>", desc := "()V", sig := { parameters := [], returnType := none }, accessFlags := 1, code := some k0c0 }
/-- java/lang/Object -/
def k0 : Class := { plain "java/lang/Object" none with
  accessFlags := 33
  interfaces := #[]
  cf := some (fileOf pool0 8 #[] #[{ accessFlags := 1, nameIndex := 5, descriptorIndex := 6, attributes := #[] }] 33 0 #[] #[])
  fields := #[]
  methods := #[k0m0]
  instanceTypes := #[]
  staticTypes := #[]
  resolved := Array.replicate 124 none
  statics := none }

def pool1 : Array CpInfo := pool [(2, .class_ 4), (1, u "java/lang/Object"), (0, u "<init>"), (0, u "()V"), (0, .integer 2147483647), (0, .methodref 9 10), (0, .class_ 11), (0, .nameAndType 12 13), (0, u "com/example/nimble_anonymizer/nimbleanonymizer/NumericColumnIsNumberPinLaw"), (0, u "draw"), (0, u "(I)C"), (0, .class_ 15), (0, u "java/lang/String"), (0, .methodref 14 17), (0, .nameAndType 5 18), (0, u "([C)V"), (0, .methodref 20 21), (0, .class_ 22), (0, .nameAndType 23 24), (0, u "com/example/nimble_anonymizer/nimbleanonymizer/NumericColumn"), (0, u "isNumber"), (0, u "(Ljava/lang/String;)Z"), (0, .methodref 9 26), (0, .nameAndType 27 28), (0, u "point"), (0, u "([CII)I"), (0, .methodref 9 30), (0, .nameAndType 31 32), (0, u "good"), (0, u "([CII)Z"), (2, u "law"), (0, u "(IIIIII)Z")] 5

def k1m0 : Method := { name := "<init>", desc := "()V", sig := { parameters := [], returnType := none }, accessFlags := 1, code := none }
def k1c1 : Code := { maxStack := 4, maxLocals := 13, code := code, exceptionTable := #[], attributes := #[] }
def k1m1 : Method := { name := "law", desc := "(IIIIII)Z", sig := { parameters := [.int, .int, .int, .int, .int, .int], returnType := some .boolean }, accessFlags := 9, code := some k1c1 }
def k1c2 : Code := { maxStack := 3, maxLocals := 4, code := method_3_code, exceptionTable := #[], attributes := #[] }
def k1m2 : Method := { name := "draw", desc := "(I)C", sig := { parameters := [.int], returnType := some .char }, accessFlags := 10, code := some k1c2 }
def k1c3 : Code := { maxStack := 2, maxLocals := 3, code := method_4_code, exceptionTable := #[], attributes := #[] }
def k1m3 : Method := { name := "point", desc := "([CII)I", sig := { parameters := [(.array .char), .int, .int], returnType := some .int }, accessFlags := 10, code := some k1c3 }
def k1c4 : Code := { maxStack := 3, maxLocals := 4, code := method_5_code, exceptionTable := #[], attributes := #[] }
def k1m4 : Method := { name := "good", desc := "([CII)Z", sig := { parameters := [(.array .char), .int, .int], returnType := some .boolean }, accessFlags := 10, code := some k1c4 }
/-- com/example/nimble_anonymizer/nimbleanonymizer/NumericColumnIsNumberPinLaw -/
def k1 : Class := { plain "com/example/nimble_anonymizer/nimbleanonymizer/NumericColumnIsNumberPinLaw" (some 0) with
  accessFlags := 49
  interfaces := #[]
  cf := some (fileOf pool1 9 #[] #[{ accessFlags := 1, nameIndex := 5, descriptorIndex := 6, attributes := #[] }, { accessFlags := 9, nameIndex := 35, descriptorIndex := 36, attributes := #[] }, { accessFlags := 10, nameIndex := 12, descriptorIndex := 13, attributes := #[] }, { accessFlags := 10, nameIndex := 27, descriptorIndex := 28, attributes := #[] }, { accessFlags := 10, nameIndex := 31, descriptorIndex := 32, attributes := #[] }] 49 2 #[] #[])
  fields := #[]
  methods := #[k1m0, k1m1, k1m2, k1m3, k1m4]
  instanceTypes := #[]
  staticTypes := #[]
  resolved := Array.replicate 42 none
  statics := none }

def pool2 : Array CpInfo := pool [(1, .class_ 2), (0, u "java/io/Serializable"), (0, .class_ 4), (0, u "java/lang/Object")] 2

/-- java/io/Serializable -/
def k2 : Class := { plain "java/io/Serializable" (some 0) with
  accessFlags := 1537
  interfaces := #[]
  cf := some (fileOf pool2 1 #[] #[] 1537 3 #[] #[])
  fields := #[]
  methods := #[]
  instanceTypes := #[]
  staticTypes := #[]
  resolved := Array.replicate 7 none
  statics := none }

def pool3 : Array CpInfo := pool [(1, .class_ 2), (0, u "java/lang/Comparable"), (0, .class_ 4), (0, u "java/lang/Object")] 7

/-- java/lang/Comparable -/
def k3 : Class := { plain "java/lang/Comparable" (some 0) with
  accessFlags := 1537
  interfaces := #[]
  cf := some (fileOf pool3 1 #[] #[] 1537 3 #[] #[])
  fields := #[]
  methods := #[]
  instanceTypes := #[]
  staticTypes := #[]
  resolved := Array.replicate 12 none
  statics := none }

def pool4 : Array CpInfo := pool [(2, .class_ 4), (1, u "java/lang/CharSequence"), (42, .class_ 48), (0, u "java/lang/CharSequence$1CodePointIterator"), (10, .class_ 60), (0, u "java/lang/CharSequence$1CharIterator"), (5, .class_ 67), (0, u "java/lang/Object")] 63

/-- java/lang/CharSequence -/
def k4 : Class := { plain "java/lang/CharSequence" (some 0) with
  accessFlags := 1537
  interfaces := #[]
  cf := some (fileOf pool4 2 #[.nestMembers #[47, 59]] #[] 1537 66 #[] #[])
  fields := #[]
  methods := #[]
  instanceTypes := #[]
  staticTypes := #[]
  resolved := Array.replicate 131 none
  statics := none }

def pool5 : Array CpInfo := pool [(1, .class_ 2), (0, u "java/lang/constant/Constable"), (0, .class_ 4), (0, u "java/lang/Object")] 6

/-- java/lang/constant/Constable -/
def k5 : Class := { plain "java/lang/constant/Constable" (some 0) with
  accessFlags := 1537
  interfaces := #[]
  cf := some (fileOf pool5 1 #[] #[] 1537 3 #[] #[])
  fields := #[]
  methods := #[]
  instanceTypes := #[]
  staticTypes := #[]
  resolved := Array.replicate 11 none
  statics := none }

def pool6 : Array CpInfo := pool [(1, .class_ 2), (0, u "java/lang/constant/ConstantDesc"), (0, .class_ 4), (0, u "java/lang/Object")] 32

/-- java/lang/constant/ConstantDesc -/
def k6 : Class := { plain "java/lang/constant/ConstantDesc" (some 0) with
  accessFlags := 1537
  interfaces := #[]
  cf := some (fileOf pool6 1 #[] #[] 1537 3 #[] #[])
  fields := #[]
  methods := #[]
  instanceTypes := #[]
  staticTypes := #[]
  resolved := Array.replicate 37 none
  statics := none }

def pool7 : Array CpInfo := pool [(1, .methodref 2 3), (0, .class_ 4), (0, .nameAndType 5 6), (0, u "java/lang/Object"), (0, u "<init>"), (0, u "()V"), (0, .string 8), (0, u ""), (0, .fieldref 10 11), (0, .class_ 12), (0, .nameAndType 13 14), (0, u "java/lang/String"), (0, u "value"), (0, u "[B"), (0, .fieldref 10 16), (0, .nameAndType 17 18), (0, u "coder"), (0, u "B"), (2, u "hash"), (0, u "I"), (2, u "hashIsZero"), (0, u "Z"), (0, .methodref 10 28), (0, .nameAndType 5 29), (0, u "([CIILjava/lang/Void;)V"), (8, .fieldref 10 39), (0, .nameAndType 40 26), (0, u "COMPACT_STRINGS"), (1, .class_ 44), (1, u "java/lang/StringUTF16"), (0, u "compress"), (1, .methodref 42 48), (0, .nameAndType 49 50), (0, u "coderFromArrayLen"), (0, u "([BI)B"), (56, .class_ 109), (1, u "java/lang/StringLatin1"), (32, u "()Z"), (34, .methodref 42 178), (0, .nameAndType 45 179), (0, u "([CII)[B"), (154, u "()I"), (0, .methodref 10 336), (0, .nameAndType 17 337), (0, u "()B"), (25, u "([BI)C"), (27, u "(II)V"), (35, u "(I)C"), (64, .methodref 10 493), (0, .nameAndType 494 142), (0, u "isLatin1"), (0, .methodref 107 496), (0, .nameAndType 497 363), (0, u "charAt"), (3, u "checkIndex"), (3, .methodref 10 506), (0, .nameAndType 507 334), (0, u "length"), (67, .class_ 576), (0, u "java/lang/CharSequence"), (22, u "CASE_INSENSITIVE_ORDER"), (0, u "Ljava/util/Comparator;"), (34, u "indexOf"), (0, u "(II)I"), (0, .methodref 107 638), (0, .nameAndType 635 639), (0, u "([BIII)I"), (52, u "isEmpty"), (317, u "([C)V"), (42, .fieldref 1054 1055), (0, .class_ 1056), (0, .nameAndType 1057 1058), (0, u "jdk/internal/util/Preconditions"), (0, u "SIOOBE_FORMATTER"), (0, u "Ljava/util/function/BiFunction;"), (0, .methodref 1054 1060), (0, .nameAndType 501 1061), (0, u "(IILjava/util/function/BiFunction;)I"), (39, u "serialPersistentFields"), (0, u "[Ljava/io/ObjectStreamField;"), (0, .class_ 1104), (0, u "java/lang/String$CaseInsensitiveComparator"), (1, .class_ 1107), (0, u "java/io/Serializable"), (0, .class_ 1109), (0, u "java/lang/Comparable"), (0, .class_ 1111), (0, u "java/lang/constant/Constable"), (0, .class_ 1113), (0, u "java/lang/constant/ConstantDesc"), (2, u "serialVersionUID"), (0, u "J"), (3, u "REPL"), (0, u "C"), (2, u "LATIN1"), (1, u "UTF16")] 323

def k7m0 : Method := { name := "<init>", desc := "()V", sig := { parameters := [], returnType := none }, accessFlags := 1, code := none }
def k7c1 : Code := { maxStack := 5, maxLocals := 2, code := jdk_42_method_3_code, exceptionTable := #[], attributes := #[] }
def k7m1 : Method := { name := "<init>", desc := "([C)V", sig := { parameters := [(.array .char)], returnType := none }, accessFlags := 1, code := some k7c1 }
def k7c2 : Code := { maxStack := 2, maxLocals := 1, code := jdk_42_method_54_code, exceptionTable := #[], attributes := #[] }
def k7m2 : Method := { name := "length", desc := "()I", sig := { parameters := [], returnType := some .int }, accessFlags := 1, code := some k7c2 }
def k7c3 : Code := { maxStack := 1, maxLocals := 1, code := jdk_42_method_55_code, exceptionTable := #[], attributes := #[] }
def k7m3 : Method := { name := "isEmpty", desc := "()Z", sig := { parameters := [], returnType := some .boolean }, accessFlags := 1, code := some k7c3 }
def k7c4 : Code := { maxStack := 2, maxLocals := 2, code := jdk_42_method_56_code, exceptionTable := #[], attributes := #[] }
def k7m4 : Method := { name := "charAt", desc := "(I)C", sig := { parameters := [.int], returnType := some .char }, accessFlags := 1, code := some k7c4 }
def k7c5 : Code := { maxStack := 4, maxLocals := 3, code := jdk_42_method_80_code, exceptionTable := #[], attributes := #[] }
def k7m5 : Method := { name := "indexOf", desc := "(II)I", sig := { parameters := [.int, .int], returnType := some .int }, accessFlags := 1, code := some k7c5 }
def k7c6 : Code := { maxStack := 4, maxLocals := 6, code := jdk_42_method_149_code, exceptionTable := #[], attributes := #[] }
def k7m6 : Method := { name := "<init>", desc := "([CIILjava/lang/Void;)V", sig := { parameters := [(.array .char), .int, .int, (.object "java/lang/Void")], returnType := none }, accessFlags := 2, code := some k7c6 }
def k7c7 : Code := { maxStack := 1, maxLocals := 1, code := jdk_42_method_152_code, exceptionTable := #[], attributes := #[] }
def k7m7 : Method := { name := "coder", desc := "()B", sig := { parameters := [], returnType := some .byte }, accessFlags := 0, code := some k7c7 }
def k7c8 : Code := { maxStack := 1, maxLocals := 1, code := jdk_42_method_154_code, exceptionTable := #[], attributes := #[] }
def k7m8 : Method := { name := "isLatin1", desc := "()Z", sig := { parameters := [], returnType := some .boolean }, accessFlags := 0, code := some k7c8 }
def k7c9 : Code := { maxStack := 3, maxLocals := 2, code := jdk_42_method_155_code, exceptionTable := #[], attributes := #[] }
def k7m9 : Method := { name := "checkIndex", desc := "(II)V", sig := { parameters := [.int, .int], returnType := none }, accessFlags := 8, code := some k7c9 }
/-- java/lang/String -/
def k7 : Class := { plain "java/lang/String" (some 0) with
  accessFlags := 49
  interfaces := #[2, 3, 4, 5, 6]
  cf := some (fileOf pool7 10 #[.nestMembers #[1103]] #[{ accessFlags := 1, nameIndex := 5, descriptorIndex := 6, attributes := #[] }, { accessFlags := 1, nameIndex := 5, descriptorIndex := 1010, attributes := #[] }, { accessFlags := 1, nameIndex := 507, descriptorIndex := 334, attributes := #[] }, { accessFlags := 1, nameIndex := 692, descriptorIndex := 142, attributes := #[] }, { accessFlags := 1, nameIndex := 497, descriptorIndex := 427, attributes := #[] }, { accessFlags := 1, nameIndex := 635, descriptorIndex := 636, attributes := #[] }, { accessFlags := 2, nameIndex := 5, descriptorIndex := 29, attributes := #[] }, { accessFlags := 0, nameIndex := 17, descriptorIndex := 337, attributes := #[] }, { accessFlags := 0, nameIndex := 494, descriptorIndex := 142, attributes := #[] }, { accessFlags := 8, nameIndex := 501, descriptorIndex := 391, attributes := #[] }] 49 2 #[1106, 1108, 575, 1110, 1112] #[{ accessFlags := 18, nameIndex := 13, descriptorIndex := 14, attributes := #[] }, { accessFlags := 18, nameIndex := 17, descriptorIndex := 18, attributes := #[] }, { accessFlags := 2, nameIndex := 21, descriptorIndex := 22, attributes := #[] }, { accessFlags := 2, nameIndex := 25, descriptorIndex := 26, attributes := #[] }, { accessFlags := 26, nameIndex := 1116, descriptorIndex := 1117, attributes := #[] }, { accessFlags := 24, nameIndex := 40, descriptorIndex := 26, attributes := #[] }, { accessFlags := 26, nameIndex := 1101, descriptorIndex := 1102, attributes := #[] }, { accessFlags := 26, nameIndex := 1121, descriptorIndex := 1122, attributes := #[] }, { accessFlags := 25, nameIndex := 599, descriptorIndex := 600, attributes := #[] }, { accessFlags := 24, nameIndex := 1125, descriptorIndex := 18, attributes := #[] }, { accessFlags := 24, nameIndex := 1127, descriptorIndex := 18, attributes := #[] }])
  fields := #[{ name := "value", type := (.array .byte), accessFlags := 18, slot := 0, constantValue := 0 }, { name := "coder", type := .byte, accessFlags := 18, slot := 1, constantValue := 0 }, { name := "hash", type := .int, accessFlags := 2, slot := 2, constantValue := 0 }, { name := "hashIsZero", type := .boolean, accessFlags := 2, slot := 3, constantValue := 0 }, { name := "serialVersionUID", type := .long, accessFlags := 26, slot := 0, constantValue := 0 }, { name := "COMPACT_STRINGS", type := .boolean, accessFlags := 24, slot := 1, constantValue := 0 }, { name := "serialPersistentFields", type := (.array (.object "java/io/ObjectStreamField")), accessFlags := 26, slot := 2, constantValue := 0 }, { name := "REPL", type := .char, accessFlags := 26, slot := 3, constantValue := 0 }, { name := "CASE_INSENSITIVE_ORDER", type := (.object "java/util/Comparator"), accessFlags := 25, slot := 4, constantValue := 0 }, { name := "LATIN1", type := .byte, accessFlags := 24, slot := 5, constantValue := 0 }, { name := "UTF16", type := .byte, accessFlags := 24, slot := 6, constantValue := 0 }]
  methods := #[k7m0, k7m1, k7m2, k7m3, k7m4, k7m5, k7m6, k7m7, k7m8, k7m9]
  instanceTypes := #[(.array .byte), .byte, .int, .boolean]
  staticTypes := #[.long, .boolean, (.array (.object "java/io/ObjectStreamField")), .char, (.object "java/util/Comparator"), .byte, .byte]
  resolved := Array.replicate 1451 none
  statics := some 0 }

def pool8 : Array CpInfo := pool [(6, .class_ 8), (1, u "java/lang/Object"), (0, u "<init>"), (0, u "()V"), (1, .class_ 14), (1, u "java/lang/StringUTF16"), (31, u "$assertionsDisabled"), (0, u "Z"), (13, u "HI_BYTE_SHIFT"), (0, u "I"), (2, u "LO_BYTE_SHIFT"), (49, .methodref 12 116), (0, .nameAndType 117 118), (0, u "compress"), (0, u "([CI[BII)I"), (3, u "([CII)[B"), (138, u "coderFromArrayLen"), (0, u "([BI)B"), (106, .class_ 371), (1, u "java/lang/StringUTF16$LinesSpliterator"), (58, u "MAX_LENGTH"), (196, .class_ 628), (0, u "java/lang/StringUTF16$CodePointsSpliterator"), (0, .class_ 630), (0, u "java/lang/StringUTF16$CharsSpliterator")] 4

def k8m0 : Method := { name := "<init>", desc := "()V", sig := { parameters := [], returnType := none }, accessFlags := 0, code := none }
def k8c1 : Code := { maxStack := 2, maxLocals := 2, code := jdk_52_method_15_code, exceptionTable := #[], attributes := #[] }
def k8m1 : Method := { name := "coderFromArrayLen", desc := "([BI)B", sig := { parameters := [(.array .byte), .int], returnType := some .byte }, accessFlags := 8, code := some k8c1 }
def k8c2 : Code := { maxStack := 5, maxLocals := 6, code := jdk_52_method_16_code, exceptionTable := #[], attributes := #[] }
def k8m2 : Method := { name := "compress", desc := "([CII)[B", sig := { parameters := [(.array .char), .int, .int], returnType := some (.array .byte) }, accessFlags := 9, code := some k8c2 }
def k8c3 : Code := { maxStack := 3, maxLocals := 7, code := jdk_52_method_21_code, exceptionTable := #[], attributes := #[] }
def k8m3 : Method := { name := "compress", desc := "([CI[BII)I", sig := { parameters := [(.array .char), .int, (.array .byte), .int, .int], returnType := some .int }, accessFlags := 9, code := some k8c3 }
/-- java/lang/StringUTF16 -/
def k8 : Class := { plain "java/lang/StringUTF16" (some 0) with
  accessFlags := 48
  interfaces := #[]
  cf := some (fileOf pool8 12 #[.nestMembers #[627, 629, 369]] #[{ accessFlags := 0, nameIndex := 9, descriptorIndex := 10, attributes := #[] }, { accessFlags := 8, nameIndex := 261, descriptorIndex := 262, attributes := #[] }, { accessFlags := 9, nameIndex := 117, descriptorIndex := 122, attributes := #[] }, { accessFlags := 9, nameIndex := 117, descriptorIndex := 118, attributes := #[] }] 48 6 #[] #[{ accessFlags := 26, nameIndex := 61, descriptorIndex := 62, attributes := #[] }, { accessFlags := 26, nameIndex := 65, descriptorIndex := 62, attributes := #[] }, { accessFlags := 24, nameIndex := 430, descriptorIndex := 62, attributes := #[] }, { accessFlags := 4120, nameIndex := 46, descriptorIndex := 47, attributes := #[] }])
  fields := #[{ name := "HI_BYTE_SHIFT", type := .int, accessFlags := 26, slot := 0, constantValue := 0 }, { name := "LO_BYTE_SHIFT", type := .int, accessFlags := 26, slot := 1, constantValue := 0 }, { name := "MAX_LENGTH", type := .int, accessFlags := 24, slot := 2, constantValue := 0 }, { name := "$assertionsDisabled", type := .boolean, accessFlags := 4120, slot := 3, constantValue := 0 }]
  methods := #[k8m0, k8m1, k8m2, k8m3]
  instanceTypes := #[]
  staticTypes := #[.int, .int, .int, .boolean]
  resolved := Array.replicate 635 none
  statics := none }

def pool9 : Array CpInfo := pool [(2, .class_ 4), (1, u "java/lang/Object"), (3, .class_ 10), (1, u "com/example/nimble_anonymizer/nimbleanonymizer/NumericColumn"), (0, u "ranks"), (0, u "[I"), (2, u "values"), (0, u "[Ljava/math/BigDecimal;"), (2, u "spellings"), (0, u "[Ljava/lang/String;"), (8, u "()I"), (0, .class_ 31), (0, u "java/lang/String"), (49, .methodref 8 82), (0, .nameAndType 83 84), (0, u "signed"), (0, u "(Ljava/lang/String;)Z"), (0, .methodref 30 86), (0, .nameAndType 87 88), (0, u "indexOf"), (0, u "(II)I"), (0, .methodref 30 90), (0, .nameAndType 91 29), (0, u "length"), (0, .methodref 8 93), (0, .nameAndType 94 95), (0, u "digits"), (0, u "(Ljava/lang/String;II)Z"), (0, .methodref 30 97), (0, .nameAndType 98 99), (0, u "isEmpty"), (0, u "()Z"), (0, .methodref 30 101), (0, .nameAndType 102 103), (0, u "charAt"), (0, u "(I)C"), (53, u "isNumber"), (13, .class_ 172), (0, u "com/example/nimble_anonymizer/nimbleanonymizer/NumericColumn$Ranking"), (89, u "POWERS_OF_TEN"), (0, u "[J"), (30, u "LONG_DIGITS"), (0, u "I")] 71

def k9c0 : Code := { maxStack := 3, maxLocals := 3, code := prog_24_method_4_code, exceptionTable := #[], attributes := #[] }
def k9m0 : Method := { name := "isNumber", desc := "(Ljava/lang/String;)Z", sig := { parameters := [(.object "java/lang/String")], returnType := some .boolean }, accessFlags := 8, code := some k9c0 }
def k9c1 : Code := { maxStack := 2, maxLocals := 1, code := prog_24_method_5_code, exceptionTable := #[], attributes := #[] }
def k9m1 : Method := { name := "signed", desc := "(Ljava/lang/String;)Z", sig := { parameters := [(.object "java/lang/String")], returnType := some .boolean }, accessFlags := 10, code := some k9c1 }
def k9c2 : Code := { maxStack := 2, maxLocals := 5, code := prog_24_method_6_code, exceptionTable := #[], attributes := #[] }
def k9m2 : Method := { name := "digits", desc := "(Ljava/lang/String;II)Z", sig := { parameters := [(.object "java/lang/String"), .int, .int], returnType := some .boolean }, accessFlags := 10, code := some k9c2 }
/-- com/example/nimble_anonymizer/nimbleanonymizer/NumericColumn -/
def k9 : Class := { plain "com/example/nimble_anonymizer/nimbleanonymizer/NumericColumn" (some 0) with
  accessFlags := 48
  interfaces := #[]
  cf := some (fileOf pool9 8 #[.nestMembers #[171]] #[{ accessFlags := 8, nameIndex := 157, descriptorIndex := 84, attributes := #[] }, { accessFlags := 10, nameIndex := 83, descriptorIndex := 84, attributes := #[] }, { accessFlags := 10, nameIndex := 94, descriptorIndex := 95, attributes := #[] }] 48 2 #[] #[{ accessFlags := 26, nameIndex := 294, descriptorIndex := 295, attributes := #[] }, { accessFlags := 26, nameIndex := 262, descriptorIndex := 263, attributes := #[] }, { accessFlags := 18, nameIndex := 11, descriptorIndex := 12, attributes := #[] }, { accessFlags := 18, nameIndex := 15, descriptorIndex := 16, attributes := #[] }, { accessFlags := 18, nameIndex := 19, descriptorIndex := 20, attributes := #[] }])
  fields := #[{ name := "LONG_DIGITS", type := .int, accessFlags := 26, slot := 0, constantValue := 0 }, { name := "POWERS_OF_TEN", type := (.array .long), accessFlags := 26, slot := 1, constantValue := 0 }, { name := "ranks", type := (.array .int), accessFlags := 18, slot := 0, constantValue := 0 }, { name := "values", type := (.array (.object "java/math/BigDecimal")), accessFlags := 18, slot := 1, constantValue := 0 }, { name := "spellings", type := (.array (.object "java/lang/String")), accessFlags := 18, slot := 2, constantValue := 0 }]
  methods := #[k9m0, k9m1, k9m2]
  instanceTypes := #[(.array .int), (.array (.object "java/math/BigDecimal")), (.array (.object "java/lang/String"))]
  staticTypes := #[.int, (.array .long)]
  resolved := Array.replicate 367 none
  statics := none }

def pool10 : Array CpInfo := pool [(1, .class_ 2), (0, u "java/lang/String"), (1, .class_ 6), (1, u "java/lang/Object"), (0, u "<init>"), (0, u "()V"), (0, .methodref 1 10), (0, .nameAndType 11 12), (0, u "checkIndex"), (0, u "(II)V"), (1, .class_ 16), (1, u "java/lang/StringLatin1"), (21, .methodref 39 40), (0, .class_ 41), (0, .nameAndType 42 43), (0, u "java/lang/Math"), (0, u "min"), (0, u "(II)I"), (9, u "([BI)C"), (34, .methodref 14 89), (0, .nameAndType 90 91), (0, u "canEncode"), (0, u "(I)Z"), (0, .methodref 39 93), (0, .nameAndType 94 43), (0, u "max"), (0, .methodref 14 96), (0, .nameAndType 97 98), (0, u "indexOfChar"), (0, u "([BIII)I"), (2, u "indexOf"), (19, u "$assertionsDisabled"), (0, u "Z"), (98, .class_ 223), (1, u "java/lang/StringLatin1$LinesSpliterator"), (28, u "charAt"), (137, .class_ 391), (0, u "java/lang/StringLatin1$CharsSpliterator")] 3

def k10m0 : Method := { name := "<init>", desc := "()V", sig := { parameters := [], returnType := none }, accessFlags := 0, code := none }
def k10c1 : Code := { maxStack := 2, maxLocals := 2, code := jdk_43_method_2_code, exceptionTable := #[], attributes := #[] }
def k10m1 : Method := { name := "charAt", desc := "([BI)C", sig := { parameters := [(.array .byte), .int], returnType := some .char }, accessFlags := 9, code := some k10c1 }
def k10c2 : Code := { maxStack := 2, maxLocals := 1, code := jdk_43_method_4_code, exceptionTable := #[], attributes := #[] }
def k10m2 : Method := { name := "canEncode", desc := "(I)Z", sig := { parameters := [.int], returnType := some .boolean }, accessFlags := 9, code := some k10c2 }
def k10c3 : Code := { maxStack := 4, maxLocals := 4, code := jdk_43_method_22_code, exceptionTable := #[], attributes := #[] }
def k10m3 : Method := { name := "indexOf", desc := "([BIII)I", sig := { parameters := [(.array .byte), .int, .int, .int], returnType := some .int }, accessFlags := 9, code := some k10c3 }
def k10c4 : Code := { maxStack := 2, maxLocals := 6, code := jdk_43_method_23_code, exceptionTable := #[], attributes := #[] }
def k10m4 : Method := { name := "indexOfChar", desc := "([BIII)I", sig := { parameters := [(.array .byte), .int, .int, .int], returnType := some .int }, accessFlags := 10, code := some k10c4 }
/-- java/lang/StringLatin1 -/
def k10 : Class := { plain "java/lang/StringLatin1" (some 0) with
  accessFlags := 48
  interfaces := #[]
  cf := some (fileOf pool10 14 #[.nestMembers #[390, 221]] #[{ accessFlags := 0, nameIndex := 7, descriptorIndex := 8, attributes := #[] }, { accessFlags := 9, nameIndex := 252, descriptorIndex := 53, attributes := #[] }, { accessFlags := 9, nameIndex := 90, descriptorIndex := 91, attributes := #[] }, { accessFlags := 9, nameIndex := 101, descriptorIndex := 98, attributes := #[] }, { accessFlags := 10, nameIndex := 97, descriptorIndex := 98, attributes := #[] }] 48 4 #[] #[{ accessFlags := 4120, nameIndex := 121, descriptorIndex := 122, attributes := #[] }])
  fields := #[{ name := "$assertionsDisabled", type := .boolean, accessFlags := 4120, slot := 0, constantValue := 0 }]
  methods := #[k10m0, k10m1, k10m2, k10m3, k10m4]
  instanceTypes := #[]
  staticTypes := #[.boolean]
  resolved := Array.replicate 395 none
  statics := none }

def pool11 : Array CpInfo := pool [(2, .class_ 4), (1, u "java/lang/Object"), (0, u "<init>"), (0, u "()V"), (17, .class_ 26), (1, u "jdk/internal/util/Preconditions"), (6, u "checkIndex"), (21, .class_ 56), (0, u "jdk/internal/util/Preconditions$4"), (57, .class_ 115), (0, u "jdk/internal/util/Preconditions$1"), (7, u "SIOOBE_FORMATTER"), (0, u "Ljava/util/function/BiFunction;"), (0, .class_ 126), (0, u "jdk/internal/util/Preconditions$2"), (3, u "AIOOBE_FORMATTER"), (0, .class_ 132), (0, u "jdk/internal/util/Preconditions$3"), (3, u "IOOBE_FORMATTER"), (41, u "(IILjava/util/function/BiFunction;)I")] 15

def k11m0 : Method := { name := "<init>", desc := "()V", sig := { parameters := [], returnType := none }, accessFlags := 1, code := none }
def k11c1 : Code := { maxStack := 3, maxLocals := 3, code := jdk_41_method_11_code, exceptionTable := #[], attributes := #[] }
def k11m1 : Method := { name := "checkIndex", desc := "(IILjava/util/function/BiFunction;)I", sig := { parameters := [.int, .int, (.object "java/util/function/BiFunction")], returnType := some .int }, accessFlags := 9, code := some k11c1 }
/-- jdk/internal/util/Preconditions -/
def k11 : Class := { plain "jdk/internal/util/Preconditions" (some 0) with
  accessFlags := 33
  interfaces := #[]
  cf := some (fileOf pool11 24 #[.nestMembers #[55, 131, 125, 114]] #[{ accessFlags := 1, nameIndex := 5, descriptorIndex := 6, attributes := #[] }, { accessFlags := 9, nameIndex := 33, descriptorIndex := 178, attributes := #[] }] 33 2 #[] #[{ accessFlags := 25, nameIndex := 123, descriptorIndex := 124, attributes := #[] }, { accessFlags := 25, nameIndex := 130, descriptorIndex := 124, attributes := #[] }, { accessFlags := 25, nameIndex := 136, descriptorIndex := 124, attributes := #[] }])
  fields := #[{ name := "SIOOBE_FORMATTER", type := (.object "java/util/function/BiFunction"), accessFlags := 25, slot := 0, constantValue := 0 }, { name := "AIOOBE_FORMATTER", type := (.object "java/util/function/BiFunction"), accessFlags := 25, slot := 1, constantValue := 0 }, { name := "IOOBE_FORMATTER", type := (.object "java/util/function/BiFunction"), accessFlags := 25, slot := 2, constantValue := 0 }]
  methods := #[k11m0, k11m1]
  instanceTypes := #[]
  staticTypes := #[(.object "java/util/function/BiFunction"), (.object "java/util/function/BiFunction"), (.object "java/util/function/BiFunction")]
  resolved := Array.replicate 194 none
  statics := some 1 }

def pool12 : Array CpInfo := pool [(1, .class_ 2), (0, u "java/lang/Math"), (1, .class_ 6), (1, u "java/lang/Object"), (0, u "<init>"), (0, u "()V"), (89, .class_ 100), (1, u "java/lang/Math$RandomNumberGeneratorHolder"), (71, u "negativeZeroFloatBits"), (0, u "J"), (2, u "negativeZeroDoubleBits"), (21, u "max"), (2, u "min"), (43, u "$assertionsDisabled"), (0, u "Z"), (88, u "(II)I"), (2, u "twoToTheDoubleScaleDown"), (0, u "D"), (4, u "twoToTheDoubleScaleUp"), (9, u "E"), (3, u "PI"), (2, u "TAU"), (2, u "DEGREES_TO_RADIANS"), (0, u "RADIANS_TO_DEGREES")] 94

def k12m0 : Method := { name := "<init>", desc := "()V", sig := { parameters := [], returnType := none }, accessFlags := 2, code := none }
def k12c1 : Code := { maxStack := 2, maxLocals := 2, code := jdk_29_method_65_code, exceptionTable := #[], attributes := #[] }
def k12m1 : Method := { name := "max", desc := "(II)I", sig := { parameters := [.int, .int], returnType := some .int }, accessFlags := 9, code := some k12c1 }
def k12c2 : Code := { maxStack := 2, maxLocals := 2, code := jdk_29_method_69_code, exceptionTable := #[], attributes := #[] }
def k12m2 : Method := { name := "min", desc := "(II)I", sig := { parameters := [.int, .int], returnType := some .int }, accessFlags := 9, code := some k12c2 }
/-- java/lang/Math -/
def k12 : Class := { plain "java/lang/Math" (some 0) with
  accessFlags := 49
  interfaces := #[]
  cf := some (fileOf pool12 1 #[.nestMembers #[98]] #[{ accessFlags := 2, nameIndex := 7, descriptorIndex := 8, attributes := #[] }, { accessFlags := 9, nameIndex := 198, descriptorIndex := 335, attributes := #[] }, { accessFlags := 9, nameIndex := 201, descriptorIndex := 335, attributes := #[] }] 49 4 #[] #[{ accessFlags := 25, nameIndex := 354, descriptorIndex := 339, attributes := #[] }, { accessFlags := 25, nameIndex := 358, descriptorIndex := 339, attributes := #[] }, { accessFlags := 25, nameIndex := 361, descriptorIndex := 339, attributes := #[] }, { accessFlags := 26, nameIndex := 364, descriptorIndex := 339, attributes := #[] }, { accessFlags := 26, nameIndex := 365, descriptorIndex := 339, attributes := #[] }, { accessFlags := 26, nameIndex := 172, descriptorIndex := 173, attributes := #[] }, { accessFlags := 26, nameIndex := 176, descriptorIndex := 173, attributes := #[] }, { accessFlags := 8, nameIndex := 344, descriptorIndex := 339, attributes := #[] }, { accessFlags := 8, nameIndex := 338, descriptorIndex := 339, attributes := #[] }, { accessFlags := 4120, nameIndex := 245, descriptorIndex := 246, attributes := #[] }])
  fields := #[{ name := "E", type := .double, accessFlags := 25, slot := 0, constantValue := 0 }, { name := "PI", type := .double, accessFlags := 25, slot := 1, constantValue := 0 }, { name := "TAU", type := .double, accessFlags := 25, slot := 2, constantValue := 0 }, { name := "DEGREES_TO_RADIANS", type := .double, accessFlags := 26, slot := 3, constantValue := 0 }, { name := "RADIANS_TO_DEGREES", type := .double, accessFlags := 26, slot := 4, constantValue := 0 }, { name := "negativeZeroFloatBits", type := .long, accessFlags := 26, slot := 5, constantValue := 0 }, { name := "negativeZeroDoubleBits", type := .long, accessFlags := 26, slot := 6, constantValue := 0 }, { name := "twoToTheDoubleScaleUp", type := .double, accessFlags := 8, slot := 7, constantValue := 0 }, { name := "twoToTheDoubleScaleDown", type := .double, accessFlags := 8, slot := 8, constantValue := 0 }, { name := "$assertionsDisabled", type := .boolean, accessFlags := 4120, slot := 9, constantValue := 0 }]
  methods := #[k12m0, k12m1, k12m2]
  instanceTypes := #[]
  staticTypes := #[.double, .double, .double, .double, .double, .long, .long, .double, .double, .boolean]
  resolved := Array.replicate 460 none
  statics := none }

def pool13 : Array CpInfo := pool [(9, u "<init>"), (6, .class_ 18), (1, u "java/lang/Object"), (0, u "()V"), (1, .class_ 23), (1, u "jdk/internal/util/ArraysSupport"), (0, u "LOG2_ARRAY_LONG_INDEX_SCALE"), (0, u "I"), (2, u "U"), (0, u "Ljdk/internal/misc/Unsafe;"), (8, u "BIG_ENDIAN"), (0, u "Z"), (8, u "LOG2_BYTE_BIT_SIZE"), (4, u "LOG2_ARRAY_INT_INDEX_SCALE"), (54, u "JLA"), (0, u "Ljdk/internal/access/JavaLangAccess;"), (11, u "LOG2_ARRAY_BOOLEAN_INDEX_SCALE"), (9, u "LOG2_ARRAY_BYTE_INDEX_SCALE"), (5, u "LOG2_ARRAY_CHAR_INDEX_SCALE"), (5, u "LOG2_ARRAY_SHORT_INDEX_SCALE"), (18, u "LOG2_ARRAY_FLOAT_INDEX_SCALE"), (24, u "LOG2_ARRAY_DOUBLE_INDEX_SCALE"), (89, u "T_BOOLEAN"), (2, u "T_CHAR"), (1, u "T_FLOAT"), (1, u "T_DOUBLE"), (1, u "T_BYTE"), (1, u "T_SHORT"), (1, u "T_INT"), (1, u "T_LONG"), (1, u "SOFT_MAX_ARRAY_LENGTH")] 83

def k13m0 : Method := { name := "<init>", desc := "()V", sig := { parameters := [], returnType := none }, accessFlags := 2, code := none }
/-- jdk/internal/util/ArraysSupport -/
def k13 : Class := { plain "jdk/internal/util/ArraysSupport" (some 0) with
  accessFlags := 33
  interfaces := #[]
  cf := some (fileOf pool13 21 #[] #[{ accessFlags := 2, nameIndex := 9, descriptorIndex := 19, attributes := #[] }] 33 16 #[] #[{ accessFlags := 24, nameIndex := 28, descriptorIndex := 29, attributes := #[] }, { accessFlags := 26, nameIndex := 38, descriptorIndex := 39, attributes := #[] }, { accessFlags := 25, nameIndex := 121, descriptorIndex := 25, attributes := #[] }, { accessFlags := 25, nameIndex := 131, descriptorIndex := 25, attributes := #[] }, { accessFlags := 25, nameIndex := 137, descriptorIndex := 25, attributes := #[] }, { accessFlags := 25, nameIndex := 143, descriptorIndex := 25, attributes := #[] }, { accessFlags := 25, nameIndex := 53, descriptorIndex := 25, attributes := #[] }, { accessFlags := 25, nameIndex := 24, descriptorIndex := 25, attributes := #[] }, { accessFlags := 25, nameIndex := 162, descriptorIndex := 25, attributes := #[] }, { accessFlags := 25, nameIndex := 187, descriptorIndex := 25, attributes := #[] }, { accessFlags := 26, nameIndex := 48, descriptorIndex := 25, attributes := #[] }, { accessFlags := 25, nameIndex := 277, descriptorIndex := 25, attributes := #[] }, { accessFlags := 25, nameIndex := 280, descriptorIndex := 25, attributes := #[] }, { accessFlags := 25, nameIndex := 282, descriptorIndex := 25, attributes := #[] }, { accessFlags := 25, nameIndex := 284, descriptorIndex := 25, attributes := #[] }, { accessFlags := 25, nameIndex := 286, descriptorIndex := 25, attributes := #[] }, { accessFlags := 25, nameIndex := 288, descriptorIndex := 25, attributes := #[] }, { accessFlags := 25, nameIndex := 290, descriptorIndex := 25, attributes := #[] }, { accessFlags := 25, nameIndex := 292, descriptorIndex := 25, attributes := #[] }, { accessFlags := 26, nameIndex := 108, descriptorIndex := 109, attributes := #[] }, { accessFlags := 25, nameIndex := 294, descriptorIndex := 25, attributes := #[] }])
  fields := #[{ name := "U", type := (.object "jdk/internal/misc/Unsafe"), accessFlags := 24, slot := 0, constantValue := 0 }, { name := "BIG_ENDIAN", type := .boolean, accessFlags := 26, slot := 1, constantValue := 0 }, { name := "LOG2_ARRAY_BOOLEAN_INDEX_SCALE", type := .int, accessFlags := 25, slot := 2, constantValue := 0 }, { name := "LOG2_ARRAY_BYTE_INDEX_SCALE", type := .int, accessFlags := 25, slot := 3, constantValue := 0 }, { name := "LOG2_ARRAY_CHAR_INDEX_SCALE", type := .int, accessFlags := 25, slot := 4, constantValue := 0 }, { name := "LOG2_ARRAY_SHORT_INDEX_SCALE", type := .int, accessFlags := 25, slot := 5, constantValue := 0 }, { name := "LOG2_ARRAY_INT_INDEX_SCALE", type := .int, accessFlags := 25, slot := 6, constantValue := 0 }, { name := "LOG2_ARRAY_LONG_INDEX_SCALE", type := .int, accessFlags := 25, slot := 7, constantValue := 0 }, { name := "LOG2_ARRAY_FLOAT_INDEX_SCALE", type := .int, accessFlags := 25, slot := 8, constantValue := 0 }, { name := "LOG2_ARRAY_DOUBLE_INDEX_SCALE", type := .int, accessFlags := 25, slot := 9, constantValue := 0 }, { name := "LOG2_BYTE_BIT_SIZE", type := .int, accessFlags := 26, slot := 10, constantValue := 0 }, { name := "T_BOOLEAN", type := .int, accessFlags := 25, slot := 11, constantValue := 0 }, { name := "T_CHAR", type := .int, accessFlags := 25, slot := 12, constantValue := 0 }, { name := "T_FLOAT", type := .int, accessFlags := 25, slot := 13, constantValue := 0 }, { name := "T_DOUBLE", type := .int, accessFlags := 25, slot := 14, constantValue := 0 }, { name := "T_BYTE", type := .int, accessFlags := 25, slot := 15, constantValue := 0 }, { name := "T_SHORT", type := .int, accessFlags := 25, slot := 16, constantValue := 0 }, { name := "T_INT", type := .int, accessFlags := 25, slot := 17, constantValue := 0 }, { name := "T_LONG", type := .int, accessFlags := 25, slot := 18, constantValue := 0 }, { name := "JLA", type := (.object "jdk/internal/access/JavaLangAccess"), accessFlags := 26, slot := 19, constantValue := 0 }, { name := "SOFT_MAX_ARRAY_LENGTH", type := .int, accessFlags := 25, slot := 20, constantValue := 0 }]
  methods := #[k13m0]
  instanceTypes := #[]
  staticTypes := #[(.object "jdk/internal/misc/Unsafe"), .boolean, .int, .int, .int, .int, .int, .int, .int, .int, .int, .int, .int, .int, .int, .int, .int, .int, .int, (.object "jdk/internal/access/JavaLangAccess"), .int]
  resolved := Array.replicate 378 none
  statics := none }

def pool14 : Array CpInfo := pool [(1, u "java/lang/Cloneable"), (0, .class_ 1), (0, u "java/lang/Object"), (0, .class_ 3)] 3

/-- java/lang/Cloneable -/
def k14 : Class := { plain "java/lang/Cloneable" (some 0) with
  accessFlags := 1537
  interfaces := #[]
  cf := some (fileOf pool14 2 #[] #[] 1537 4 #[] #[])
  fields := #[]
  methods := #[]
  instanceTypes := #[]
  staticTypes := #[]
  resolved := Array.replicate 8 none
  statics := none }

/-- the primitive byte -/
def k15 : Class := { plain "byte" none with kind := .primitive 'B', accessFlags := 0x411 }
/-- [B -/
def k16 : Class := { plain "[B" (some 0) with kind := .array 15 .byte, interfaces := #[14, 2], accessFlags := 1041 }

/-- the primitive char -/
def k17 : Class := { plain "char" none with kind := .primitive 'C', accessFlags := 0x411 }
/-- [C -/
def k18 : Class := { plain "[C" (some 0) with kind := .array 17 .char, interfaces := #[14, 2], accessFlags := 1041 }

/-- the primitive int -/
def k19 : Class := { plain "int" none with kind := .primitive 'I', accessFlags := 0x411 }
/-- [I -/
def k20 : Class := { plain "[I" (some 0) with kind := .array 19 .int, interfaces := #[14, 2], accessFlags := 1041 }

def heap : Heap := #[{ cls := 7, slots := #[.long 0, .int 1, .null, .int 0, .null, .int 0, .int 0], vm := .statics 7 },
  { cls := 11, slots := #[.null, .null, .null], vm := .statics 11 }]
def classes : Array Class := #[k0, k1, k2, k3, k4, k5, k6, k7, k8, k9, k10, k11, k12, k13, k14, k15, k16, k17, k18, k19, k20]
def interned : List (Array UInt16 × Addr) := []
def slotsUsed : Nat := 10
def theMethod : MethodId := ⟨1, 1⟩
def args0 : Array Value := #[.int 5, .int 5, .int 5, .int 5, .int 5, .int 5]
def aboutOver (below : List Frame) : State where
  vm := { classes := classes, interned := interned.toArray }
  heap := heap
  slotsUsed := slotsUsed
  threads := #[{ frames := .invoking theMethod args0 :: below }]
def below0 : List Frame := [.native { method := ⟨0, 0⟩, args := #[] }]
def about1 : State := aboutOver below0
def p0 : Program := .bare "" "" ""
def e0 : Env := launch0.env 0 0 0
theorem w_frames : about1.frames = Frame.invoking theMethod args0 :: below0 := rfl
set_option maxRecDepth 65536 in
theorem w_args : argsFit about1.vm theMethod args0 = true := by decide +kernel
set_option maxRecDepth 65536 in
theorem w_heap : heapFits about1 = true := by decide +kernel
set_option maxRecDepth 65536 in
theorem w_runnable : about1.curStatus? = some .runnable := by decide +kernel
set_option maxRecDepth 65536 in
theorem w_alone : about1.alone = true := by decide +kernel
set_option maxRecDepth 65536 in
theorem w_named : about1.methodNamed? x = some theMethod := by decide +kernel
set_option maxRecDepth 65536 in
theorem w_hears : about1.hears theMethod below0 = true := by decide +kernel
set_option maxRecDepth 65536 in
theorem w_ripe : about1.ripe theMethod args0 below0 = true := by decide +kernel
theorem w_running : about1.status = .running := rfl
set_option maxRecDepth 65536 in
theorem w_room : about1.hasRoom e0.platform room_1 = true :=
  launch0.hasRoom_least _ room_1 (by decide +kernel) (by decide +kernel) (by decide +kernel) (by decide +kernel) (by decide +kernel) (by decide +kernel)
theorem allAtoms_all (ts : List Jvm.Cond) (a : Array Jvm.Value) (st : Jvm.State) : (allAtoms ts).before a st = ts.all (fun c => c.before a st) := by
  induction ts with
  | nil => rfl
  | cons c t ih =>
    show (Jvm.Cond.and c (allAtoms t)).before a st = _
    rw [Jvm.Cond.before_and, ih, List.all_cons]
def words1 : List Jvm.Cond := Jvm.Cond.code x code maxLocals ret :: tables_1
/-- a 'code' word, met by the world's own term for the bytes: nothing is compared byte by byte -/
theorem code_word {y : MethodName} {bytes : ByteArray} {mx : Nat} {rt : Option FieldType} {a : Array Value} {s : State} {m : MethodId} {meth : Method} {c : Code} (h1 : s.methodNamed? y = some m) (h2 : s.vm.method? m = some meth) (h3 : meth.code = some c) (h4 : c.code = bytes)
    (h5 : (c.maxLocals == mx && c.exceptionTable.isEmpty && decide (c.maxStack ≤ mostOperands) && decide (meth.sig.returnType = rt) && !meth.locks && decide (parseMethodDescriptor y.desc = some meth.sig)) = true) : (Jvm.Cond.code y bytes mx rt).before a s = true := by
  simp only [Bool.and_eq_true, beq_iff_eq, Bool.not_eq_true', decide_eq_true_eq] at h5
  obtain ⟨⟨⟨⟨⟨g1, g2⟩, g3⟩, g4⟩, g5⟩, g6⟩ := h5
  simp [Cond.before, Cond.holds, Cond.value, h1, h2, h3, h4, g1, g2, g3, g4, g5, g6]
def isCode : Jvm.Cond → Bool
  | .code _ _ _ _ => true
  | _ => false
theorem all_split {L : List Jvm.Cond} {P : Jvm.Cond → Bool} (h1 : L.all (fun c => isCode c || P c) = true) (h2 : ∀ c ∈ L.filter isCode, P c = true) : L.all P = true := by
  refine List.all_eq_true.mpr fun c hc => ?_
  have h := List.all_eq_true.mp h1 c hc
  rcases Bool.eq_false_or_eq_true (isCode c) with hi | hi
  · exact h2 c (List.mem_filter.mpr ⟨hc, hi⟩)
  · simpa [hi] using h
set_option maxRecDepth 65536 in
theorem w_c0 : (Jvm.Cond.code x code maxLocals ret).before args0 about1 = true := code_word (m := ⟨1, 1⟩) (meth := k1m1) (c := k1c1) (by decide +kernel) rfl rfl rfl (by decide +kernel)
set_option maxRecDepth 65536 in
theorem w_c1 : (Jvm.Cond.code ({ cls := "com/example/nimble_anonymizer/nimbleanonymizer/NumericColumnIsNumberPinLaw", name := "draw", desc := "(I)C" } : Jvm.MethodName) method_3_code (4 : Nat) (Option.some Jvm.ClassFile.FieldType.char)).before args0 about1 = true := code_word (m := ⟨1, 2⟩) (meth := k1m2) (c := k1c2) (by decide +kernel) rfl rfl rfl (by decide +kernel)
set_option maxRecDepth 65536 in
theorem w_c2 : (Jvm.Cond.code ({ cls := "java/lang/String", name := "<init>", desc := "([C)V" } : Jvm.MethodName) jdk_42_method_3_code (2 : Nat) (Option.none : Option Jvm.ClassFile.FieldType)).before args0 about1 = true := code_word (m := ⟨7, 1⟩) (meth := k7m1) (c := k7c1) (by decide +kernel) rfl rfl rfl (by decide +kernel)
set_option maxRecDepth 65536 in
theorem w_c3 : (Jvm.Cond.code ({ cls := "java/lang/String", name := "<init>", desc := "([CIILjava/lang/Void;)V" } : Jvm.MethodName) jdk_42_method_149_code (6 : Nat) (Option.none : Option Jvm.ClassFile.FieldType)).before args0 about1 = true := code_word (m := ⟨7, 6⟩) (meth := k7m6) (c := k7c6) (by decide +kernel) rfl rfl rfl (by decide +kernel)
set_option maxRecDepth 65536 in
theorem w_c4 : (Jvm.Cond.code ({ cls := "java/lang/Object", name := "<init>", desc := "()V" } : Jvm.MethodName) object_method_1_code (1 : Nat) (Option.none : Option Jvm.ClassFile.FieldType)).before args0 about1 = true := code_word (m := ⟨0, 0⟩) (meth := k0m0) (c := k0c0) (by decide +kernel) rfl rfl rfl (by decide +kernel)
set_option maxRecDepth 65536 in
theorem w_c5 : (Jvm.Cond.code ({ cls := "java/lang/StringUTF16", name := "compress", desc := "([CII)[B" } : Jvm.MethodName) jdk_52_method_16_code (6 : Nat) (Option.some (Jvm.ClassFile.FieldType.array Jvm.ClassFile.FieldType.byte))).before args0 about1 = true := code_word (m := ⟨8, 2⟩) (meth := k8m2) (c := k8c2) (by decide +kernel) rfl rfl rfl (by decide +kernel)
set_option maxRecDepth 65536 in
theorem w_c6 : (Jvm.Cond.code ({ cls := "java/lang/StringUTF16", name := "compress", desc := "([CI[BII)I" } : Jvm.MethodName) jdk_52_method_21_code (7 : Nat) (Option.some Jvm.ClassFile.FieldType.int)).before args0 about1 = true := code_word (m := ⟨8, 3⟩) (meth := k8m3) (c := k8c3) (by decide +kernel) rfl rfl rfl (by decide +kernel)
set_option maxRecDepth 65536 in
theorem w_c7 : (Jvm.Cond.code ({ cls := "java/lang/StringUTF16", name := "coderFromArrayLen", desc := "([BI)B" } : Jvm.MethodName) jdk_52_method_15_code (2 : Nat) (Option.some Jvm.ClassFile.FieldType.byte)).before args0 about1 = true := code_word (m := ⟨8, 1⟩) (meth := k8m1) (c := k8c1) (by decide +kernel) rfl rfl rfl (by decide +kernel)
set_option maxRecDepth 65536 in
theorem w_c8 : (Jvm.Cond.code ({ cls := "com/example/nimble_anonymizer/nimbleanonymizer/NumericColumn", name := "isNumber", desc := "(Ljava/lang/String;)Z" } : Jvm.MethodName) prog_24_method_4_code (3 : Nat) (Option.some Jvm.ClassFile.FieldType.boolean)).before args0 about1 = true := code_word (m := ⟨9, 0⟩) (meth := k9m0) (c := k9c0) (by decide +kernel) rfl rfl rfl (by decide +kernel)
set_option maxRecDepth 65536 in
theorem w_c9 : (Jvm.Cond.code ({ cls := "com/example/nimble_anonymizer/nimbleanonymizer/NumericColumn", name := "signed", desc := "(Ljava/lang/String;)Z" } : Jvm.MethodName) prog_24_method_5_code (1 : Nat) (Option.some Jvm.ClassFile.FieldType.boolean)).before args0 about1 = true := code_word (m := ⟨9, 1⟩) (meth := k9m1) (c := k9c1) (by decide +kernel) rfl rfl rfl (by decide +kernel)
set_option maxRecDepth 65536 in
theorem w_c10 : (Jvm.Cond.code ({ cls := "java/lang/String", name := "isEmpty", desc := "()Z" } : Jvm.MethodName) jdk_42_method_55_code (1 : Nat) (Option.some Jvm.ClassFile.FieldType.boolean)).before args0 about1 = true := code_word (m := ⟨7, 3⟩) (meth := k7m3) (c := k7c3) (by decide +kernel) rfl rfl rfl (by decide +kernel)
set_option maxRecDepth 65536 in
theorem w_c11 : (Jvm.Cond.code ({ cls := "java/lang/String", name := "charAt", desc := "(I)C" } : Jvm.MethodName) jdk_42_method_56_code (2 : Nat) (Option.some Jvm.ClassFile.FieldType.char)).before args0 about1 = true := code_word (m := ⟨7, 4⟩) (meth := k7m4) (c := k7c4) (by decide +kernel) rfl rfl rfl (by decide +kernel)
set_option maxRecDepth 65536 in
theorem w_c12 : (Jvm.Cond.code ({ cls := "java/lang/String", name := "isLatin1", desc := "()Z" } : Jvm.MethodName) jdk_42_method_154_code (1 : Nat) (Option.some Jvm.ClassFile.FieldType.boolean)).before args0 about1 = true := code_word (m := ⟨7, 8⟩) (meth := k7m8) (c := k7c8) (by decide +kernel) rfl rfl rfl (by decide +kernel)
set_option maxRecDepth 65536 in
theorem w_c13 : (Jvm.Cond.code ({ cls := "java/lang/StringLatin1", name := "charAt", desc := "([BI)C" } : Jvm.MethodName) jdk_43_method_2_code (2 : Nat) (Option.some Jvm.ClassFile.FieldType.char)).before args0 about1 = true := code_word (m := ⟨10, 1⟩) (meth := k10m1) (c := k10c1) (by decide +kernel) rfl rfl rfl (by decide +kernel)
set_option maxRecDepth 65536 in
theorem w_c14 : (Jvm.Cond.code ({ cls := "java/lang/String", name := "checkIndex", desc := "(II)V" } : Jvm.MethodName) jdk_42_method_155_code (2 : Nat) (Option.none : Option Jvm.ClassFile.FieldType)).before args0 about1 = true := code_word (m := ⟨7, 9⟩) (meth := k7m9) (c := k7c9) (by decide +kernel) rfl rfl rfl (by decide +kernel)
set_option maxRecDepth 65536 in
theorem w_c15 : (Jvm.Cond.code ({ cls := "jdk/internal/util/Preconditions", name := "checkIndex", desc := "(IILjava/util/function/BiFunction;)I" } : Jvm.MethodName) jdk_41_method_11_code (3 : Nat) (Option.some Jvm.ClassFile.FieldType.int)).before args0 about1 = true := code_word (m := ⟨11, 1⟩) (meth := k11m1) (c := k11c1) (by decide +kernel) rfl rfl rfl (by decide +kernel)
set_option maxRecDepth 65536 in
theorem w_c16 : (Jvm.Cond.code ({ cls := "java/lang/String", name := "indexOf", desc := "(II)I" } : Jvm.MethodName) jdk_42_method_80_code (3 : Nat) (Option.some Jvm.ClassFile.FieldType.int)).before args0 about1 = true := code_word (m := ⟨7, 5⟩) (meth := k7m5) (c := k7c5) (by decide +kernel) rfl rfl rfl (by decide +kernel)
set_option maxRecDepth 65536 in
theorem w_c17 : (Jvm.Cond.code ({ cls := "java/lang/String", name := "length", desc := "()I" } : Jvm.MethodName) jdk_42_method_54_code (1 : Nat) (Option.some Jvm.ClassFile.FieldType.int)).before args0 about1 = true := code_word (m := ⟨7, 2⟩) (meth := k7m2) (c := k7c2) (by decide +kernel) rfl rfl rfl (by decide +kernel)
set_option maxRecDepth 65536 in
theorem w_c18 : (Jvm.Cond.code ({ cls := "java/lang/String", name := "coder", desc := "()B" } : Jvm.MethodName) jdk_42_method_152_code (1 : Nat) (Option.some Jvm.ClassFile.FieldType.byte)).before args0 about1 = true := code_word (m := ⟨7, 7⟩) (meth := k7m7) (c := k7c7) (by decide +kernel) rfl rfl rfl (by decide +kernel)
set_option maxRecDepth 65536 in
theorem w_c19 : (Jvm.Cond.code ({ cls := "java/lang/StringLatin1", name := "indexOf", desc := "([BIII)I" } : Jvm.MethodName) jdk_43_method_22_code (4 : Nat) (Option.some Jvm.ClassFile.FieldType.int)).before args0 about1 = true := code_word (m := ⟨10, 3⟩) (meth := k10m3) (c := k10c3) (by decide +kernel) rfl rfl rfl (by decide +kernel)
set_option maxRecDepth 65536 in
theorem w_c20 : (Jvm.Cond.code ({ cls := "java/lang/StringLatin1", name := "canEncode", desc := "(I)Z" } : Jvm.MethodName) jdk_43_method_4_code (1 : Nat) (Option.some Jvm.ClassFile.FieldType.boolean)).before args0 about1 = true := code_word (m := ⟨10, 2⟩) (meth := k10m2) (c := k10c2) (by decide +kernel) rfl rfl rfl (by decide +kernel)
set_option maxRecDepth 65536 in
theorem w_c21 : (Jvm.Cond.code ({ cls := "java/lang/Math", name := "max", desc := "(II)I" } : Jvm.MethodName) jdk_29_method_65_code (2 : Nat) (Option.some Jvm.ClassFile.FieldType.int)).before args0 about1 = true := code_word (m := ⟨12, 1⟩) (meth := k12m1) (c := k12c1) (by decide +kernel) rfl rfl rfl (by decide +kernel)
set_option maxRecDepth 65536 in
theorem w_c22 : (Jvm.Cond.code ({ cls := "java/lang/Math", name := "min", desc := "(II)I" } : Jvm.MethodName) jdk_29_method_69_code (2 : Nat) (Option.some Jvm.ClassFile.FieldType.int)).before args0 about1 = true := code_word (m := ⟨12, 2⟩) (meth := k12m2) (c := k12c2) (by decide +kernel) rfl rfl rfl (by decide +kernel)
set_option maxRecDepth 65536 in
theorem w_c23 : (Jvm.Cond.code ({ cls := "java/lang/StringLatin1", name := "indexOfChar", desc := "([BIII)I" } : Jvm.MethodName) jdk_43_method_23_code (6 : Nat) (Option.some Jvm.ClassFile.FieldType.int)).before args0 about1 = true := code_word (m := ⟨10, 4⟩) (meth := k10m4) (c := k10c4) (by decide +kernel) rfl rfl rfl (by decide +kernel)
set_option maxRecDepth 65536 in
theorem w_c24 : (Jvm.Cond.code ({ cls := "com/example/nimble_anonymizer/nimbleanonymizer/NumericColumn", name := "digits", desc := "(Ljava/lang/String;II)Z" } : Jvm.MethodName) prog_24_method_6_code (5 : Nat) (Option.some Jvm.ClassFile.FieldType.boolean)).before args0 about1 = true := code_word (m := ⟨9, 2⟩) (meth := k9m2) (c := k9c2) (by decide +kernel) rfl rfl rfl (by decide +kernel)
set_option maxRecDepth 65536 in
theorem w_c25 : (Jvm.Cond.code ({ cls := "com/example/nimble_anonymizer/nimbleanonymizer/NumericColumnIsNumberPinLaw", name := "point", desc := "([CII)I" } : Jvm.MethodName) method_4_code (3 : Nat) (Option.some Jvm.ClassFile.FieldType.int)).before args0 about1 = true := code_word (m := ⟨1, 3⟩) (meth := k1m3) (c := k1c3) (by decide +kernel) rfl rfl rfl (by decide +kernel)
set_option maxRecDepth 65536 in
theorem w_c26 : (Jvm.Cond.code ({ cls := "com/example/nimble_anonymizer/nimbleanonymizer/NumericColumnIsNumberPinLaw", name := "good", desc := "([CII)Z" } : Jvm.MethodName) method_5_code (4 : Nat) (Option.some Jvm.ClassFile.FieldType.boolean)).before args0 about1 = true := code_word (m := ⟨1, 4⟩) (meth := k1m4) (c := k1c4) (by decide +kernel) rfl rfl rfl (by decide +kernel)
def codes1 : List Jvm.Cond := [Jvm.Cond.code x code maxLocals ret, Jvm.Cond.code ({ cls := "com/example/nimble_anonymizer/nimbleanonymizer/NumericColumnIsNumberPinLaw", name := "draw", desc := "(I)C" } : Jvm.MethodName) method_3_code (4 : Nat) (Option.some Jvm.ClassFile.FieldType.char), Jvm.Cond.code ({ cls := "java/lang/String", name := "<init>", desc := "([C)V" } : Jvm.MethodName) jdk_42_method_3_code (2 : Nat) (Option.none : Option Jvm.ClassFile.FieldType), Jvm.Cond.code ({ cls := "java/lang/String", name := "<init>", desc := "([CIILjava/lang/Void;)V" } : Jvm.MethodName) jdk_42_method_149_code (6 : Nat) (Option.none : Option Jvm.ClassFile.FieldType), Jvm.Cond.code ({ cls := "java/lang/Object", name := "<init>", desc := "()V" } : Jvm.MethodName) object_method_1_code (1 : Nat) (Option.none : Option Jvm.ClassFile.FieldType), Jvm.Cond.code ({ cls := "java/lang/StringUTF16", name := "compress", desc := "([CII)[B" } : Jvm.MethodName) jdk_52_method_16_code (6 : Nat) (Option.some (Jvm.ClassFile.FieldType.array Jvm.ClassFile.FieldType.byte)), Jvm.Cond.code ({ cls := "java/lang/StringUTF16", name := "compress", desc := "([CI[BII)I" } : Jvm.MethodName) jdk_52_method_21_code (7 : Nat) (Option.some Jvm.ClassFile.FieldType.int), Jvm.Cond.code ({ cls := "java/lang/StringUTF16", name := "coderFromArrayLen", desc := "([BI)B" } : Jvm.MethodName) jdk_52_method_15_code (2 : Nat) (Option.some Jvm.ClassFile.FieldType.byte), Jvm.Cond.code ({ cls := "com/example/nimble_anonymizer/nimbleanonymizer/NumericColumn", name := "isNumber", desc := "(Ljava/lang/String;)Z" } : Jvm.MethodName) prog_24_method_4_code (3 : Nat) (Option.some Jvm.ClassFile.FieldType.boolean), Jvm.Cond.code ({ cls := "com/example/nimble_anonymizer/nimbleanonymizer/NumericColumn", name := "signed", desc := "(Ljava/lang/String;)Z" } : Jvm.MethodName) prog_24_method_5_code (1 : Nat) (Option.some Jvm.ClassFile.FieldType.boolean), Jvm.Cond.code ({ cls := "java/lang/String", name := "isEmpty", desc := "()Z" } : Jvm.MethodName) jdk_42_method_55_code (1 : Nat) (Option.some Jvm.ClassFile.FieldType.boolean), Jvm.Cond.code ({ cls := "java/lang/String", name := "charAt", desc := "(I)C" } : Jvm.MethodName) jdk_42_method_56_code (2 : Nat) (Option.some Jvm.ClassFile.FieldType.char), Jvm.Cond.code ({ cls := "java/lang/String", name := "isLatin1", desc := "()Z" } : Jvm.MethodName) jdk_42_method_154_code (1 : Nat) (Option.some Jvm.ClassFile.FieldType.boolean), Jvm.Cond.code ({ cls := "java/lang/StringLatin1", name := "charAt", desc := "([BI)C" } : Jvm.MethodName) jdk_43_method_2_code (2 : Nat) (Option.some Jvm.ClassFile.FieldType.char), Jvm.Cond.code ({ cls := "java/lang/String", name := "checkIndex", desc := "(II)V" } : Jvm.MethodName) jdk_42_method_155_code (2 : Nat) (Option.none : Option Jvm.ClassFile.FieldType), Jvm.Cond.code ({ cls := "jdk/internal/util/Preconditions", name := "checkIndex", desc := "(IILjava/util/function/BiFunction;)I" } : Jvm.MethodName) jdk_41_method_11_code (3 : Nat) (Option.some Jvm.ClassFile.FieldType.int), Jvm.Cond.code ({ cls := "java/lang/String", name := "indexOf", desc := "(II)I" } : Jvm.MethodName) jdk_42_method_80_code (3 : Nat) (Option.some Jvm.ClassFile.FieldType.int), Jvm.Cond.code ({ cls := "java/lang/String", name := "length", desc := "()I" } : Jvm.MethodName) jdk_42_method_54_code (1 : Nat) (Option.some Jvm.ClassFile.FieldType.int), Jvm.Cond.code ({ cls := "java/lang/String", name := "coder", desc := "()B" } : Jvm.MethodName) jdk_42_method_152_code (1 : Nat) (Option.some Jvm.ClassFile.FieldType.byte), Jvm.Cond.code ({ cls := "java/lang/StringLatin1", name := "indexOf", desc := "([BIII)I" } : Jvm.MethodName) jdk_43_method_22_code (4 : Nat) (Option.some Jvm.ClassFile.FieldType.int), Jvm.Cond.code ({ cls := "java/lang/StringLatin1", name := "canEncode", desc := "(I)Z" } : Jvm.MethodName) jdk_43_method_4_code (1 : Nat) (Option.some Jvm.ClassFile.FieldType.boolean), Jvm.Cond.code ({ cls := "java/lang/Math", name := "max", desc := "(II)I" } : Jvm.MethodName) jdk_29_method_65_code (2 : Nat) (Option.some Jvm.ClassFile.FieldType.int), Jvm.Cond.code ({ cls := "java/lang/Math", name := "min", desc := "(II)I" } : Jvm.MethodName) jdk_29_method_69_code (2 : Nat) (Option.some Jvm.ClassFile.FieldType.int), Jvm.Cond.code ({ cls := "java/lang/StringLatin1", name := "indexOfChar", desc := "([BIII)I" } : Jvm.MethodName) jdk_43_method_23_code (6 : Nat) (Option.some Jvm.ClassFile.FieldType.int), Jvm.Cond.code ({ cls := "com/example/nimble_anonymizer/nimbleanonymizer/NumericColumn", name := "digits", desc := "(Ljava/lang/String;II)Z" } : Jvm.MethodName) prog_24_method_6_code (5 : Nat) (Option.some Jvm.ClassFile.FieldType.boolean), Jvm.Cond.code ({ cls := "com/example/nimble_anonymizer/nimbleanonymizer/NumericColumnIsNumberPinLaw", name := "point", desc := "([CII)I" } : Jvm.MethodName) method_4_code (3 : Nat) (Option.some Jvm.ClassFile.FieldType.int), Jvm.Cond.code ({ cls := "com/example/nimble_anonymizer/nimbleanonymizer/NumericColumnIsNumberPinLaw", name := "good", desc := "([CII)Z" } : Jvm.MethodName) method_5_code (4 : Nat) (Option.some Jvm.ClassFile.FieldType.boolean)]
set_option maxRecDepth 65536 in
theorem codes_eq : words1.filter isCode = codes1 := rfl
theorem w_codes : ∀ c ∈ words1.filter isCode, c.before args0 about1 = true := by
  rw [codes_eq]
  intro c hc
  simp only [codes1, List.mem_cons, List.not_mem_nil, or_false] at hc
  rcases hc with rfl | rfl | rfl | rfl | rfl | rfl | rfl | rfl | rfl | rfl | rfl | rfl | rfl | rfl | rfl | rfl | rfl | rfl | rfl | rfl | rfl | rfl | rfl | rfl | rfl | rfl | rfl
  · exact w_c0
  · exact w_c1
  · exact w_c2
  · exact w_c3
  · exact w_c4
  · exact w_c5
  · exact w_c6
  · exact w_c7
  · exact w_c8
  · exact w_c9
  · exact w_c10
  · exact w_c11
  · exact w_c12
  · exact w_c13
  · exact w_c14
  · exact w_c15
  · exact w_c16
  · exact w_c17
  · exact w_c18
  · exact w_c19
  · exact w_c20
  · exact w_c21
  · exact w_c22
  · exact w_c23
  · exact w_c24
  · exact w_c25
  · exact w_c26
set_option maxRecDepth 65536 in
theorem w_t1 : (words1.take 24).all (fun c => isCode c || c.before args0 about1) = true := by decide +kernel
set_option maxRecDepth 65536 in
theorem w_t2 : ((words1.drop 24).take 24).all (fun c => isCode c || c.before args0 about1) = true := by decide +kernel
set_option maxRecDepth 65536 in
theorem w_t3 : (((words1.drop 24).drop 24).take 24).all (fun c => isCode c || c.before args0 about1) = true := by decide +kernel
set_option maxRecDepth 65536 in
theorem w_t4 : ((((words1.drop 24).drop 24).drop 24).take 24).all (fun c => isCode c || c.before args0 about1) = true := by decide +kernel
set_option maxRecDepth 65536 in
theorem w_t5 : ((((words1.drop 24).drop 24).drop 24).drop 24).all (fun c => isCode c || c.before args0 about1) = true := by decide +kernel
theorem w_tables : (allAtoms (Jvm.Cond.code x code maxLocals ret :: tables_1)).before args0 about1 = true := by
  rw [allAtoms_all]
  show words1.all (fun c => c.before args0 about1) = true
  refine all_split ?_ w_codes
  rw [← List.take_append_drop 24 words1, List.all_append, w_t1, ← List.take_append_drop 24 (words1.drop 24), List.all_append, w_t2, ← List.take_append_drop 24 ((words1.drop 24).drop 24), List.all_append, w_t3, ← List.take_append_drop 24 (((words1.drop 24).drop 24).drop 24), List.all_append, w_t4, w_t5]
  rfl
set_option maxRecDepth 65536 in
theorem w_rest : rest_1_c.before args0 about1 = true := by decide +kernel
set_option maxRecDepth 65536 in
theorem w_case : (Jvm.Cond.and given_1 narrow_1).before args0 about1 = true := by decide +kernel
set_option maxRecDepth 65536 in
theorem w_consts : constsHeld consts_1 about1 := Jvm.Lit.constsHeldB_iff.mp (by decide +kernel)
theorem w_applies : (headSpec (Jvm.Cond.code x code maxLocals ret :: tables_1) room_1).applies x e0.platform about1 = true :=
  (Spec.applies_iff w_frames).mpr ⟨w_running, w_runnable, w_alone, w_named, w_hears, w_ripe, w_room, w_tables⟩
theorem atStart : AtStart classFile x code maxLocals ret World_1 tables_1 room_1 Calls_1 rest_1 Pre_1 launch0 p0 e0 about1 theMethod args0 below0 :=
  ⟨lists_1, trivial, launch0.admits_env _ _ _, launch0.least_env, fairChoices_fair.cas, fairChoices_fair.clock, w_frames, w_args, w_heap, w_applies, ⟨w_consts, trivial⟩, w_rest, w_case⟩
end start1
theorem witness_1 : WitnessClaimed_1 := ⟨start1.p0, start1.e0, start1.about1, start1.theMethod, start1.args0, start1.below0, start1.atStart⟩
end Jvm.Pilot.@@N@@
