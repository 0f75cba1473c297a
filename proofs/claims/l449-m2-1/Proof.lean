import JvmDerived
import JvmDerived.Pilot.@@N@@Statement
import JvmDerived.Pilot.@@N@@Code
set_option linter.unusedVariables false
set_option linter.unusedSimpArgs false
set_option maxRecDepth 65536
set_option maxHeartbeats 40000000
namespace Jvm.RoadKit
open Sem ClassFile Op Lib Jvm.Stand Jvm.Free Jvm.LawKit
section New
variable {p : Program} {l : Launch} {e : Env} {R : Room} {s : State} {m : MethodId} {args : Array Value} {below : List Frame} {meth : Method} {c : Code} {T : State} {locs : List Loc} {cells slots : Nat}
theorem retI (X : Stand p l e R s m args below meth c T locs cells slots) (hx : p.tables.exec = Jvm.exec) {pc : Nat} {Ls : Array Slot} {z : Int32} {rest : List Value} (hret : meth.sig.returnType = some .int) (hd : decode c.code pc = .ok (.ireturn, 1)) {fs : List Frame}
    (hl : ∀ (f : JFrame) (acts : List Action), f.method = m → f.locked = none → f.entered = [] → (doReturn e (T.setTop f) acts (some (.int z))).1 = T.setFrames fs) : Steps p.tables e below (T.setTop (mkF m pc Ls (.int z :: rest))) (T.setFrames fs) := by
  have hm' : T.vm.method? m = some meth := X.method'
  have hn : narrow .int (.int z) = .int z := rfl
  show Steps p.tables e below (T.setTop { method := m, pc := pc, locals := Ls, stack := _ :: rest, locked := none }) _
  jvm_step X.here [X.here.top, hx, hd, hm', hret, hn]
  first | (intro acts; rw [hl _ acts rfl rfl rfl]) | rw [hl _ _ rfl rfl rfl]
  exact Steps.refl _
theorem own_retA (X : Stand p l e R s m args below meth c T locs cells slots) (hx : p.tables.exec = Jvm.exec) {pc : Nat} {Ls : Array Slot} {w : Value} {t : FieldType} {rest : List Value} (hret : meth.sig.returnType = some t) (ht : t.isReference = true) (hw : w.isRef = true) (hd : decode c.code pc = .ok (.areturn, 1)) {fs : List Frame}
    (hl : ∀ (f : JFrame) (acts : List Action), f.method = m → f.locked = none → f.entered = [] → (doReturn e (T.setTop f) acts (some w)).1 = T.setFrames fs) : Steps p.tables e below (T.setTop (mkF m pc Ls (w :: rest))) (T.setFrames fs) := by
  have hm' : T.vm.method? m = some meth := X.method'
  rcases ref_cases hw with rfl | ⟨z, rfl⟩
  all_goals
    show Steps p.tables e below (T.setTop { method := m, pc := pc, locals := Ls, stack := _ :: rest, locked := none }) _
    jvm_step X.here [X.here.top, hx, hd, hm', hret, Value.isRef]
    try (refine ⟨ht, ?_⟩)
    first | (intro acts; rw [hl _ acts rfl rfl rfl]) | rw [hl _ _ rfl rfl rfl]
    exact Steps.refl _
end New
/-- from U the run comes to an end of which P tells -/
def own_Go (tb : Tables) (e : Env) (below : List Frame) (P : Outcome → State → Prop) (U : State) : Prop := ∃ s₂ o, Steps tb e below U s₂ ∧ s₂.status = .running ∧ Ended s₂ below o ∧ P o s₂
theorem own_st {tb : Tables} {e : Env} {below : List Frame} {P : Outcome → State → Prop} {U V : State} (h : ∀ t, Steps tb e below V t → Steps tb e below U t) (g : own_Go tb e below P V) : own_Go tb e below P U := by
  obtain ⟨s₂, o, h1, r⟩ := g
  exact ⟨s₂, o, h _ h1, r⟩
theorem own_tr {tb : Tables} {e : Env} {below : List Frame} {P : Outcome → State → Prop} {U V : State} (h : Steps tb e below U V) (g : own_Go tb e below P V) : own_Go tb e below P U := by
  obtain ⟨s₂, o, h1, r⟩ := g
  exact ⟨s₂, o, h.trans h1, r⟩
theorem own_end {p : Program} {l : Launch} {e : Env} {R : Room} {s : State} {m : MethodId} {args : Array Value} {below : List Frame} {meth : Method} {c : Code} {T : State} {locs : List Loc} {cells slots : Nat} (X : Stand p l e R s m args below meth c T locs cells slots) {h : Heap} (eT : T.heap = h) {v : Option Value} (hv : meth.sig.returnType = none → v = none) (hlk : meth.locks = false) {g : JFrame}
    (hst : ∀ fs, (∀ (f : JFrame) (acts : List Action), f.method = m → f.locked = none → f.entered = [] → (doReturn e (T.setTop f) acts v).1 = T.setFrames fs) → Steps p.tables e below (T.setTop g) (T.setFrames fs))
    {Q : Option Value → Heap → List Loc → Prop} (hQ : Q v h locs) {cc ss : Nat} (hc : cells ≤ cc) (hs : slots ≤ ss) :
    own_Go p.tables e below (fun o U' => ∃ v L, o = .returned v ∧ Q v U'.heap L ∧ FrameEnd s o U' L cc ss) (T.setTop g) := by
  subst eT
  obtain ⟨fs, hr, hrun, hended, hW, hsame⟩ := X.leave (v := v) hv hlk
  exact ⟨_, _, hst fs hr, hrun, hended, _, _, rfl, hQ, ⟨_, rfl⟩, hW, hsame.mono hc hs⟩
section Steps2
variable {p : Program} {l : Launch} {e : Env} {R : Room} {s : State} {m : MethodId} {args : Array Value} {below : List Frame} {meth : Method} {c : Code} {T : State} {locs : List Loc} {cells slots : Nat} {P : Outcome → State → Prop} {pc : Nat} {Ls : Array Slot} {st : List Value}
theorem o_iloadN (X : Stand p l e R s m args below meth c T locs cells slots) {cb : ByteArray} (hq : p.tables.exec = Jvm.exec ∧ c.code = cb) {k : Fin 4} {v : Int32} (hd : decode cb pc = .ok (.iload_n k, 1)) (hl : Ls[k.val]? = some (.val (.int v))) (g : own_Go p.tables e below P (T.setTop (mkF m (pc + 1) Ls (.int v :: st)))) : own_Go p.tables e below P (T.setTop (mkF m pc Ls st)) := own_st (fun t k => XS.iloadN X.here hq.1 rfl (hb hq.2 hd) hl k) g
theorem o_iload (X : Stand p l e R s m args below meth c T locs cells slots) {cb : ByteArray} (hq : p.tables.exec = Jvm.exec ∧ c.code = cb) {k : Nat} {v : Int32} (hd : decode cb pc = .ok (.iload k, 2)) (hl : Ls[k]? = some (.val (.int v))) (g : own_Go p.tables e below P (T.setTop (mkF m (pc + 2) Ls (.int v :: st)))) : own_Go p.tables e below P (T.setTop (mkF m pc Ls st)) := own_st (fun t k => XS.iload X.here hq.1 rfl (hb hq.2 hd) hl k) g
theorem o_lloadN (X : Stand p l e R s m args below meth c T locs cells slots) {cb : ByteArray} (hq : p.tables.exec = Jvm.exec ∧ c.code = cb) {k : Fin 4} {v : Int64} (hd : decode cb pc = .ok (.lload_n k, 1)) (hl : Ls[k.val]? = some (.val (.long v))) (g : own_Go p.tables e below P (T.setTop (mkF m (pc + 1) Ls (.long v :: st)))) : own_Go p.tables e below P (T.setTop (mkF m pc Ls st)) := own_st (fun t k => XS.lloadN X.here hq.1 rfl (hb hq.2 hd) hl k) g
theorem o_lload (X : Stand p l e R s m args below meth c T locs cells slots) {cb : ByteArray} (hq : p.tables.exec = Jvm.exec ∧ c.code = cb) {k : Nat} {v : Int64} (hd : decode cb pc = .ok (.lload k, 2)) (hl : Ls[k]? = some (.val (.long v))) (g : own_Go p.tables e below P (T.setTop (mkF m (pc + 2) Ls (.long v :: st)))) : own_Go p.tables e below P (T.setTop (mkF m pc Ls st)) := own_st (fun t k => XS.lload X.here hq.1 rfl (hb hq.2 hd) hl k) g
theorem o_aloadN (X : Stand p l e R s m args below meth c T locs cells slots) {cb : ByteArray} (hq : p.tables.exec = Jvm.exec ∧ c.code = cb) {k : Fin 4} {v : Value} (hd : decode cb pc = .ok (.aload_n k, 1)) (hl : Ls[k.val]? = some (.val v)) (hv : v.isRef = true) (g : own_Go p.tables e below P (T.setTop (mkF m (pc + 1) Ls (v :: st)))) : own_Go p.tables e below P (T.setTop (mkF m pc Ls st)) := own_st (fun t k => XS.aloadN X.here hq.1 rfl (hb hq.2 hd) hl hv k) g
theorem o_aload (X : Stand p l e R s m args below meth c T locs cells slots) {cb : ByteArray} (hq : p.tables.exec = Jvm.exec ∧ c.code = cb) {k : Nat} {v : Value} (hd : decode cb pc = .ok (.aload k, 2)) (hl : Ls[k]? = some (.val v)) (hv : v.isRef = true) (g : own_Go p.tables e below P (T.setTop (mkF m (pc + 2) Ls (v :: st)))) : own_Go p.tables e below P (T.setTop (mkF m pc Ls st)) := own_st (fun t k => XS.aload X.here hq.1 rfl (hb hq.2 hd) hl hv k) g
theorem o_istoreN (X : Stand p l e R s m args below meth c T locs cells slots) {cb : ByteArray} (hq : p.tables.exec = Jvm.exec ∧ c.code = cb) {k : Fin 4} {v : Int32} {l' : Array Slot} (hd : decode cb pc = .ok (.istore_n k, 1)) (hl : storeLocals Ls k.val (.int v) = some l') (g : own_Go p.tables e below P (T.setTop (mkF m (pc + 1) l' st))) : own_Go p.tables e below P (T.setTop (mkF m pc Ls (.int v :: st))) := own_st (fun t k => XS.istoreN X.here hq.1 rfl (hb hq.2 hd) rfl hl k) g
theorem o_istore (X : Stand p l e R s m args below meth c T locs cells slots) {cb : ByteArray} (hq : p.tables.exec = Jvm.exec ∧ c.code = cb) {k : Nat} {v : Int32} {l' : Array Slot} (hd : decode cb pc = .ok (.istore k, 2)) (hl : storeLocals Ls k (.int v) = some l') (g : own_Go p.tables e below P (T.setTop (mkF m (pc + 2) l' st))) : own_Go p.tables e below P (T.setTop (mkF m pc Ls (.int v :: st))) := own_st (fun t k => XS.istore X.here hq.1 rfl (hb hq.2 hd) rfl hl k) g
theorem o_lstoreN (X : Stand p l e R s m args below meth c T locs cells slots) {cb : ByteArray} (hq : p.tables.exec = Jvm.exec ∧ c.code = cb) {k : Fin 4} {v : Int64} {l' : Array Slot} (hd : decode cb pc = .ok (.lstore_n k, 1)) (hl : storeLocals Ls k.val (.long v) = some l') (g : own_Go p.tables e below P (T.setTop (mkF m (pc + 1) l' st))) : own_Go p.tables e below P (T.setTop (mkF m pc Ls (.long v :: st))) := own_st (fun t k => XS.lstoreN X.here hq.1 rfl (hb hq.2 hd) rfl hl k) g
theorem o_lstore (X : Stand p l e R s m args below meth c T locs cells slots) {cb : ByteArray} (hq : p.tables.exec = Jvm.exec ∧ c.code = cb) {k : Nat} {v : Int64} {l' : Array Slot} (hd : decode cb pc = .ok (.lstore k, 2)) (hl : storeLocals Ls k (.long v) = some l') (g : own_Go p.tables e below P (T.setTop (mkF m (pc + 2) l' st))) : own_Go p.tables e below P (T.setTop (mkF m pc Ls (.long v :: st))) := own_st (fun t k => XS.lstore X.here hq.1 rfl (hb hq.2 hd) rfl hl k) g
theorem o_astoreN (X : Stand p l e R s m args below meth c T locs cells slots) {cb : ByteArray} (hq : p.tables.exec = Jvm.exec ∧ c.code = cb) {k : Fin 4} {v : Value} {l' : Array Slot} (hd : decode cb pc = .ok (.astore_n k, 1)) (hv : v.isRef = true) (hl : storeLocals Ls k.val v = some l') (g : own_Go p.tables e below P (T.setTop (mkF m (pc + 1) l' st))) : own_Go p.tables e below P (T.setTop (mkF m pc Ls (v :: st))) := own_st (fun t k => XS.astoreN X.here hq.1 rfl (hb hq.2 hd) rfl hv hl k) g
theorem o_astore (X : Stand p l e R s m args below meth c T locs cells slots) {cb : ByteArray} (hq : p.tables.exec = Jvm.exec ∧ c.code = cb) {k : Nat} {v : Value} {l' : Array Slot} (hd : decode cb pc = .ok (.astore k, 2)) (hv : v.isRef = true) (hl : storeLocals Ls k v = some l') (g : own_Go p.tables e below P (T.setTop (mkF m (pc + 2) l' st))) : own_Go p.tables e below P (T.setTop (mkF m pc Ls (v :: st))) := own_st (fun t k => XS.astore X.here hq.1 rfl (hb hq.2 hd) rfl hv hl k) g
theorem o_iconst (X : Stand p l e R s m args below meth c T locs cells slots) {cb : ByteArray} (hq : p.tables.exec = Jvm.exec ∧ c.code = cb) {i : Int} (z : Int32) (hd : decode cb pc = .ok (.iconst i, 1)) (hz : Int32.ofInt i = z) (g : own_Go p.tables e below P (T.setTop (mkF m (pc + 1) Ls (.int z :: st)))) : own_Go p.tables e below P (T.setTop (mkF m pc Ls st)) := by subst hz; exact own_st (fun t k => XS.iconst X.here hq.1 rfl (hb hq.2 hd) k) g
theorem o_bipush (X : Stand p l e R s m args below meth c T locs cells slots) {cb : ByteArray} (hq : p.tables.exec = Jvm.exec ∧ c.code = cb) {i : Int} (z : Int32) (hd : decode cb pc = .ok (.bipush i, 2)) (hz : (Int8.ofInt i).toInt32 = z) (g : own_Go p.tables e below P (T.setTop (mkF m (pc + 2) Ls (.int z :: st)))) : own_Go p.tables e below P (T.setTop (mkF m pc Ls st)) := by subst hz; exact own_st (fun t k => XS.bipush X.here hq.1 rfl (hb hq.2 hd) k) g
theorem o_sipush (X : Stand p l e R s m args below meth c T locs cells slots) {cb : ByteArray} (hq : p.tables.exec = Jvm.exec ∧ c.code = cb) {i : Int} (z : Int32) (hd : decode cb pc = .ok (.sipush i, 3)) (hz : (Int16.ofInt i).toInt32 = z) (g : own_Go p.tables e below P (T.setTop (mkF m (pc + 3) Ls (.int z :: st)))) : own_Go p.tables e below P (T.setTop (mkF m pc Ls st)) := by subst hz; exact own_st (fun t k => XS.sipush X.here hq.1 rfl (hb hq.2 hd) k) g
theorem o_lconst (X : Stand p l e R s m args below meth c T locs cells slots) {cb : ByteArray} (hq : p.tables.exec = Jvm.exec ∧ c.code = cb) {i : Fin 2} (z : Int64) (hd : decode cb pc = .ok (.lconst i, 1)) (hz : Int64.ofNat i = z) (g : own_Go p.tables e below P (T.setTop (mkF m (pc + 1) Ls (.long z :: st)))) : own_Go p.tables e below P (T.setTop (mkF m pc Ls st)) := by subst hz; exact own_st (fun t k => XS.lconst X.here hq.1 rfl (hb hq.2 hd) k) g
theorem o_aconstNull (X : Stand p l e R s m args below meth c T locs cells slots) {cb : ByteArray} (hq : p.tables.exec = Jvm.exec ∧ c.code = cb) (hd : decode cb pc = .ok (.aconst_null, 1)) (g : own_Go p.tables e below P (T.setTop (mkF m (pc + 1) Ls (.null :: st)))) : own_Go p.tables e below P (T.setTop (mkF m pc Ls st)) := own_st (fun t k => XS.aconstNull X.here hq.1 rfl (hb hq.2 hd) k) g
theorem o_iadd (X : Stand p l e R s m args below meth c T locs cells slots) {cb : ByteArray} (hq : p.tables.exec = Jvm.exec ∧ c.code = cb) {x y : Int32} (hd : decode cb pc = .ok (.iadd, 1)) (g : own_Go p.tables e below P (T.setTop (mkF m (pc + 1) Ls (.int (x + y) :: st)))) : own_Go p.tables e below P (T.setTop (mkF m pc Ls (.int y :: .int x :: st))) := own_st (fun t k => XS.iadd X.here hq.1 rfl (hb hq.2 hd) rfl k) g
theorem o_ladd (X : Stand p l e R s m args below meth c T locs cells slots) {cb : ByteArray} (hq : p.tables.exec = Jvm.exec ∧ c.code = cb) {x y : Int64} (hd : decode cb pc = .ok (.ladd, 1)) (g : own_Go p.tables e below P (T.setTop (mkF m (pc + 1) Ls (.long (x + y) :: st)))) : own_Go p.tables e below P (T.setTop (mkF m pc Ls (.long y :: .long x :: st))) := own_st (fun t k => XS.ladd X.here hq.1 rfl (hb hq.2 hd) rfl k) g
theorem o_isub (X : Stand p l e R s m args below meth c T locs cells slots) {cb : ByteArray} (hq : p.tables.exec = Jvm.exec ∧ c.code = cb) {x y : Int32} (hd : decode cb pc = .ok (.isub, 1)) (g : own_Go p.tables e below P (T.setTop (mkF m (pc + 1) Ls (.int (x - y) :: st)))) : own_Go p.tables e below P (T.setTop (mkF m pc Ls (.int y :: .int x :: st))) := own_st (fun t k => XS.isub X.here hq.1 rfl (hb hq.2 hd) rfl k) g
theorem o_lsub (X : Stand p l e R s m args below meth c T locs cells slots) {cb : ByteArray} (hq : p.tables.exec = Jvm.exec ∧ c.code = cb) {x y : Int64} (hd : decode cb pc = .ok (.lsub, 1)) (g : own_Go p.tables e below P (T.setTop (mkF m (pc + 1) Ls (.long (x - y) :: st)))) : own_Go p.tables e below P (T.setTop (mkF m pc Ls (.long y :: .long x :: st))) := own_st (fun t k => XS.lsub X.here hq.1 rfl (hb hq.2 hd) rfl k) g
theorem o_imul (X : Stand p l e R s m args below meth c T locs cells slots) {cb : ByteArray} (hq : p.tables.exec = Jvm.exec ∧ c.code = cb) {x y : Int32} (hd : decode cb pc = .ok (.imul, 1)) (g : own_Go p.tables e below P (T.setTop (mkF m (pc + 1) Ls (.int (x * y) :: st)))) : own_Go p.tables e below P (T.setTop (mkF m pc Ls (.int y :: .int x :: st))) := own_st (fun t k => XS.imul X.here hq.1 rfl (hb hq.2 hd) rfl k) g
theorem o_lmul (X : Stand p l e R s m args below meth c T locs cells slots) {cb : ByteArray} (hq : p.tables.exec = Jvm.exec ∧ c.code = cb) {x y : Int64} (hd : decode cb pc = .ok (.lmul, 1)) (g : own_Go p.tables e below P (T.setTop (mkF m (pc + 1) Ls (.long (x * y) :: st)))) : own_Go p.tables e below P (T.setTop (mkF m pc Ls (.long y :: .long x :: st))) := own_st (fun t k => XS.lmul X.here hq.1 rfl (hb hq.2 hd) rfl k) g
theorem o_iand (X : Stand p l e R s m args below meth c T locs cells slots) {cb : ByteArray} (hq : p.tables.exec = Jvm.exec ∧ c.code = cb) {x y : Int32} (hd : decode cb pc = .ok (.iand, 1)) (g : own_Go p.tables e below P (T.setTop (mkF m (pc + 1) Ls (.int (x &&& y) :: st)))) : own_Go p.tables e below P (T.setTop (mkF m pc Ls (.int y :: .int x :: st))) := own_st (fun t k => XS.iand X.here hq.1 rfl (hb hq.2 hd) rfl k) g
theorem o_land (X : Stand p l e R s m args below meth c T locs cells slots) {cb : ByteArray} (hq : p.tables.exec = Jvm.exec ∧ c.code = cb) {x y : Int64} (hd : decode cb pc = .ok (.land, 1)) (g : own_Go p.tables e below P (T.setTop (mkF m (pc + 1) Ls (.long (x &&& y) :: st)))) : own_Go p.tables e below P (T.setTop (mkF m pc Ls (.long y :: .long x :: st))) := own_st (fun t k => XS.land X.here hq.1 rfl (hb hq.2 hd) rfl k) g
theorem o_ior (X : Stand p l e R s m args below meth c T locs cells slots) {cb : ByteArray} (hq : p.tables.exec = Jvm.exec ∧ c.code = cb) {x y : Int32} (hd : decode cb pc = .ok (.ior, 1)) (g : own_Go p.tables e below P (T.setTop (mkF m (pc + 1) Ls (.int (x ||| y) :: st)))) : own_Go p.tables e below P (T.setTop (mkF m pc Ls (.int y :: .int x :: st))) := own_st (fun t k => XS.ior X.here hq.1 rfl (hb hq.2 hd) rfl k) g
theorem o_lor (X : Stand p l e R s m args below meth c T locs cells slots) {cb : ByteArray} (hq : p.tables.exec = Jvm.exec ∧ c.code = cb) {x y : Int64} (hd : decode cb pc = .ok (.lor, 1)) (g : own_Go p.tables e below P (T.setTop (mkF m (pc + 1) Ls (.long (x ||| y) :: st)))) : own_Go p.tables e below P (T.setTop (mkF m pc Ls (.long y :: .long x :: st))) := own_st (fun t k => XS.lor X.here hq.1 rfl (hb hq.2 hd) rfl k) g
theorem o_ixor (X : Stand p l e R s m args below meth c T locs cells slots) {cb : ByteArray} (hq : p.tables.exec = Jvm.exec ∧ c.code = cb) {x y : Int32} (hd : decode cb pc = .ok (.ixor, 1)) (g : own_Go p.tables e below P (T.setTop (mkF m (pc + 1) Ls (.int (x ^^^ y) :: st)))) : own_Go p.tables e below P (T.setTop (mkF m pc Ls (.int y :: .int x :: st))) := own_st (fun t k => XS.ixor X.here hq.1 rfl (hb hq.2 hd) rfl k) g
theorem o_lxor (X : Stand p l e R s m args below meth c T locs cells slots) {cb : ByteArray} (hq : p.tables.exec = Jvm.exec ∧ c.code = cb) {x y : Int64} (hd : decode cb pc = .ok (.lxor, 1)) (g : own_Go p.tables e below P (T.setTop (mkF m (pc + 1) Ls (.long (x ^^^ y) :: st)))) : own_Go p.tables e below P (T.setTop (mkF m pc Ls (.long y :: .long x :: st))) := own_st (fun t k => XS.lxor X.here hq.1 rfl (hb hq.2 hd) rfl k) g
theorem o_idiv (X : Stand p l e R s m args below meth c T locs cells slots) {cb : ByteArray} (hq : p.tables.exec = Jvm.exec ∧ c.code = cb) {x y : Int32} (hd : decode cb pc = .ok (.idiv, 1)) (hy : y ≠ 0) (g : own_Go p.tables e below P (T.setTop (mkF m (pc + 1) Ls (.int (x / y) :: st)))) : own_Go p.tables e below P (T.setTop (mkF m pc Ls (.int y :: .int x :: st))) := own_st (fun t k => XS.idiv X.here hq.1 rfl (hb hq.2 hd) rfl hy k) g
theorem o_irem (X : Stand p l e R s m args below meth c T locs cells slots) {cb : ByteArray} (hq : p.tables.exec = Jvm.exec ∧ c.code = cb) {x y : Int32} (hd : decode cb pc = .ok (.irem, 1)) (hy : y ≠ 0) (g : own_Go p.tables e below P (T.setTop (mkF m (pc + 1) Ls (.int (x - x / y * y) :: st)))) : own_Go p.tables e below P (T.setTop (mkF m pc Ls (.int y :: .int x :: st))) := own_st (fun t k => XS.irem X.here hq.1 rfl (hb hq.2 hd) rfl hy k) g
theorem o_ldiv (X : Stand p l e R s m args below meth c T locs cells slots) {cb : ByteArray} (hq : p.tables.exec = Jvm.exec ∧ c.code = cb) {x y : Int64} (hd : decode cb pc = .ok (.ldiv, 1)) (hy : y ≠ 0) (g : own_Go p.tables e below P (T.setTop (mkF m (pc + 1) Ls (.long (x / y) :: st)))) : own_Go p.tables e below P (T.setTop (mkF m pc Ls (.long y :: .long x :: st))) := own_st (fun t k => XS.ldiv X.here hq.1 rfl (hb hq.2 hd) rfl hy k) g
theorem o_lrem (X : Stand p l e R s m args below meth c T locs cells slots) {cb : ByteArray} (hq : p.tables.exec = Jvm.exec ∧ c.code = cb) {x y : Int64} (hd : decode cb pc = .ok (.lrem, 1)) (hy : y ≠ 0) (g : own_Go p.tables e below P (T.setTop (mkF m (pc + 1) Ls (.long (x - x / y * y) :: st)))) : own_Go p.tables e below P (T.setTop (mkF m pc Ls (.long y :: .long x :: st))) := own_st (fun t k => XS.lrem X.here hq.1 rfl (hb hq.2 hd) rfl hy k) g
theorem o_ineg (X : Stand p l e R s m args below meth c T locs cells slots) {cb : ByteArray} (hq : p.tables.exec = Jvm.exec ∧ c.code = cb) {x : Int32} (hd : decode cb pc = .ok (.ineg, 1)) (g : own_Go p.tables e below P (T.setTop (mkF m (pc + 1) Ls (.int ((-x)) :: st)))) : own_Go p.tables e below P (T.setTop (mkF m pc Ls (.int x :: st))) := own_st (fun t k => XS.ineg X.here hq.1 rfl (hb hq.2 hd) rfl k) g
theorem o_lneg (X : Stand p l e R s m args below meth c T locs cells slots) {cb : ByteArray} (hq : p.tables.exec = Jvm.exec ∧ c.code = cb) {x : Int64} (hd : decode cb pc = .ok (.lneg, 1)) (g : own_Go p.tables e below P (T.setTop (mkF m (pc + 1) Ls (.long ((-x)) :: st)))) : own_Go p.tables e below P (T.setTop (mkF m pc Ls (.long x :: st))) := own_st (fun t k => XS.lneg X.here hq.1 rfl (hb hq.2 hd) rfl k) g
theorem o_i2l (X : Stand p l e R s m args below meth c T locs cells slots) {cb : ByteArray} (hq : p.tables.exec = Jvm.exec ∧ c.code = cb) {x : Int32} (hd : decode cb pc = .ok (.i2l, 1)) (g : own_Go p.tables e below P (T.setTop (mkF m (pc + 1) Ls (.long (x.toInt64) :: st)))) : own_Go p.tables e below P (T.setTop (mkF m pc Ls (.int x :: st))) := own_st (fun t k => XS.i2l X.here hq.1 rfl (hb hq.2 hd) rfl k) g
theorem o_l2i (X : Stand p l e R s m args below meth c T locs cells slots) {cb : ByteArray} (hq : p.tables.exec = Jvm.exec ∧ c.code = cb) {x : Int64} (hd : decode cb pc = .ok (.l2i, 1)) (g : own_Go p.tables e below P (T.setTop (mkF m (pc + 1) Ls (.int (x.toInt32) :: st)))) : own_Go p.tables e below P (T.setTop (mkF m pc Ls (.long x :: st))) := own_st (fun t k => XS.l2i X.here hq.1 rfl (hb hq.2 hd) rfl k) g
theorem o_i2b (X : Stand p l e R s m args below meth c T locs cells slots) {cb : ByteArray} (hq : p.tables.exec = Jvm.exec ∧ c.code = cb) {x : Int32} (hd : decode cb pc = .ok (.i2b, 1)) (g : own_Go p.tables e below P (T.setTop (mkF m (pc + 1) Ls (.int (x.toInt8.toInt32) :: st)))) : own_Go p.tables e below P (T.setTop (mkF m pc Ls (.int x :: st))) := own_st (fun t k => XS.i2b X.here hq.1 rfl (hb hq.2 hd) rfl k) g
theorem o_i2s (X : Stand p l e R s m args below meth c T locs cells slots) {cb : ByteArray} (hq : p.tables.exec = Jvm.exec ∧ c.code = cb) {x : Int32} (hd : decode cb pc = .ok (.i2s, 1)) (g : own_Go p.tables e below P (T.setTop (mkF m (pc + 1) Ls (.int (x.toInt16.toInt32) :: st)))) : own_Go p.tables e below P (T.setTop (mkF m pc Ls (.int x :: st))) := own_st (fun t k => XS.i2s X.here hq.1 rfl (hb hq.2 hd) rfl k) g
theorem o_i2c (X : Stand p l e R s m args below meth c T locs cells slots) {cb : ByteArray} (hq : p.tables.exec = Jvm.exec ∧ c.code = cb) {x : Int32} (hd : decode cb pc = .ok (.i2c, 1)) (g : own_Go p.tables e below P (T.setTop (mkF m (pc + 1) Ls (.int (x.toUInt32.toUInt16.toUInt32.toInt32) :: st)))) : own_Go p.tables e below P (T.setTop (mkF m pc Ls (.int x :: st))) := own_st (fun t k => XS.i2c X.here hq.1 rfl (hb hq.2 hd) rfl k) g
theorem o_ishl (X : Stand p l e R s m args below meth c T locs cells slots) {cb : ByteArray} (hq : p.tables.exec = Jvm.exec ∧ c.code = cb) {x : Int32} {y : Int32} (hd : decode cb pc = .ok (.ishl, 1)) (g : own_Go p.tables e below P (T.setTop (mkF m (pc + 1) Ls (.int (x <<< (y &&& 31)) :: st)))) : own_Go p.tables e below P (T.setTop (mkF m pc Ls (.int y :: .int x :: st))) := own_st (fun t k => XS.ishl X.here hq.1 rfl (hb hq.2 hd) rfl k) g
theorem o_ishr (X : Stand p l e R s m args below meth c T locs cells slots) {cb : ByteArray} (hq : p.tables.exec = Jvm.exec ∧ c.code = cb) {x : Int32} {y : Int32} (hd : decode cb pc = .ok (.ishr, 1)) (g : own_Go p.tables e below P (T.setTop (mkF m (pc + 1) Ls (.int (x >>> (y &&& 31)) :: st)))) : own_Go p.tables e below P (T.setTop (mkF m pc Ls (.int y :: .int x :: st))) := own_st (fun t k => XS.ishr X.here hq.1 rfl (hb hq.2 hd) rfl k) g
theorem o_iushr (X : Stand p l e R s m args below meth c T locs cells slots) {cb : ByteArray} (hq : p.tables.exec = Jvm.exec ∧ c.code = cb) {x : Int32} {y : Int32} (hd : decode cb pc = .ok (.iushr, 1)) (g : own_Go p.tables e below P (T.setTop (mkF m (pc + 1) Ls (.int ((x.toUInt32 >>> (y &&& 31).toUInt32).toInt32) :: st)))) : own_Go p.tables e below P (T.setTop (mkF m pc Ls (.int y :: .int x :: st))) := own_st (fun t k => XS.iushr X.here hq.1 rfl (hb hq.2 hd) rfl k) g
theorem o_lshl (X : Stand p l e R s m args below meth c T locs cells slots) {cb : ByteArray} (hq : p.tables.exec = Jvm.exec ∧ c.code = cb) {x : Int64} {y : Int32} (hd : decode cb pc = .ok (.lshl, 1)) (g : own_Go p.tables e below P (T.setTop (mkF m (pc + 1) Ls (.long (x <<< (y &&& 0x3f).toInt64) :: st)))) : own_Go p.tables e below P (T.setTop (mkF m pc Ls (.int y :: .long x :: st))) := own_st (fun t k => XS.lshl X.here hq.1 rfl (hb hq.2 hd) rfl k) g
theorem o_lshr (X : Stand p l e R s m args below meth c T locs cells slots) {cb : ByteArray} (hq : p.tables.exec = Jvm.exec ∧ c.code = cb) {x : Int64} {y : Int32} (hd : decode cb pc = .ok (.lshr, 1)) (g : own_Go p.tables e below P (T.setTop (mkF m (pc + 1) Ls (.long (x >>> (y &&& 0x3f).toInt64) :: st)))) : own_Go p.tables e below P (T.setTop (mkF m pc Ls (.int y :: .long x :: st))) := own_st (fun t k => XS.lshr X.here hq.1 rfl (hb hq.2 hd) rfl k) g
theorem o_lushr (X : Stand p l e R s m args below meth c T locs cells slots) {cb : ByteArray} (hq : p.tables.exec = Jvm.exec ∧ c.code = cb) {x : Int64} {y : Int32} (hd : decode cb pc = .ok (.lushr, 1)) (g : own_Go p.tables e below P (T.setTop (mkF m (pc + 1) Ls (.long ((x.toUInt64 >>> (y &&& 0x3f).toInt64.toUInt64).toInt64) :: st)))) : own_Go p.tables e below P (T.setTop (mkF m pc Ls (.int y :: .long x :: st))) := own_st (fun t k => XS.lushr X.here hq.1 rfl (hb hq.2 hd) rfl k) g
theorem o_lcmp (X : Stand p l e R s m args below meth c T locs cells slots) {cb : ByteArray} (hq : p.tables.exec = Jvm.exec ∧ c.code = cb) {x y : Int64} (hd : decode cb pc = .ok (.lcmp, 1)) (g : own_Go p.tables e below P (T.setTop (mkF m (pc + 1) Ls (.int (lcmpW x y) :: st)))) : own_Go p.tables e below P (T.setTop (mkF m pc Ls (.long y :: .long x :: st))) := own_st (fun t k => XS.lcmp X.here hq.1 rfl (hb hq.2 hd) rfl k) g
theorem o_iinc (X : Stand p l e R s m args below meth c T locs cells slots) {cb : ByteArray} (hq : p.tables.exec = Jvm.exec ∧ c.code = cb) {k : Nat} {cst : Int} {x : Int32} {l' : Array Slot} (hd : decode cb pc = .ok (.iinc k cst, 3)) (hl : Ls[k]? = some (.val (.int x))) (hl' : storeLocals Ls k (.int (x + Int32.ofInt cst)) = some l') (g : own_Go p.tables e below P (T.setTop (mkF m (pc + 3) l' st))) : own_Go p.tables e below P (T.setTop (mkF m pc Ls st)) := own_st (fun t k => XS.iinc X.here hq.1 rfl (hb hq.2 hd) hl hl' k) g
theorem o_dup (X : Stand p l e R s m args below meth c T locs cells slots) {cb : ByteArray} (hq : p.tables.exec = Jvm.exec ∧ c.code = cb) {x : Value} (hd : decode cb pc = .ok (.dup, 1)) (hc : x.category = 1) (g : own_Go p.tables e below P (T.setTop (mkF m (pc + 1) Ls (x :: x :: st)))) : own_Go p.tables e below P (T.setTop (mkF m pc Ls (x :: st))) := own_st (fun t k => XS.dup X.here hq.1 rfl (hb hq.2 hd) rfl hc k) g
theorem o_pop (X : Stand p l e R s m args below meth c T locs cells slots) {cb : ByteArray} (hq : p.tables.exec = Jvm.exec ∧ c.code = cb) {x : Value} (hd : decode cb pc = .ok (.pop, 1)) (hc : x.category = 1) (g : own_Go p.tables e below P (T.setTop (mkF m (pc + 1) Ls st))) : own_Go p.tables e below P (T.setTop (mkF m pc Ls (x :: st))) := own_st (fun t k => XS.pop X.here hq.1 rfl (hb hq.2 hd) rfl hc k) g
theorem o_dupX1 (X : Stand p l e R s m args below meth c T locs cells slots) {cb : ByteArray} (hq : p.tables.exec = Jvm.exec ∧ c.code = cb) {x y : Value} (hd : decode cb pc = .ok (.dup_x1, 1)) (hc : x.category = 1) (hc' : y.category = 1) (g : own_Go p.tables e below P (T.setTop (mkF m (pc + 1) Ls (x :: y :: x :: st)))) : own_Go p.tables e below P (T.setTop (mkF m pc Ls (x :: y :: st))) := own_st (fun t k => XS.dupX1 X.here hq.1 rfl (hb hq.2 hd) rfl hc hc' k) g
theorem o_dup2 (X : Stand p l e R s m args below meth c T locs cells slots) {cb : ByteArray} (hq : p.tables.exec = Jvm.exec ∧ c.code = cb) {x y : Value} (hd : decode cb pc = .ok (.dup2, 1)) (hc : x.category = 1) (hc' : y.category = 1) (g : own_Go p.tables e below P (T.setTop (mkF m (pc + 1) Ls (x :: y :: x :: y :: st)))) : own_Go p.tables e below P (T.setTop (mkF m pc Ls (x :: y :: st))) := own_st (fun t k => Jvm.Free.XT.dup2 X.here hq.1 rfl (hb hq.2 hd) rfl hc hc' k) g
theorem o_goto (X : Stand p l e R s m args below meth c T locs cells slots) {cb : ByteArray} (hq : p.tables.exec = Jvm.exec ∧ c.code = cb) {o : Int} {pc' : Nat} (hd : decode cb pc = .ok (.goto o, 3)) (g : own_Go p.tables e below P (T.setTop (mkF m pc' Ls st))) (ho : 0 ≤ (pc : Int) + o := by decide) (hp : ((pc : Int) + o).toNat = pc' := by decide) : own_Go p.tables e below P (T.setTop (mkF m pc Ls st)) := own_st (fun t k => XS.goto X.here hq.1 rfl rfl (hb hq.2 hd) ho hp k) g
theorem o_ifYes (X : Stand p l e R s m args below meth c T locs cells slots) {cb : ByteArray} (hq : p.tables.exec = Jvm.exec ∧ c.code = cb) {cd : ClassFile.Cond} {x : Int32} {o : Int} {pc' : Nat} (hd : decode cb pc = .ok (.ifCond cd o, 3)) (hc : if_icmp.holds cd x 0 = true) (g : own_Go p.tables e below P (T.setTop (mkF m pc' Ls st))) (ho : 0 ≤ (pc : Int) + o := by decide) (hp : ((pc : Int) + o).toNat = pc' := by decide) : own_Go p.tables e below P (T.setTop (mkF m pc Ls (.int x :: st))) := own_st (fun t k => XS.ifYes X.here hq.1 rfl rfl (hb hq.2 hd) rfl ((if0 _ _).trans hc) ho hp k) g
theorem o_ifNo (X : Stand p l e R s m args below meth c T locs cells slots) {cb : ByteArray} (hq : p.tables.exec = Jvm.exec ∧ c.code = cb) {cd : ClassFile.Cond} {x : Int32} {o : Int} (hd : decode cb pc = .ok (.ifCond cd o, 3)) (hc : if_icmp.holds cd x 0 = false) (g : own_Go p.tables e below P (T.setTop (mkF m (pc + 3) Ls st))) : own_Go p.tables e below P (T.setTop (mkF m pc Ls (.int x :: st))) := own_st (fun t k => XS.ifNo X.here hq.1 rfl (hb hq.2 hd) rfl ((if0 _ _).trans hc) k) g
theorem o_icmpYes (X : Stand p l e R s m args below meth c T locs cells slots) {cb : ByteArray} (hq : p.tables.exec = Jvm.exec ∧ c.code = cb) {cd : ClassFile.Cond} {x y : Int32} {o : Int} {pc' : Nat} (hd : decode cb pc = .ok (.if_icmp cd o, 3)) (hc : if_icmp.holds cd x y = true) (g : own_Go p.tables e below P (T.setTop (mkF m pc' Ls st))) (ho : 0 ≤ (pc : Int) + o := by decide) (hp : ((pc : Int) + o).toNat = pc' := by decide) : own_Go p.tables e below P (T.setTop (mkF m pc Ls (.int y :: .int x :: st))) := own_st (fun t k => XS.icmpYes X.here hq.1 rfl rfl (hb hq.2 hd) rfl hc ho hp k) g
theorem o_icmpNo (X : Stand p l e R s m args below meth c T locs cells slots) {cb : ByteArray} (hq : p.tables.exec = Jvm.exec ∧ c.code = cb) {cd : ClassFile.Cond} {x y : Int32} {o : Int} (hd : decode cb pc = .ok (.if_icmp cd o, 3)) (hc : if_icmp.holds cd x y = false) (g : own_Go p.tables e below P (T.setTop (mkF m (pc + 3) Ls st))) : own_Go p.tables e below P (T.setTop (mkF m pc Ls (.int y :: .int x :: st))) := own_st (fun t k => XS.icmpNo X.here hq.1 rfl (hb hq.2 hd) rfl hc k) g
theorem o_ifnullYes (X : Stand p l e R s m args below meth c T locs cells slots) {cb : ByteArray} (hq : p.tables.exec = Jvm.exec ∧ c.code = cb) {o : Int} {pc' : Nat} (hd : decode cb pc = .ok (.ifnull o, 3)) (g : own_Go p.tables e below P (T.setTop (mkF m pc' Ls st))) (ho : 0 ≤ (pc : Int) + o := by decide) (hp : ((pc : Int) + o).toNat = pc' := by decide) : own_Go p.tables e below P (T.setTop (mkF m pc Ls (.null :: st))) := own_st (fun t k => XS.ifnullYes X.here hq.1 rfl rfl (hb hq.2 hd) rfl ho hp k) g
theorem o_ifnullNo (X : Stand p l e R s m args below meth c T locs cells slots) {cb : ByteArray} (hq : p.tables.exec = Jvm.exec ∧ c.code = cb) {o : Int} {b : Addr} (hd : decode cb pc = .ok (.ifnull o, 3)) (g : own_Go p.tables e below P (T.setTop (mkF m (pc + 3) Ls st))) : own_Go p.tables e below P (T.setTop (mkF m pc Ls (.ref b :: st))) := own_st (fun t k => XS.ifnullNo X.here hq.1 rfl (hb hq.2 hd) rfl k) g
theorem o_ifnonnullNo (X : Stand p l e R s m args below meth c T locs cells slots) {cb : ByteArray} (hq : p.tables.exec = Jvm.exec ∧ c.code = cb) {o : Int} (hd : decode cb pc = .ok (.ifnonnull o, 3)) (g : own_Go p.tables e below P (T.setTop (mkF m (pc + 3) Ls st))) : own_Go p.tables e below P (T.setTop (mkF m pc Ls (.null :: st))) := own_st (fun t k => XS.ifnonnullNo X.here hq.1 rfl (hb hq.2 hd) rfl k) g
theorem o_ifnonnullYes (X : Stand p l e R s m args below meth c T locs cells slots) {cb : ByteArray} (hq : p.tables.exec = Jvm.exec ∧ c.code = cb) {o : Int} {b : Addr} {pc' : Nat} (hd : decode cb pc = .ok (.ifnonnull o, 3)) (g : own_Go p.tables e below P (T.setTop (mkF m pc' Ls st))) (ho : 0 ≤ (pc : Int) + o := by decide) (hp : ((pc : Int) + o).toNat = pc' := by decide) : own_Go p.tables e below P (T.setTop (mkF m pc Ls (.ref b :: st))) := own_st (fun t k => XS.ifnonnullYes X.here hq.1 rfl rfl (hb hq.2 hd) rfl ho hp k) g
theorem o_ldc (X : Stand p l e R s m args below meth c T locs cells slots) {cb : ByteArray} (hq : p.tables.exec = Jvm.exec ∧ c.code = cb) {own : String} {index : Nat} {v : Int32} (hown : s.vm.findClass own = some m.cls) (hd : decode cb pc = .ok (.ldc index, 2)) (hk : (Cond.constant own index v).before args s = true) (g : own_Go p.tables e below P (T.setTop (mkF m (pc + 2) Ls (.int v :: st)))) : own_Go p.tables e below P (T.setTop (mkF m pc Ls st)) := own_st (X.ldcInt hq.1 hown hk (g := mkF m pc Ls st) rfl (hb hq.2 hd)) g
theorem o_ldc2 (X : Stand p l e R s m args below meth c T locs cells slots) {cb : ByteArray} (hq : p.tables.exec = Jvm.exec ∧ c.code = cb) {own : String} {index : Nat} {v : Int64} (hown : s.vm.findClass own = some m.cls) (hd : decode cb pc = .ok (.ldc2_w index, 3)) (hk : (Cond.constantLong own index v).before args s = true) (g : own_Go p.tables e below P (T.setTop (mkF m (pc + 3) Ls (.long v :: st)))) : own_Go p.tables e below P (T.setTop (mkF m pc Ls st)) := own_st (X.ldc2Long hq.1 hown hk (g := mkF m pc Ls st) rfl (hb hq.2 hd)) g
end Steps2
end Jvm.RoadKit
namespace Jvm.Pilot.@@N@@
open Jvm Jvm.ClassFile Sem Op Lib Jvm.Free Jvm.Stand Jvm.LawKit Jvm.RoadKit Bundle Jvm.Pilot.@@N@@.Jvm.D
abbrev R_ (a b c d : Nat) : Room := ⟨a, b, c, d⟩
abbrev y0_ : MethodName := ⟨"java/lang/Record", "<init>", "()V"⟩
abbrev y1_ : MethodName := ⟨"headway/bench/Footprint$Measurement", "<init>", "(IJJ)V"⟩
abbrev y2_ : MethodName := ⟨"headway/bench/Footprint$Measurement", "bytesPerElement", "()D"⟩
abbrev HW (a0 : Array Value) (Z : State) : Prop := ∀ d ∈ tables_1, d.before a0 Z = true
theorem w_ {a0 : Array Value} {Z : State} {d : Jvm.Cond} (hw : HW a0 Z) (i : Nat) (h : tables_1[i]? = some d) : d.before a0 Z = true := hw _ (List.mem_of_getElem? h)
theorem v_ {a0 args : Array Value} {Z s : State} {d : Jvm.Cond} (hZ : Z.Warmed39 s.vm) (hw : HW a0 Z) (i : Nat) (h : tables_1[i]? = some d) (hd : (d.onTables && d.keepsFace) = true := by first | rfl | simp [Cond.onTables, Cond.keepsFace, Cond.keeps, Cond.steady]) : d.before args s = true := mvT hZ (hw _ (List.mem_of_getElem? h)) hd
theorem z_ {a b : Nat} (h : 2 * 0 + a = b) : 2 * 0 + a ≤ b := Nat.le_of_eq h
def own_P (s : State) (Q : Option Value → Heap → List Loc → Prop) (R : Room) : Outcome → State → Prop := fun o U' => ∃ v L, o = .returned v ∧ Q v U'.heap L ∧ FrameEnd s o U' L R.cells R.slots
def own_PW (s : State) (Q : Option Value → Heap → List Loc → Prop) (R : Room) : Outcome → State → Prop := fun o U' => ∃ v L, o = .returned v ∧ Q v U'.heap L ∧ ReturnedEndW s o U' L R.cells R.slots
abbrev own_Met (l : Launch) (y : MethodName) (bytes : ByteArray) (ML : Nat) (ret : Option FieldType) (R : Room) (as' : Array Value) (Z : State) (h0 : Heap) (Q : Option Value → Heap → List Loc → Prop) : Prop :=
 MetFree l y (head1 [Jvm.Cond.code y bytes ML ret] R) (fun a U => a = as' ∧ Z.Warmed39 U.vm ∧ U.heap = h0) (fun _ _ _ _ _ => True) (fun _ U o U' => ∃ v L, o = .returned v ∧ Q v U'.heap L ∧ FrameEnd U o U' L R.cells R.slots)
theorem own_bd {l : Launch} {y : MethodName} {bytes : ByteArray} {ML : Nat} {ret : Option FieldType} {R : Room} {as' : Array Value} {Z : State} {h0 : Heap} {Q : Option Value → Heap → List Loc → Prop} {own : String} (ho : y.cls = own) (hpl : plainFor y = true) (Ls : Array Slot)
  (k : ∀ (p : Program) (e : Env) (s : State) (m : MethodId) (below : List Frame) (meth : Method) (c : Code) (s₁ : State), p.tables.exec = Jvm.exec → c.code = bytes → (p.tables.exec = Jvm.exec ∧ c.code = bytes) → c.maxLocals = ML → s.vm.findClass own = some m.cls → meth.name = y.name → meth.locks = false → meth.sig.returnType = ret → Z.Warmed39 s.vm → Stand p l e R s m as' below meth c s₁ [] 0 0 → s₁.heap = h0 → own_Go p.tables e below (own_P s Q R) (s₁.setTop (mkF m 0 Ls []))) (hef : ∀ m : MethodId, entryFrame m as' ML = mkF m 0 Ls [] := by intro m; first | (simp [entryFrame, mkF, argsToLocals, Value.category]; done) | rfl) : own_Met l y bytes ML ret R as' Z h0 Q := by
 refine MetFree.of_bodySF hpl hisR ?_
 intro p e s m args below meth c s₁ Bd hml hP hK
 obtain ⟨rfl, hZ, hh⟩ := hP
 have hlk : meth.locks = false := BodyLoose.notSynchronized (by assumption)
 have X0 : Stand p l e R s m _ below meth c s₁ [] 0 0 := Stand.of_body Bd
 have e0 : s₁.heap = h0 := by rw [← hh, Bd.state]; rfl
 have g := k p e s m below meth c s₁ Bd.exec Bd.bytes ⟨Bd.exec, Bd.bytes⟩ hml (by rw [← ho]; exact findClass_of_methodNamed Bd.named) (name_of_methodNamed Bd.named Bd.method).1 hlk Bd.returns hZ X0 e0
 exact own_st (fun t k => castTop (hef m) k) g
variable {l : Launch} {Z : State} {a0 : Array Value}
section Sm
variable {p : Program} {l : Launch} {e : Env} {R : Room} {s : State} {m : MethodId} {args : Array Value} {below : List Frame} {meth : Method} {c : Code} {T : State} {locs : List Loc} {cells slots : Nat} {P : Outcome → State → Prop} {pc : Nat} {Ls : Array Slot} {st : List Value}
theorem o_dload (X : Stand p l e R s m args below meth c T locs cells slots) {cb : ByteArray} (hq : p.tables.exec = Jvm.exec ∧ c.code = cb) {k : Nat} {v : UInt64} (hd : decode cb pc = .ok (.dload k, 2)) (hl : Ls[k]? = some (.val (.double v))) (g : own_Go p.tables e below P (T.setTop (mkF m (pc + 2) Ls (.double v :: st)))) : own_Go p.tables e below P (T.setTop (mkF m pc Ls st)) := own_st (fun t k => Jvm.Free.XS.dload X.here hq.1 rfl (hb hq.2 hd) hl k) g
theorem o_dstore (X : Stand p l e R s m args below meth c T locs cells slots) {cb : ByteArray} (hq : p.tables.exec = Jvm.exec ∧ c.code = cb) {k : Nat} {v : UInt64} {l' : Array Slot} (hd : decode cb pc = .ok (.dstore k, 2)) (hl : storeLocals Ls k (.double v) = some l') (g : own_Go p.tables e below P (T.setTop (mkF m (pc + 2) l' st))) : own_Go p.tables e below P (T.setTop (mkF m pc Ls (.double v :: st))) := own_st (fun t k => Jvm.Free.XS.dstore X.here hq.1 rfl (hb hq.2 hd) rfl hl k) g
theorem o_dconst1 (X : Stand p l e R s m args below meth c T locs cells slots) {cb : ByteArray} (hq : p.tables.exec = Jvm.exec ∧ c.code = cb) (hd : decode cb pc = .ok (.dconst 1, 1)) (g : own_Go p.tables e below P (T.setTop (mkF m (pc + 1) Ls (.double FP.dconst1 :: st)))) : own_Go p.tables e below P (T.setTop (mkF m pc Ls st)) := own_st (fun t k => Jvm.Free.XS.dconst1 X.here hq.1 rfl (hb hq.2 hd) rfl k) g
theorem o_i2d (X : Stand p l e R s m args below meth c T locs cells slots) {cb : ByteArray} (hq : p.tables.exec = Jvm.exec ∧ c.code = cb) {x : Int32} (hd : decode cb pc = .ok (.i2d, 1)) (g : own_Go p.tables e below P (T.setTop (mkF m (pc + 1) Ls (.double (FP.i2d x) :: st)))) : own_Go p.tables e below P (T.setTop (mkF m pc Ls (.int x :: st))) := own_st (fun t k => Jvm.Free.XS.i2dS X.here hq.1 rfl (hb hq.2 hd) rfl rfl k) g
theorem o_l2d (X : Stand p l e R s m args below meth c T locs cells slots) {cb : ByteArray} (hq : p.tables.exec = Jvm.exec ∧ c.code = cb) {x : Int64} (hd : decode cb pc = .ok (.l2d, 1)) (g : own_Go p.tables e below P (T.setTop (mkF m (pc + 1) Ls (.double (FP.l2d x) :: st)))) : own_Go p.tables e below P (T.setTop (mkF m pc Ls (.long x :: st))) := own_st (fun t k => Jvm.Free.XS.l2dS X.here hq.1 rfl (hb hq.2 hd) rfl rfl k) g
theorem o_dadd (X : Stand p l e R s m args below meth c T locs cells slots) {cb : ByteArray} (hq : p.tables.exec = Jvm.exec ∧ c.code = cb) {x y : UInt64} (hd : decode cb pc = .ok (.dadd, 1)) (hn : Jvm.Free.Fl.NoNaN64 (FP.dadd x y)) (g : own_Go p.tables e below P (T.setTop (mkF m (pc + 1) Ls (.double (FP.dadd x y) :: st)))) : own_Go p.tables e below P (T.setTop (mkF m pc Ls (.double y :: .double x :: st))) := own_st (fun t k => Jvm.Free.XS.daddS X.here hq.1 rfl (hb hq.2 hd) rfl hn rfl k) g
theorem o_ddiv (X : Stand p l e R s m args below meth c T locs cells slots) {cb : ByteArray} (hq : p.tables.exec = Jvm.exec ∧ c.code = cb) {x y : UInt64} (hd : decode cb pc = .ok (.ddiv, 1)) (hn : Jvm.Free.Fl.NoNaN64 (FP.ddiv x y)) (g : own_Go p.tables e below P (T.setTop (mkF m (pc + 1) Ls (.double (FP.ddiv x y) :: st)))) : own_Go p.tables e below P (T.setTop (mkF m pc Ls (.double y :: .double x :: st))) := own_st (fun t k => Jvm.Free.XS.ddivS X.here hq.1 rfl (hb hq.2 hd) rfl hn rfl k) g
theorem o_dcmp (X : Stand p l e R s m args below meth c T locs cells slots) {cb : ByteArray} (hq : p.tables.exec = Jvm.exec ∧ c.code = cb) {x y : UInt64} {o : CmpOp} (hd : decode cb pc = .ok (.dcmp o, 1)) (g : own_Go p.tables e below P (T.setTop (mkF m (pc + 1) Ls (.int (cmpValue (FP.dcmp x y) o) :: st)))) : own_Go p.tables e below P (T.setTop (mkF m pc Ls (.double y :: .double x :: st))) := own_st (fun t k => Jvm.Free.XS.dcmpS X.here hq.1 rfl (hb hq.2 hd) rfl rfl k) g
theorem o_ldc2d (X : Stand p l e R s m args below meth c T locs cells slots) {cb : ByteArray} (hq : p.tables.exec = Jvm.exec ∧ c.code = cb) {own : String} {index : Nat} {v : UInt64} (hown : s.vm.findClass own = some m.cls) (hd : decode cb pc = .ok (.ldc2_w index, 3)) (hk : (Jvm.Cond.constantDouble own index v).before args s = true) (g : own_Go p.tables e below P (T.setTop (mkF m (pc + 3) Ls (.double v :: st)))) : own_Go p.tables e below P (T.setTop (mkF m pc Ls st)) := own_st (X.ldc2DoubleC hq.1 hown hk (g := mkF m pc Ls st) rfl (hb hq.2 hd)) g
end Sm
section Fl
open Jvm.FP.Core
def own_h : Nat := 2 ^ 1057
theorem own_hd : (2 : Nat) ^ 1057 = own_h := rfl
theorem own_one : one64 = 131072 * own_h := by
 show 2 ^ (17 + 1057) = 131072 * 2 ^ 1057
 rw [Nat.pow_add]
theorem own_hpos : 0 < own_h := Nat.two_pow_pos _
abbrev own_R (D : Int) (N : Nat) : Datum := roundRatio b64 (decide (D < 0)) D.natAbs N 0
/-- a quotient of two whole numbers -/
theorem own_quo {D : Int} {N : Nat} {X Y : Datum} {s : Bool} {c d : Nat} {q r : Int} (hX : X = .fin s c q) (hY : Y = .fin false d r) (wX : Whole D X) (wY : Whole (N : Int) Y) (hN : 0 < N) (hs : s = decide (D < 0)) : quotient b64 X Y = own_R D N := by
 subst hX hY hs
 have a := whole_natAbs wX
 have b := whole_natAbs wY
 have d0 : d ≠ 0 := fun h => by have := (whole_zero wY).mp h; omega
 show (if d = 0 then _ else roundRatio b64 (decide (D < 0) != false) c d (q - r)) = _
 rw [if_neg d0, Bool.bne_false]
 refine roundRatio_congr (Nat.pos_of_ne_zero d0) hN ?_
 rw [Int.natAbs_natCast] at b
 have e1 : (q - r - 0).toNat + (q.toNat + (-r).toNat - (q - r - 0).toNat) = q.toNat + (-r).toNat := by omega
 have e2 : (0 - (q - r)).toNat + (q.toNat + (-r).toNat - (q - r - 0).toNat) = (-q).toNat + r.toNat := by omega
 refine Nat.eq_of_mul_eq_mul_right (Nat.two_pow_pos (q.toNat + (-r).toNat - (q - r - 0).toNat)) ?_
 rw [Nat.mul_assoc (c * N), Nat.mul_assoc (D.natAbs * d), ← Nat.pow_add, ← Nat.pow_add, e1, e2, Nat.pow_add, Nat.pow_add]
 calc c * N * (2 ^ q.toNat * 2 ^ (-r).toNat) = (c * 2 ^ q.toNat) * (N * 2 ^ (-r).toNat) := by ac_rfl
  _ = (D.natAbs * 2 ^ (-q).toNat) * (d * 2 ^ r.toNat) := by rw [a, ← b]
  _ = D.natAbs * d * (2 ^ (-q).toNat * 2 ^ r.toNat) := by ac_rfl
theorem own_fin {D : Int} {N : Nat} (hN : 0 < N) (hD : D.natAbs ≤ 4294967296 * N) : ∃ c q, own_R D N = .fin (decide (D < 0)) c q := by
 rcases roundRatio_cases b64 (decide (D < 0)) D.natAbs N 0 with h | h
 ·exact h
 ·exfalso
  have w := l2d_int (a := (4294967296 : Int64)) (by decide)
  have z := DInt_zval w
  have k := zmag_roundRatio_le (s := decide (D < 0)) (A := D.natAbs) (e := 0) (e0 := b64.qmin) good_b64 hN (val64_fits (l2d 4294967296)) (DInt_ne_nan w) (Int.le_refl _) (by decide) (by
   have zm : zmag b64 (val64 (l2d 4294967296)) = 4294967296 * one64 := by
    have := congrArg Int.natAbs z
    unfold zval at this
    rw [natAbs_signed, Int.natAbs_mul, Int.natAbs_natCast] at this
    exact this
   rw [zm, Int.sub_self]
   show D.natAbs * 2 ^ (0 - b64.qmin).toNat ≤ 4294967296 * one64 * 1 * N
   rw [Int.zero_sub, pow_qmin64, Nat.mul_one, Nat.mul_right_comm]
   exact Nat.mul_le_mul_right _ hD)
  rw [h] at k
  have zm : zmag b64 (val64 (l2d 4294967296)) = 4294967296 * one64 := by
   have := congrArg Int.natAbs z
   unfold zval at this
   rw [natAbs_signed, Int.natAbs_mul, Int.natAbs_natCast] at this
   exact this
  rw [zm, show zmag b64 (Datum.inf (decide (D < 0))) = b64.tails * 2 ^ (b64.exps - 2) from rfl] at k
  exact absurd k (by decide +kernel)
/-- the rounded quotient against a multiple of 2^-17 -/
theorem own_cmp {D M : Int} {N : Nat} (hN : 0 < N) (hD : D.natAbs ≤ 4294967296 * N) (hM : M.natAbs < 9007199254740992) (hs : (0 ≤ D ∧ 0 ≤ M) ∨ (D < 0 ∧ M ≤ 0)) :
  (M * N ≤ 131072 * D → M * own_h ≤ zval b64 (own_R D N)) ∧ (131072 * D ≤ M * N → zval b64 (own_R D N) ≤ M * own_h) := by
 obtain ⟨c, q, h⟩ := own_fin hN hD
 have hp : (9007199254740992 : Nat) = 2 ^ b64.p := by decide
 have k := roundRatio_nearest (c' := M.natAbs) (q' := -17) (e0 := b64.qmin) good_b64 hN h (by rw [← hp]; exact hM) (by decide) (Int.le_refl _) (by decide)
 have z : zval b64 (own_R D N) = signed (decide (D < 0)) (inUnits c q b64.qmin) := by
  rw [h]; rfl
 rw [z]
 unfold distance at k
 generalize inUnits c q b64.qmin = W at *
 unfold inUnits at k
 rw [show (0 - b64.qmin).toNat = 1074 by decide, show (-17 - b64.qmin).toNat = 1057 by decide, show (2 : Nat) ^ 1074 = 131072 * own_h from own_one, own_hd] at k
 have hh : (0 : Int) < (own_h : Int) := by exact_mod_cast own_hpos
 have hN' : (0 : Int) < (N : Int) := by omega
 rw [Int.natCast_mul, Int.natCast_mul, Int.natCast_mul] at k
 generalize (own_h : Int) = H at *
 generalize (N : Int) = n at *
 have e1 : ((131072 : Nat) : Int) = 131072 := rfl
 rw [e1] at k
 rcases hs with ⟨d0, m0⟩ | ⟨d0, m0⟩
 ·have ea : (D.natAbs : Int) = D := by omega
  have em : (M.natAbs : Int) = M := by omega
  rw [ea, em] at k
  have es : signed (decide (D < 0)) W = (W : Int) := by rw [show decide (D < 0) = false by simp; omega]; rfl
  rw [es]
  generalize (W : Int) = w at *
  have ex : D * (131072 * H) = (131072 * D) * H := by rw [← Int.mul_assoc, Int.mul_comm D 131072]
  have ey : M * H * n = (M * n) * H := by rw [Int.mul_right_comm]
  rw [ex, ey] at k
  constructor
  ·intro g
   have g' : (M * n) * H ≤ (131072 * D) * H := Int.mul_le_mul_of_nonneg_right g (Int.le_of_lt hh)
   refine Int.le_of_mul_le_mul_right ?_ hN'
   rw [ey]
   generalize (M * n) * H = a at *
   generalize (131072 * D) * H = b at *
   generalize w * n = x at *
   omega
  ·intro g
   have g' : (131072 * D) * H ≤ (M * n) * H := Int.mul_le_mul_of_nonneg_right g (Int.le_of_lt hh)
   refine Int.le_of_mul_le_mul_right ?_ hN'
   rw [ey]
   generalize (M * n) * H = a at *
   generalize (131072 * D) * H = b at *
   generalize w * n = x at *
   omega
 ·have ea : (D.natAbs : Int) = -D := by omega
  have em : (M.natAbs : Int) = -M := by omega
  rw [ea, em] at k
  have es : signed (decide (D < 0)) W = -(W : Int) := by rw [show decide (D < 0) = true by simp; omega]; rfl
  rw [es]
  generalize (W : Int) = w at *
  have ex : -D * (131072 * H) = -((131072 * D) * H) := by rw [← Int.mul_assoc, Int.mul_comm (-D) 131072, Int.mul_neg, Int.neg_mul]
  have ey : -M * H * n = -((M * n) * H) := by rw [Int.mul_right_comm, Int.neg_mul, Int.neg_mul]
  have ey' : M * H * n = (M * n) * H := by rw [Int.mul_right_comm]
  rw [ex, ey] at k
  constructor
  ·intro g
   have g' : (M * n) * H ≤ (131072 * D) * H := Int.mul_le_mul_of_nonneg_right g (Int.le_of_lt hh)
   refine Int.le_of_mul_le_mul_right ?_ hN'
   rw [ey', Int.neg_mul]
   generalize (M * n) * H = a at *
   generalize (131072 * D) * H = b at *
   generalize w * n = x at *
   omega
  ·intro g
   have g' : (131072 * D) * H ≤ (M * n) * H := Int.mul_le_mul_of_nonneg_right g (Int.le_of_lt hh)
   refine Int.le_of_mul_le_mul_right ?_ hN'
   rw [ey', Int.neg_mul]
   generalize (M * n) * H = a at *
   generalize (131072 * D) * H = b at *
   generalize w * n = x at *
   omega
/-- the quotient that bytesPerElement takes -/
theorem own_val {d : Int64} {n : Int32} (hd : d.toInt.natAbs ≤ 9007199254740992) (hn : 0 < n.toInt) : val64 (FP.ddiv (FP.l2d d) (FP.i2d n)) = own_R d.toInt n.toInt.toNat := by
 show val64 (ddiv (l2d d) (i2d n)) = _
 rw [val64_ddiv]
 obtain ⟨c, q, h1⟩ := l2d_shape d
 rw [i2d_l2d]
 obtain ⟨c', q', h2⟩ := l2d_shape n.toInt64
 have w1 : Whole d.toInt (val64 (l2d d)) := l2d_int (show _ ≤ 2 ^ 53 from hd)
 have w2 : Whole n.toInt64.toInt (val64 (l2d n.toInt64)) := l2d_int (show _ ≤ 2 ^ 53 by rw [Int32.toInt_toInt64]; have := n.toInt_lt; omega)
 rw [Int32.toInt_toInt64] at w2 h2
 rw [show decide (n.toInt < 0) = false by simp; omega] at h2
 exact own_quo h1 h2 w1 (by rw [show ((n.toInt.toNat : Nat) : Int) = n.toInt by omega]; exact w2) (by omega) rfl
section B
variable {q n r : Int32} {d : Int64}
/-- the law's figures -/
def own_fig (q n r : Int32) (d : Int64) : Prop := d.toInt = q.toInt * n.toInt + r.toInt ∧ 1 ≤ n.toInt ∧ n.toInt ≤ 65536 ∧ 0 ≤ r.toInt ∧ r.toInt < n.toInt
abbrev own_b (n : Int32) (d : Int64) : UInt64 := FP.ddiv (FP.l2d d) (FP.i2d n)
theorem own_dq (F : own_fig q n r d) : -2147483648 * n.toInt ≤ d.toInt ∧ d.toInt ≤ 2147483647 * n.toInt + n.toInt := by
 obtain ⟨h1, h2, h3, h4, h5⟩ := F
 have b1 := q.toInt_lt; have b2 := q.le_toInt
 have a1 : -2147483648 * n.toInt ≤ q.toInt * n.toInt := Int.mul_le_mul_of_nonneg_right (by omega) (by omega)
 have a2 : q.toInt * n.toInt ≤ 2147483647 * n.toInt := Int.mul_le_mul_of_nonneg_right (by omega) (by omega)
 omega
theorem own_small (F : own_fig q n r d) : d.toInt.natAbs ≤ 9007199254740992 := by
 have a := own_dq F; have h3 := F.2.2.1; have h2 := F.2.1; omega
theorem own_z (F : own_fig q n r d) (M : Int) (hM : M.natAbs < 9007199254740992) (hs : (0 ≤ d.toInt ∧ 0 ≤ M) ∨ (d.toInt < 0 ∧ M ≤ 0)) :
  (M * n.toInt ≤ 131072 * d.toInt → M * own_h ≤ zval b64 (val64 (own_b n d))) ∧ (131072 * d.toInt ≤ M * n.toInt → zval b64 (val64 (own_b n d)) ≤ M * own_h) := by
 have h2 := F.2.1
 have e : ((n.toInt.toNat : Nat) : Int) = n.toInt := by omega
 have a := own_dq F
 rw [own_val (own_small F) (by omega)]
 have k := own_cmp (D := d.toInt) (M := M) (N := n.toInt.toNat) (by omega) (by omega) hM hs
 rw [e] at k
 exact k
theorem own_sg (F : own_fig q n r d) : (0 ≤ q.toInt ∧ 0 ≤ d.toInt) ∨ (q.toInt ≤ -1 ∧ d.toInt < 0) := by
 obtain ⟨h1, h2, h3, h4, h5⟩ := F
 by_cases s : 0 ≤ q.toInt
 ·have := Int.mul_nonneg s (show 0 ≤ n.toInt by omega)
  exact Or.inl ⟨s, by omega⟩
 ·have a : q.toInt * n.toInt ≤ -1 * n.toInt := Int.mul_le_mul_of_nonneg_right (by omega) (by omega)
  exact Or.inr ⟨by omega, by omega⟩
theorem own_qb (q : Int32) : -2147483648 ≤ q.toInt ∧ q.toInt < 2147483648 := ⟨q.le_toInt, q.toInt_lt⟩
theorem own_zq (q : Int32) : zval b64 (val64 (FP.i2d q)) = (131072 * q.toInt) * own_h := by
 have := DInt_zval (i2d_int q)
 rw [own_one] at this
 show zval b64 (val64 (i2d q)) = _
 rw [this, Int.natCast_mul, ← Int.mul_assoc, Int.mul_comm q.toInt]; rfl
theorem own_lin (a b c : Int) : (131072 * a + c) * b = 131072 * (a * b) + c * b := by rw [Int.add_mul, Int.mul_assoc]
/-- r = 0 -/
theorem own_e0 (F : own_fig q n r d) (hr : r.toInt = 0) : zval b64 (val64 (own_b n d)) = (131072 * q.toInt) * own_h := by
 have s := own_sg F; have qb := own_qb q
 have k := own_z F (131072 * q.toInt) (by omega) (by omega)
 have l := own_lin q.toInt n.toInt 0
 have h1 := F.1
 rw [Int.add_zero, Int.zero_mul, Int.add_zero] at l
 rw [l] at k
 exact Int.le_antisymm (k.2 (by omega)) (k.1 (by omega))
theorem own_lo (F : own_fig q n r d) (hr : 0 < r.toInt) : (131072 * q.toInt + 1) * own_h ≤ zval b64 (val64 (own_b n d)) := by
 have s := own_sg F; have qb := own_qb q
 have k := own_z F (131072 * q.toInt + 1) (by omega) (by omega)
 have l := own_lin q.toInt n.toInt 1
 obtain ⟨h1, h2, h3, h4, h5⟩ := F
 rw [l, Int.one_mul] at k
 exact k.1 (by omega)
theorem own_hi (F : own_fig q n r d) : zval b64 (val64 (own_b n d)) ≤ (131072 * q.toInt + 131071) * own_h := by
 have s := own_sg F; have qb := own_qb q
 have k := own_z F (131072 * q.toInt + 131071) (by omega) (by omega)
 have l := own_lin q.toInt n.toInt 131071
 obtain ⟨h1, h2, h3, h4, h5⟩ := F
 rw [l] at k
 exact k.2 (by omega)
theorem own_mid (F : own_fig q n r d) (hr : 2 * r.toInt = n.toInt) : zval b64 (val64 (own_b n d)) = (131072 * q.toInt + 65536) * own_h := by
 have s := own_sg F; have qb := own_qb q
 have k := own_z F (131072 * q.toInt + 65536) (by omega) (by omega)
 have l := own_lin q.toInt n.toInt 65536
 obtain ⟨h1, h2, h3, h4, h5⟩ := F
 rw [l] at k
 exact Int.le_antisymm (k.2 (by omega)) (k.1 (by omega))
end B
end Fl
section K
open Jvm.FP.Core
variable {q n r : Int32} {d : Int64}
abbrev own_half : UInt64 := 4602678819172646912
theorem own_bn (F : own_fig q n r d) : val64 (own_b n d) ≠ .nan := by
 have h2 := F.2.1
 rw [own_val (own_small F) (by omega)]
 exact roundRatio_ne_nan _ _ _ _ _
theorem own_qn (q : Int32) : val64 (FP.i2d q) ≠ .nan := DInt_ne_nan (i2d_int q)
theorem own_d1 : DInt 1 FP.dconst1 := by
 show Whole 1 (val64 dconst1)
 rw [val64_dconst1]
 show signed false (2 ^ 52 * 2 ^ (-52 : Int).toNat) = 1 * ((2 ^ (-(-52 : Int)).toNat : Nat) : Int)
 decide +kernel
theorem own_q1 (q : Int32) : DInt (q.toInt + 1) (FP.dadd (FP.i2d q) FP.dconst1) := dadd_int (i2d_int q) own_d1 (show _ ≤ 2 ^ 53 by have := own_qb q; omega)
theorem own_zq1 (q : Int32) : zval b64 (val64 (FP.dadd (FP.i2d q) FP.dconst1)) = (131072 * q.toInt + 131072) * own_h := by
 rw [DInt_zval (own_q1 q), own_one, Int.natCast_mul, ← Int.mul_assoc]
 congr 1
 show (q.toInt + 1) * 131072 = _
 omega
theorem own_hf : DFin own_half := ⟨false, 2 ^ 52, -53, by decide +kernel⟩
theorem own_zh : zval b64 (val64 own_half) = 65536 * own_h := by decide +kernel
theorem own_hn (F : own_fig q n r d) (hr : 2 * r.toInt = n.toInt) : val64 (FP.dadd (FP.i2d q) own_half) ≠ .nan ∧ zval b64 (val64 (FP.dadd (FP.i2d q) own_half)) = zval b64 (val64 (own_b n d)) := by
 have e : zval b64 (val64 (FP.i2d q)) + zval b64 (val64 own_half) = zval b64 (val64 (own_b n d)) := by
  rw [own_zq, own_zh, own_mid F hr, ← Int.add_mul]
 constructor
 ·show val64 (dadd (i2d q) own_half) ≠ .nan
  rw [val64_dadd]
  obtain ⟨s, c, p, h⟩ := i2d_fin q
  obtain ⟨s', c', p', h'⟩ := own_hf
  rw [h, h']
  exact roundRatio_ne_nan _ _ _ _ _
 ·show zval b64 (val64 (dadd (i2d q) own_half)) = _
  rw [val64_dadd]
  exact Int.le_antisymm (sum_le good_b64 (i2d_fin q) own_hf (val64_fits _) (val64_fits _) (val64_fits _) (own_bn F) (Int.le_of_eq e)) (sum_ge good_b64 (i2d_fin q) own_hf (val64_fits _) (val64_fits _) (val64_fits _) (own_bn F) (Int.le_of_eq e.symm))
theorem own_ceq {a b : UInt64} (ha : val64 a ≠ .nan) (hb : val64 b ≠ .nan) (h : zval b64 (val64 a) = zval b64 (val64 b)) : cmpValue (FP.dcmp a b) .l = (0 : Int32) := by
 have k : FP.dcmp a b = some .eq := by
  show dcmp a b = _
  rw [dcmp_zval ha hb, h, compare_ite, if_neg (Int.lt_irrefl _), if_pos rfl]
 rw [k]; rfl
theorem own_clt {a b : UInt64} (ha : val64 a ≠ .nan) (hb : val64 b ≠ .nan) (h : zval b64 (val64 a) < zval b64 (val64 b)) : cmpValue (FP.dcmp a b) .g < (0 : Int32) := by
 have k : FP.dcmp a b = some .lt := by
  show dcmp a b = _
  rw [dcmp_zval ha hb, compare_ite, if_pos h]
 rw [k]; decide
theorem own_k1 (F : own_fig q n r d) (hr : r = (0 : Int32)) : cmpValue (FP.dcmp (own_b n d) (FP.i2d q)) .l = (0 : Int32) := own_ceq (own_bn F) (own_qn q) (by rw [own_e0 F (by rw [hr]; rfl), own_zq])
theorem own_mlt {a b : Int} (h : a < b) : a * own_h < b * own_h := Int.mul_lt_mul_of_pos_right h (Int.ofNat_lt.mpr own_hpos)
theorem own_k2 (F : own_fig q n r d) (hr : ¬ r = (0 : Int32)) : cmpValue (FP.dcmp (FP.i2d q) (own_b n d)) .g < (0 : Int32) := own_clt (own_qn q) (own_bn F) (by
 have p : 0 < r.toInt := by
  have h4 := F.2.2.2.1
  have : r.toInt ≠ 0 := fun h => hr (Int32.toInt_inj.mp h)
  omega
 rw [own_zq]
 exact Int.lt_of_lt_of_le (own_mlt (by omega)) (own_lo F p))
theorem own_k3 (F : own_fig q n r d) : cmpValue (FP.dcmp (own_b n d) (FP.dadd (FP.i2d q) FP.dconst1)) .g < (0 : Int32) := own_clt (own_bn F) (DInt_ne_nan (own_q1 q)) (by
 rw [own_zq1]
 exact Int.lt_of_le_of_lt (own_hi F) (own_mlt (by omega)))
theorem own_2r (F : own_fig q n r d) (h : (2 : Int32) * r = n) : 2 * r.toInt = n.toInt := by
 have m := c_imul (2 : Int32) r
 have e : (2 : Int32).toInt = 2 := rfl
 rw [h, e] at m
 obtain ⟨h1, h2, h3, h4, h5⟩ := F
 omega
theorem own_k4 (F : own_fig q n r d) (h : (2 : Int32) * r = n) : cmpValue (FP.dcmp (own_b n d) (FP.dadd (FP.i2d q) own_half)) .l = (0 : Int32) :=
 own_ceq (own_bn F) (own_hn F (own_2r F h)).1 (own_hn F (own_2r F h)).2.symm
theorem own_nan1 (q : Int32) : Jvm.Free.Fl.NoNaN64 (FP.dadd (FP.i2d q) FP.dconst1) := Jvm.Free.Fl.noNaN64_no.mpr ((notNaN_iff _).mpr (DInt_ne_nan (own_q1 q)))
theorem own_nan2 (q : Int32) : Jvm.Free.Fl.NoNaN64 (FP.dadd (FP.i2d q) own_half) := Jvm.Free.Fl.dadd_out (Jvm.Free.Fl.i2d_fin q).noNaN (Jvm.Free.Fl.fin64_core.mpr own_hf)
theorem own_nanb (F : own_fig q n r d) : Jvm.Free.Fl.NoNaN64 (own_b n d) := Jvm.Free.Fl.noNaN64_no.mpr ((notNaN_iff _).mpr (own_bn F))
theorem own_nF {x n : Int32} (h : (x &&& (65535 : Int32)) + (1 : Int32) = n) : 1 ≤ n.toInt ∧ n.toInt ≤ 65536 := by
 have a := c_and x (65535 : Int32) (by decide)
 have e : (65535 : Int32).toInt = 65535 := rfl
 have i := c_iadd (x &&& (65535 : Int32)) (1 : Int32)
 have e1 : (1 : Int32).toInt = 1 := rfl
 have b1 := n.toInt_lt; have b2 := n.le_toInt
 rw [h] at i
 omega
theorem own_rA {x n r : Int32} (hn : 1 ≤ n.toInt ∧ n.toInt ≤ 65536) (h : ((x &&& (2147483647 : Int32)) - (x &&& (2147483647 : Int32)) / n * n) = r) : 0 ≤ r.toInt ∧ r.toInt < n.toInt := by
 have a := c_and x (2147483647 : Int32) (by decide)
 rw [irem_eq_mod] at h
 have i := (c_irem (x &&& (2147483647 : Int32)) n n.toInt rfl).1 (by omega)
 rw [h] at i
 have m1 := Int.emod_nonneg (x &&& (2147483647 : Int32)).toInt (show n.toInt ≠ 0 by omega)
 have m2 := Int.emod_lt_of_pos (x &&& (2147483647 : Int32)).toInt (show 0 < n.toInt by omega)
 omega
theorem own_rB {n r : Int32} (hn : 1 ≤ n.toInt ∧ n.toInt ≤ 65536) (h : n / (2 : Int32) = r) : 0 ≤ r.toInt ∧ r.toInt < n.toInt := by
 have i := (c_idiv n (2 : Int32) 2 rfl (by decide)).1 (by omega)
 rw [h] at i
 omega
theorem own_nz {n : Int32} (hn : 1 ≤ n.toInt ∧ n.toInt ≤ 65536) : n ≠ 0 := fun h => by rw [h] at hn; have e : (0 : Int32).toInt = 0 := rfl; omega
theorem own_figI {p1 n r : Int32} {E : Int64} (hn : 1 ≤ n.toInt ∧ n.toInt ≤ 65536) (hr : 0 ≤ r.toInt ∧ r.toInt < n.toInt) : own_fig p1 n r ((E + (((p1.toInt64) * (n.toInt64)) + (r.toInt64))) - E) := by
 have e : (E + (((p1.toInt64) * (n.toInt64)) + (r.toInt64))) - E = ((p1.toInt64) * (n.toInt64)) + (r.toInt64) := by rw [Int64.add_comm, Int64.add_sub_cancel]
 rw [e]
 have qb := own_qb p1
 have a1 : -2147483648 * n.toInt ≤ p1.toInt * n.toInt := Int.mul_le_mul_of_nonneg_right (by omega) (by omega)
 have a2 : p1.toInt * n.toInt ≤ 2147483647 * n.toInt := Int.mul_le_mul_of_nonneg_right (by omega) (by omega)
 have m : ((p1.toInt64) * (n.toInt64)).toInt = p1.toInt * n.toInt := by
  rw [int64_mul] <;> rw [Int32.toInt_toInt64, Int32.toInt_toInt64] <;> omega
 refine ⟨?_, hn.1, hn.2, hr.1, hr.2⟩
 rw [int64_add] <;> rw [m, Int32.toInt_toInt64] <;> omega
end K

theorem pn_2 : plainName "java/lang/Record" = true := by first | (simp [plainName, overriddenIn]; done) | decide +kernel
abbrev D2 := decode jdk_30_method_1_code
theorem d2_0 : D2 0 = .ok (.aload_n 0, 1) := by decide +kernel
theorem d2_1 : D2 1 = .ok (.invokespecial 1, 3) := by decide +kernel
theorem d2_4 : D2 4 = .ok (.return_, 1) := by decide +kernel
section Sm
variable {p : Program} {l : Launch} {e : Env} {R : Room} {s : State} {m : MethodId} {args : Array Value} {below : List Frame} {meth : Method} {c : Code} {T : State} {locs : List Loc} {cells slots : Nat} {P : Outcome → State → Prop} {pc : Nat} {Ls : Array Slot} {st : List Value}
theorem e_V (X : Stand p l e R s m args below meth c T locs cells slots) {h : Heap} (eT : T.heap = h) {cb : ByteArray} (hq : p.tables.exec = Jvm.exec ∧ c.code = cb) (hlk : meth.locks = false) (hrt : meth.sig.returnType = none) (hd : decode cb pc = .ok (.return_, 1)) {Q : Option Value → Heap → List Loc → Prop} (hQ : Q none h locs) (hcs : cells ≤ R.cells ∧ slots ≤ R.slots := by decide) :
  own_Go p.tables e below (own_P s Q R) (T.setTop (mkF m pc Ls [])) := own_end X eT (v := none) (fun _ => rfl) hlk (fun fs hr => X.returnOut hq.1 hrt (hb hq.2 hd) hr) (Q := Q) hQ hcs.1 hcs.2
end Sm
def Q_rm2 (Z : State) (a0 : Array Value) (a1 : Addr) (h0 : Heap) (n0 : Nat) (v : Option Value) (h : Heap) (L : List Loc) : Prop := v = none ∧ Fr n0 L ∧ h = h0
theorem rm2 (hw : HW a0 Z) (a1 : Addr) (h0 : Heap) (n0 : Nat) (Z0 : n0 ≤ h0.size) :
  own_Met l y0_ jdk_30_method_1_code 1 none (R_ 1 0 0 12) #[(.ref a1)] Z h0 (Q_rm2 Z a0 a1 h0 n0) := by
 refine own_bd (own := "java/lang/Record") rfl (plainFor_of_name pn_2) #[rv a1] ?_
 intro p e s m below meth c s₁ hx hby Hq hml hown hnm hlk hrt hZ X0 e0
 refine o_aloadN X0 Hq d2_0 rfl rfl ?_
 obtain ⟨T_1, X_1, e_1, st_1⟩ := initO X0 hx hZ hown (w_ hw 14 rfl) (w_ hw 15 rfl) (w_ hw 16 rfl) e0 (g := (mkF m 1 #[rv a1] [(.ref a1)])) rfl (by rw [hml]; rfl) rfl (hb hby d2_1) (by decide) (W := 0) (z_ rfl) (by decide)
 refine own_st st_1 ?_
 show own_Go _ _ _ _ (T_1.setTop (mkF m 4 #[rv a1] []))
 exact e_V X_1 e_1 Hq hlk hrt d2_4 ⟨rfl, (Fr.nil n0), rfl⟩
theorem pn_1 : plainName "headway/bench/Footprint$Measurement" = true := by first | (simp [plainName, overriddenIn]; done) | decide +kernel
abbrev D1 := decode prog_14_method_1_code
theorem d1_0 : D1 0 = .ok (.aload_n 0, 1) := by decide +kernel
theorem d1_1 : D1 1 = .ok (.invokespecial 1, 3) := by decide +kernel
theorem pd_1 : parseMethodDescriptor "()V" = some ⟨[], none⟩ := by decide +kernel
def own_KI (a0 : Array Value) (Z : State) (own C : String) (index : Nat) (y z : MethodName) (bytes : ByteArray) (maxL : Nat) (ret : Option FieldType) (k : Nat) : Prop := ((Jvm.Cond.methodLink own index y).before a0 Z = true ∧ (∃ ps r, parseMethodDescriptor y.desc = some ⟨ps, r⟩ ∧ k = ps.length) ∧ (y.cls ≠ "java/lang/invoke/MethodHandle" ∧ y.cls ≠ "java/lang/invoke/VarHandle")) ∧ y.name = "<init>" ∧ (Jvm.Cond.instanceMethod y).before a0 Z = true ∧ (Jvm.Cond.initialized y.cls).before a0 Z = true ∧ (Jvm.Cond.code y bytes maxL none).before a0 Z = true
section Sm
variable {p : Program} {l : Launch} {e : Env} {R : Room} {s : State} {m : MethodId} {args : Array Value} {below : List Frame} {meth : Method} {c : Code} {T : State} {locs : List Loc} {cells slots : Nat} {P : Outcome → State → Prop} {pc : Nat} {Ls : Array Slot} {st : List Value}
theorem c_I0v (X : Stand p l e R s m args below meth c T locs cells slots) {cb : ByteArray} (hq : p.tables.exec = Jvm.exec ∧ c.code = cb) {Z : State} {a0 : Array Value} {h : Heap} {own C : String} {index : Nat} {y z : MethodName} {bytes : ByteArray} {maxL ML : Nat} {ret : Option FieldType} {rm : Room} {Q : Option Value → Heap → List Loc → Prop} {a : Addr}
  (eT : T.heap = h) (hZ : Z.Warmed39 s.vm) (hown : s.vm.findClass own = some m.cls) (hml : c.maxLocals = ML) (hK : own_KI a0 Z own C index y z bytes maxL ret 0) (hM : own_Met l y bytes maxL none rm #[(.ref a)] Z h Q)
  (hd : decode cb pc = .ok (.invokespecial index, 3)) 
  (k : ∀ (T' : State) (L : List Loc), Stand p l e R s m args below meth c T' (locs ++ L) (cells + rm.cells) (slots + rm.slots) → Q none T'.heap L → own_Go p.tables e below P (T'.setTop (mkF m (pc + 3) Ls st))) (W : Nat) (hsz : Ls.size = ML := by rfl) (hW : (st.map fun v => v.category).sum = W := by rfl) (sd : rm.frames + 1 ≤ R.frames ∧ W + (maxL + 11) + rm.locals ≤ R.locals ∧ cells + rm.cells ≤ R.cells ∧ slots + rm.slots ≤ R.slots := by decide) (hv : ∀ v h L, Q v h L → v = none := by intro v h L q; first | exact id q.1 | (obtain ⟨_, q⟩ := q; exact id q.1) | (obtain ⟨_, _, q⟩ := q; exact id q.1) | (obtain ⟨_, _, _, q⟩ := q; exact id q.1)) : own_Go p.tables e below P (T.setTop (mkF m pc Ls ((.ref a) :: st))) := by
 obtain ⟨⟨w1, ⟨ps, r, hp, hlen⟩, hy⟩, hn, w2, w3, w4⟩ := hK
 obtain ⟨v, vm1, ⟨T', L0, k0, n0⟩, -, X', ⟨L, hQ, e1, e2, e3⟩, hst⟩ := X.specialBack hq.1 (y := y) hn hown (mvT hZ w1) (mvT hZ w2) (mvT hZ w4) hy (backOf (W := W) (Q := Q) hM hZ w4 w3 sd.1 sd.2.1) (g := mkF m pc Ls ((.ref a) :: st)) rfl (by rw [hml]; exact hsz) (Steps.refl _) (a := a) (argsL := []) (rest := st) (lenOf hp hlen) rfl (by show 2 * 0 + _ ≤ _; rw [Nat.mul_zero, Nat.zero_add]; exact Nat.le_of_eq hW) (hb hq.2 hd) (fun _ _ => ⟨rfl, eT, sd.2.2.1, sd.2.2.2⟩)
 dsimp only [Pt.U, Pt.locs, Pt.cells, Pt.slots] at X' e1 e2 e3 hst hQ
 subst e1 e2 e3
 obtain rfl := hv _ _ _ hQ
 exact own_tr hst (k _ _ X' hQ)
end Sm
theorem k1_1 {a0 : Array Value} {Z : State} (hw : HW a0 Z) : own_KI a0 Z "headway/bench/Footprint$Measurement" "" 1 y0_ y0_ jdk_30_method_1_code 1 none 0 := ⟨⟨(w_ hw 9 rfl), ⟨_, _, pd_1, rfl⟩, by decide⟩, rfl, (w_ hw 10 rfl), (w_ hw 12 rfl), (w_ hw 13 rfl)⟩
theorem d1_4 : D1 4 = .ok (.aload_n 0, 1) := by decide +kernel
theorem d1_5 : D1 5 = .ok (.iload_n 1, 1) := by decide +kernel
theorem d1_6 : D1 6 = .ok (.putfield 7, 3) := by decide +kernel
theorem d1_9 : D1 9 = .ok (.aload_n 0, 1) := by decide +kernel
theorem d1_10 : D1 10 = .ok (.lload_n 2, 1) := by decide +kernel
theorem d1_11 : D1 11 = .ok (.putfield 13, 3) := by decide +kernel
theorem d1_14 : D1 14 = .ok (.aload_n 0, 1) := by decide +kernel
theorem d1_15 : D1 15 = .ok (.lload 4, 2) := by decide +kernel
theorem d1_17 : D1 17 = .ok (.putfield 17, 3) := by decide +kernel
theorem d1_20 : D1 20 = .ok (.return_, 1) := by decide +kernel
def Q_rm1 (Z : State) (a0 : Array Value) (a1 : Addr) (p2 : Int32) (q3 q4 : Int64) (h0 : Heap) (n0 : Nat) (v : Option Value) (h : Heap) (L : List Loc) : Prop := v = none ∧ Fr n0 L ∧ Keep h0 h [a1] ∧ Fld Z h a1 "headway/bench/Footprint$Measurement" "elements" "I" (.int p2) ∧ Fld Z h a1 "headway/bench/Footprint$Measurement" "emptyHeap" "J" (.long q3) ∧ Fld Z h a1 "headway/bench/Footprint$Measurement" "fullHeap" "J" (.long q4)
theorem rm1 (hw : HW a0 Z) (a1 : Addr) (p2 : Int32) (q3 q4 : Int64) (h0 : Heap) (n0 : Nat) (Z0 : n0 ≤ h0.size) (E1 : Exa Z h0 a1 "headway/bench/Footprint$Measurement") (g1 : n0 ≤ a1) (F0 : Fld Z h0 a1 "headway/bench/Footprint$Measurement" "elements" "I" (.int (0 : Int32))) (F1 : Fld Z h0 a1 "headway/bench/Footprint$Measurement" "emptyHeap" "J" (.long (0 : Int64))) (F2 : Fld Z h0 a1 "headway/bench/Footprint$Measurement" "fullHeap" "J" (.long (0 : Int64))) :
  own_Met l y1_ prog_14_method_1_code 6 none (R_ 2 0 0 24) #[(.ref a1), (.int p2), (.long q3), (.long q4)] Z h0 (Q_rm1 Z a0 a1 p2 q3 q4 h0 n0) := by
 refine own_bd (own := "headway/bench/Footprint$Measurement") rfl (plainFor_of_name pn_1) #[rv a1, iv p2, .val (.long q3), .second, .val (.long q4), .second] ?_
 intro p e s m below meth c s₁ hx hby Hq hml hown hnm hlk hrt hZ X0 e0
 refine o_aloadN X0 Hq d1_0 rfl rfl ?_
 refine c_I0v X0 Hq e0 hZ hown hml (k1_1 hw) (rm2 hw a1  h0 n0 Z0) d1_1 ?_ 0
 rintro T_1 L_1 X_1 ⟨-, Nq_1, e_1⟩
 have N_1 := Fr.app (Fr.nil n0) Nq_1
 refine o_aloadN X_1 Hq d1_4 rfl rfl (o_iloadN X_1 Hq d1_5 rfl ?_)
 obtain ⟨T_2, h_2, X_2, e_2, W_2, st_2⟩ := putF X_1 hx hZ hown (host := "") (Or.inl (w_ hw 17 rfl)) Via.refl e_1 F0 E1 (Or.inr ⟨(w_ hw 18 rfl), rfl, hnm⟩) (w_ hw 4 rfl) (ty := .int) (by decide) rfl rfl (g := (mkF m 6 #[rv a1, iv p2, .val (.long q3), .second, .val (.long q4), .second] [(.int p2), (.ref a1)])) rfl rfl (hb hby d1_6)
 refine own_st st_2 ?_
 have N_2 := Fr.snoc X_2 N_1 g1
 show own_Go _ _ _ _ (T_2.setTop (mkF m 9 #[rv a1, iv p2, .val (.long q3), .second, .val (.long q4), .second] []))
 refine o_aloadN X_2 Hq d1_9 rfl rfl (o_lloadN X_2 Hq d1_10 rfl ?_)
 have Fa_3 := (F1.other W_2 (Or.inr (slot_ne (Or.inr (w_ hw 20 rfl)) (Or.inr (w_ hw 18 rfl)) (by decide) (t := .long) (t' := .int) (by decide) (by decide))))
 have Fa_4 := (E1.wr W_2)
 obtain ⟨T_5, h_5, X_5, e_5, W_5, st_5⟩ := putF X_2 hx hZ hown (host := "") (Or.inl (w_ hw 19 rfl)) Via.refl e_2 Fa_3 Fa_4 (Or.inr ⟨(w_ hw 20 rfl), rfl, hnm⟩) (w_ hw 4 rfl) (ty := .long) (by decide) rfl rfl (g := (mkF m 11 #[rv a1, iv p2, .val (.long q3), .second, .val (.long q4), .second] [(.long q3), (.ref a1)])) rfl rfl (hb hby d1_11)
 refine own_st st_5 ?_
 have N_5 := Fr.snoc X_5 N_2 g1
 show own_Go _ _ _ _ (T_5.setTop (mkF m 14 #[rv a1, iv p2, .val (.long q3), .second, .val (.long q4), .second] []))
 refine o_aloadN X_5 Hq d1_14 rfl rfl (o_lload X_5 Hq d1_15 rfl ?_)
 have Fa_6 := ((F2.other W_2 (Or.inr (slot_ne (Or.inr (w_ hw 22 rfl)) (Or.inr (w_ hw 18 rfl)) (by decide) (t := .long) (t' := .int) (by decide) (by decide)))).other W_5 (Or.inr (slot_ne (Or.inr (w_ hw 22 rfl)) (Or.inr (w_ hw 20 rfl)) (by decide) (t := .long) (t' := .long) (by decide) (by decide))))
 have Fa_7 := (Fa_4.wr W_5)
 obtain ⟨T_8, h_8, X_8, e_8, W_8, st_8⟩ := putF X_5 hx hZ hown (host := "") (Or.inl (w_ hw 21 rfl)) Via.refl e_5 Fa_6 Fa_7 (Or.inr ⟨(w_ hw 22 rfl), rfl, hnm⟩) (w_ hw 4 rfl) (ty := .long) (by decide) rfl rfl (g := (mkF m 17 #[rv a1, iv p2, .val (.long q3), .second, .val (.long q4), .second] [(.long q4), (.ref a1)])) rfl rfl (hb hby d1_17)
 refine own_st st_8 ?_
 have N_8 := Fr.snoc X_8 N_5 g1
 show own_Go _ _ _ _ (T_8.setTop (mkF m 20 #[rv a1, iv p2, .val (.long q3), .second, .val (.long q4), .second] []))
 have Kp_9 : Keep h0 h_8 [a1] := ((((Keep.refl h0 [a1]).wr W_2 (Or.inl (List.mem_of_getElem? (i := 0) rfl))).wr W_5 (Or.inl (List.mem_of_getElem? (i := 0) rfl))).wr W_8 (Or.inl (List.mem_of_getElem? (i := 0) rfl)))
 have Fa_10 := (((F0.same W_2).other W_5 (Or.inr (slot_ne (Or.inr (w_ hw 18 rfl)) (Or.inr (w_ hw 20 rfl)) (by decide) (t := .int) (t' := .long) (by decide) (by decide)))).other W_8 (Or.inr (slot_ne (Or.inr (w_ hw 18 rfl)) (Or.inr (w_ hw 22 rfl)) (by decide) (t := .int) (t' := .long) (by decide) (by decide))))
 have Fa_11 := ((Fa_3.same W_5).other W_8 (Or.inr (slot_ne (Or.inr (w_ hw 20 rfl)) (Or.inr (w_ hw 22 rfl)) (by decide) (t := .long) (t' := .long) (by decide) (by decide))))
 have Fa_12 := (Fa_6.same W_8)
 exact e_V X_8 e_8 Hq hlk hrt d1_20 ⟨rfl, N_8, Kp_9, Fa_10, Fa_11, Fa_12⟩
abbrev D4 := decode prog_14_method_2_code
theorem d4_0 : D4 0 = .ok (.aload_n 0, 1) := by decide +kernel
theorem d4_1 : D4 1 = .ok (.getfield 17, 3) := by decide +kernel
theorem d4_4 : D4 4 = .ok (.aload_n 0, 1) := by decide +kernel
theorem d4_5 : D4 5 = .ok (.getfield 13, 3) := by decide +kernel
theorem d4_8 : D4 8 = .ok (.lsub, 1) := by decide +kernel
theorem d4_9 : D4 9 = .ok (.l2d, 1) := by decide +kernel
theorem d4_10 : D4 10 = .ok (.aload_n 0, 1) := by decide +kernel
theorem d4_11 : D4 11 = .ok (.getfield 7, 3) := by decide +kernel
theorem d4_14 : D4 14 = .ok (.i2d, 1) := by decide +kernel
theorem d4_15 : D4 15 = .ok (.ddiv, 1) := by decide +kernel
theorem d4_16 : D4 16 = .ok (.dreturn, 1) := by decide +kernel
section Sm
variable {p : Program} {l : Launch} {e : Env} {R : Room} {s : State} {m : MethodId} {args : Array Value} {below : List Frame} {meth : Method} {c : Code} {T : State} {locs : List Loc} {cells slots : Nat} {P : Outcome → State → Prop} {pc : Nat} {Ls : Array Slot} {st : List Value}
theorem e_D (X : Stand p l e R s m args below meth c T locs cells slots) {h : Heap} (eT : T.heap = h) {cb : ByteArray} (hq : p.tables.exec = Jvm.exec ∧ c.code = cb) (hlk : meth.locks = false) {z : UInt64} {rest : List Value} (hrt : meth.sig.returnType = some .double) (hd : decode cb pc = .ok (.dreturn, 1)) {Q : Option Value → Heap → List Loc → Prop} (hQ : Q (some (.double z)) h locs) (hcs : cells ≤ R.cells ∧ slots ≤ R.slots := by decide) :
  own_Go p.tables e below (own_P s Q R) (T.setTop (mkF m pc Ls (.double z :: rest))) := own_end X eT (v := (some (.double z))) (fun h => by rw [hrt] at h; cases h) hlk (fun fs hr => retOut X hq.1 hrt rfl (Or.inr (Or.inr (Or.inl ⟨rfl, rfl, z, rfl⟩))) (hb hq.2 hd) hr) (Q := Q) hQ hcs.1 hcs.2
end Sm
def Q_rm4 (Z : State) (a0 : Array Value) (a1 : Addr) (n : Int32) (E F : Int64) (h0 : Heap) (n0 : Nat) (v : Option Value) (h : Heap) (L : List Loc) : Prop := v = some (.double (FP.ddiv (FP.l2d (F - E)) (FP.i2d n))) ∧ Fr n0 L ∧ h = h0
theorem rm4 (hw : HW a0 Z) (a1 : Addr) (n : Int32) (E F : Int64) (h0 : Heap) (n0 : Nat) (Z0 : n0 ≤ h0.size) (F1 : Fld Z h0 a1 "headway/bench/Footprint$Measurement" "elements" "I" (.int n)) (F2 : Fld Z h0 a1 "headway/bench/Footprint$Measurement" "emptyHeap" "J" (.long E)) (F3 : Fld Z h0 a1 "headway/bench/Footprint$Measurement" "fullHeap" "J" (.long F)) (hnn : Jvm.Free.Fl.NoNaN64 (FP.ddiv (FP.l2d (F - E)) (FP.i2d n))) :
  own_Met l y2_ prog_14_method_2_code 1 (some .double) (R_ 0 0 0 0) #[(.ref a1)] Z h0 (Q_rm4 Z a0 a1 n E F h0 n0) := by
 refine own_bd (own := "headway/bench/Footprint$Measurement") rfl (plainFor_of_name pn_1) #[rv a1] ?_
 intro p e s m below meth c s₁ hx hby Hq hml hown hnm hlk hrt hZ X0 e0
 refine o_aloadN X0 Hq d4_0 rfl rfl ?_
 obtain ⟨T_1, X_1, e_1, st_1⟩ := getF X0 hx hZ hown (host := "") (Or.inl (w_ hw 21 rfl)) Via.refl e0 F3 (g := (mkF m 1 #[rv a1] [(.ref a1)])) rfl rfl (hb hby d4_1)
 refine own_st st_1 ?_
 show own_Go _ _ _ _ (T_1.setTop (mkF m 4 #[rv a1] [(.long F)]))
 refine o_aloadN X_1 Hq d4_4 rfl rfl ?_
 obtain ⟨T_2, X_2, e_2, st_2⟩ := getF X_1 hx hZ hown (host := "") (Or.inl (w_ hw 19 rfl)) Via.refl e_1 F2 (g := (mkF m 5 #[rv a1] [(.ref a1), (.long F)])) rfl rfl (hb hby d4_5)
 refine own_st st_2 ?_
 show own_Go _ _ _ _ (T_2.setTop (mkF m 8 #[rv a1] [(.long E), (.long F)]))
 refine o_lsub X_2 Hq d4_8 (o_l2d X_2 Hq d4_9 (o_aloadN X_2 Hq d4_10 rfl rfl ?_))
 obtain ⟨T_3, X_3, e_3, st_3⟩ := getF X_2 hx hZ hown (host := "") (Or.inl (w_ hw 17 rfl)) Via.refl e_2 F1 (g := (mkF m 11 #[rv a1] [(.ref a1), (.double (FP.l2d (F - E)))])) rfl rfl (hb hby d4_11)
 refine own_st st_3 ?_
 show own_Go _ _ _ _ (T_3.setTop (mkF m 14 #[rv a1] [(.int n), (.double (FP.l2d (F - E)))]))
 refine o_i2d X_3 Hq d4_14 (o_ddiv X_3 Hq d4_15 hnn ?_)
 exact e_D X_3 e_3 Hq hlk hrt d4_16 ⟨rfl, (Fr.nil n0), rfl⟩
theorem pn_0 : plainName "headway/bench/MeasurementBytesPerElementPinLaw" = true := by first | (simp [plainName, overriddenIn]; done) | decide +kernel
theorem pd_2 : parseMethodDescriptor "(IJJ)V" = some ⟨[.int, .long, .long], none⟩ := by decide +kernel
section Sm
variable {p : Program} {l : Launch} {e : Env} {R : Room} {s : State} {m : MethodId} {args : Array Value} {below : List Frame} {meth : Method} {c : Code} {T : State} {locs : List Loc} {cells slots : Nat} {P : Outcome → State → Prop} {pc : Nat} {Ls : Array Slot} {st : List Value}
theorem c_I3v (X : Stand p l e R s m args below meth c T locs cells slots) {cb : ByteArray} (hq : p.tables.exec = Jvm.exec ∧ c.code = cb) {Z : State} {a0 : Array Value} {h : Heap} {own C : String} {index : Nat} {y z : MethodName} {bytes : ByteArray} {maxL ML : Nat} {ret : Option FieldType} {rm : Room} {Q : Option Value → Heap → List Loc → Prop} {a : Addr} {v1 v2 v3 : Value}
  (eT : T.heap = h) (hZ : Z.Warmed39 s.vm) (hown : s.vm.findClass own = some m.cls) (hml : c.maxLocals = ML) (hK : own_KI a0 Z own C index y z bytes maxL ret 3) (hM : own_Met l y bytes maxL none rm #[(.ref a), v1, v2, v3] Z h Q)
  (hd : decode cb pc = .ok (.invokespecial index, 3)) 
  (k : ∀ (T' : State) (L : List Loc), Stand p l e R s m args below meth c T' (locs ++ L) (cells + rm.cells) (slots + rm.slots) → Q none T'.heap L → own_Go p.tables e below P (T'.setTop (mkF m (pc + 3) Ls st))) (W : Nat) (hsz : Ls.size = ML := by rfl) (hW : (st.map fun v => v.category).sum = W := by rfl) (sd : rm.frames + 1 ≤ R.frames ∧ W + (maxL + 11) + rm.locals ≤ R.locals ∧ cells + rm.cells ≤ R.cells ∧ slots + rm.slots ≤ R.slots := by decide) (hv : ∀ v h L, Q v h L → v = none := by intro v h L q; first | exact id q.1 | (obtain ⟨_, q⟩ := q; exact id q.1) | (obtain ⟨_, _, q⟩ := q; exact id q.1) | (obtain ⟨_, _, _, q⟩ := q; exact id q.1)) : own_Go p.tables e below P (T.setTop (mkF m pc Ls (v3 :: v2 :: v1 :: (.ref a) :: st))) := by
 obtain ⟨⟨w1, ⟨ps, r, hp, hlen⟩, hy⟩, hn, w2, w3, w4⟩ := hK
 obtain ⟨v, vm1, ⟨T', L0, k0, n0⟩, -, X', ⟨L, hQ, e1, e2, e3⟩, hst⟩ := X.specialBack hq.1 (y := y) hn hown (mvT hZ w1) (mvT hZ w2) (mvT hZ w4) hy (backOf (W := W) (Q := Q) hM hZ w4 w3 sd.1 sd.2.1) (g := mkF m pc Ls (v3 :: v2 :: v1 :: (.ref a) :: st)) rfl (by rw [hml]; exact hsz) (Steps.refl _) (a := a) (argsL := [v1, v2, v3]) (rest := st) (lenOf hp hlen) rfl (by show 2 * 0 + _ ≤ _; rw [Nat.mul_zero, Nat.zero_add]; exact Nat.le_of_eq hW) (hb hq.2 hd) (fun _ _ => ⟨rfl, eT, sd.2.2.1, sd.2.2.2⟩)
 dsimp only [Pt.U, Pt.locs, Pt.cells, Pt.slots] at X' e1 e2 e3 hst hQ
 subst e1 e2 e3
 obtain rfl := hv _ _ _ hQ
 exact own_tr hst (k _ _ X' hQ)
end Sm
theorem k0_15 {a0 : Array Value} {Z : State} (hw : HW a0 Z) : own_KI a0 Z "headway/bench/MeasurementBytesPerElementPinLaw" "" 15 y1_ y1_ prog_14_method_1_code 6 none 3 := ⟨⟨(w_ hw 6 rfl), ⟨_, _, pd_2, rfl⟩, by decide⟩, rfl, (w_ hw 7 rfl), (w_ hw 5 rfl), (w_ hw 8 rfl)⟩
theorem pd_3 : parseMethodDescriptor "()D" = some ⟨[], some .double⟩ := by decide +kernel
def own_KU (a0 : Array Value) (Z : State) (own C : String) (index : Nat) (y z : MethodName) (bytes : ByteArray) (maxL : Nat) (ret : Option FieldType) (k : Nat) : Prop := ((Jvm.Cond.methodLink own index y).before a0 Z = true ∧ (∃ ps r, parseMethodDescriptor y.desc = some ⟨ps, r⟩ ∧ k = ps.length) ∧ (y.cls ≠ "java/lang/invoke/MethodHandle" ∧ y.cls ≠ "java/lang/invoke/VarHandle")) ∧ (Jvm.Cond.declares y).before a0 Z = true ∧ (Jvm.Cond.selects C y y).before a0 Z = true ∧ (Jvm.Cond.instanceMethod y).before a0 Z = true ∧ (Jvm.Cond.initialized y.cls).before a0 Z = true ∧ (Jvm.Cond.code y bytes maxL ret).before a0 Z = true
section Sm
variable {p : Program} {l : Launch} {e : Env} {R : Room} {s : State} {m : MethodId} {args : Array Value} {below : List Frame} {meth : Method} {c : Code} {T : State} {locs : List Loc} {cells slots : Nat} {P : Outcome → State → Prop} {pc : Nat} {Ls : Array Slot} {st : List Value}
theorem c_U0 (X : Stand p l e R s m args below meth c T locs cells slots) {cb : ByteArray} (hq : p.tables.exec = Jvm.exec ∧ c.code = cb) {Z : State} {a0 : Array Value} {h : Heap} {own C : String} {index : Nat} {y z : MethodName} {bytes : ByteArray} {maxL ML : Nat} {ret : Option FieldType} {rm : Room} {Q : Option Value → Heap → List Loc → Prop} {a : Addr}
  (eT : T.heap = h) (hZ : Z.Warmed39 s.vm) (hown : s.vm.findClass own = some m.cls) (hml : c.maxLocals = ML) (hK : own_KU a0 Z own C index y z bytes maxL ret 0) (hM : own_Met l y bytes maxL ret rm #[(.ref a)] Z h Q) (E : Exa Z h a C)
  (hd : decode cb pc = .ok (.invokevirtual index, 3)) 
  (k : ∀ (T' : State) (L : List Loc) (w : Value), Stand p l e R s m args below meth c T' (locs ++ L) (cells + rm.cells) (slots + rm.slots) → Q (some w) T'.heap L → own_Go p.tables e below P (T'.setTop (mkF m (pc + 3) Ls (w :: st)))) (W : Nat) (hsz : Ls.size = ML := by rfl) (hW : (st.map fun v => v.category).sum = W := by rfl) (sd : rm.frames + 1 ≤ R.frames ∧ W + (maxL + 11) + rm.locals ≤ R.locals ∧ cells + rm.cells ≤ R.cells ∧ slots + rm.slots ≤ R.slots := by decide) (hv : ∀ v h L, Q v h L → ∃ w, v = some w := by intro v h L q; first | exact Exists.intro _ q.1 | (obtain ⟨_, q⟩ := q; exact Exists.intro _ q.1) | (obtain ⟨_, _, q⟩ := q; exact Exists.intro _ q.1) | (obtain ⟨_, _, _, q⟩ := q; exact Exists.intro _ q.1)) : own_Go p.tables e below P (T.setTop (mkF m pc Ls ((.ref a) :: st))) := by
 obtain ⟨⟨w1, ⟨ps, r, hp, hlen⟩, hy⟩, w2, w5, w6, w3, w4⟩ := hK
 obtain ⟨cB, kB, q1, -, q3⟩ := isOf hZ eT E
 have nf : NotFace s y := notFace_of_selects (args := #[]) (mvT hZ w5)
 obtain ⟨v, vm1, ⟨T', L0, k0, n0⟩, -, X', ⟨L, hQ, e1, e2, e3⟩, hst⟩ := X.virtualBack hq.1 (y := y) (z := y) hown (mvT hZ w1) (mvT hZ w2) nf (mvT hZ w5) (mvT hZ w6) hy (backOf (W := W) (Q := Q) hM hZ w4 w3 sd.1 sd.2.1) q1 q3 (g := mkF m pc Ls ((.ref a) :: st)) rfl (by rw [hml]; exact hsz) (Steps.refl _) (argsL := []) (rest := st) (lenOf hp hlen) rfl (by show 2 * 0 + _ ≤ _; rw [Nat.mul_zero, Nat.zero_add]; exact Nat.le_of_eq hW) (hb hq.2 hd) (fun _ _ => ⟨rfl, eT, sd.2.2.1, sd.2.2.2⟩)
 dsimp only [Pt.U, Pt.locs, Pt.cells, Pt.slots] at X' e1 e2 e3 hst hQ
 subst e1 e2 e3
 obtain ⟨w, rfl⟩ := hv _ _ _ hQ
 exact own_tr hst (k _ _ _ X' hQ)
end Sm
theorem k0_18U1 {a0 : Array Value} {Z : State} (hw : HW a0 Z) : own_KU a0 Z "headway/bench/MeasurementBytesPerElementPinLaw" "headway/bench/Footprint$Measurement" 18 y2_ y2_ prog_14_method_2_code 1 (some .double) 0 := ⟨⟨(w_ hw 23 rfl), ⟨_, _, pd_3, rfl⟩, by decide⟩, (w_ hw 24 rfl), (w_ hw 26 rfl), (w_ hw 25 rfl), (w_ hw 5 rfl), (w_ hw 27 rfl)⟩
section Sm
variable {p : Program} {l : Launch} {e : Env} {R : Room} {s : State} {m : MethodId} {args : Array Value} {below : List Frame} {meth : Method} {c : Code} {T : State} {locs : List Loc} {cells slots : Nat} {P : Outcome → State → Prop} {pc : Nat} {Ls : Array Slot} {st : List Value}
theorem e_Z (X : Stand p l e R s m args below meth c T locs cells slots) {h : Heap} (eT : T.heap = h) {cb : ByteArray} (hq : p.tables.exec = Jvm.exec ∧ c.code = cb) (hlk : meth.locks = false) {z : Int32} {rest : List Value} (hrt : meth.sig.returnType = some .boolean) (hd : decode cb pc = .ok (.ireturn, 1)) {Q : Option Value → Heap → List Loc → Prop} (hQ : Q (some (.int (nar .boolean z))) h locs) (hcs : cells ≤ R.cells ∧ slots ≤ R.slots := by decide) :
  own_Go p.tables e below (own_P s Q R) (T.setTop (mkF m pc Ls (.int z :: rest))) := own_end X eT (v := (some (.int (nar .boolean z)))) (fun h => by rw [hrt] at h; cases h) hlk (fun fs hr => retN X hq.1 (z := z) (t := .boolean) hrt (by simp) (hb hq.2 hd) hr) (Q := Q) hQ hcs.1 hcs.2
end Sm
theorem ef_rm0 (m : MethodId) (p1 p2 p3 p4 : Int32) (q5 : Int64) : entryFrame m #[(.int p1), (.int p2), (.int p3), (.int p4), (.long q5)] maxLocals = mkF m 0 #[iv p1, iv p2, iv p3, iv p4, .val (.long q5), .second, .unset, .unset, .unset, .unset, .unset, .unset, .unset, .unset, .unset, .unset, .unset, .unset, .unset, .unset, .unset, .unset, .unset, .unset] [] := by first | (simp [entryFrame, mkF, argsToLocals, Value.category, maxLocals]; done) | rfl
def Q_rm0 (Z : State) (a0 : Array Value) (p1 p2 p3 p4 : Int32) (q5 : Int64) (h0 : Heap) (n0 : Nat) (v : Option Value) (h : Heap) (L : List Loc) : Prop := v = some (.int (1 : Int32)) ∧ Fr n0 L ∧ Keep h0 h []
theorem rm0 (l : Launch) (Z : State) (a0 : Array Value) (hw : HW a0 Z) (ws : List Jvm.Cond) (p1 p2 p3 p4 : Int32) (q5 : Int64) (h0 : Heap) (n0 : Nat) (Z0 : n0 ≤ h0.size) :
  MetFree l x (head1 (Jvm.Cond.code x code maxLocals ret :: ws) room_1) (fun a U => a = #[(.int p1), (.int p2), (.int p3), (.int p4), (.long q5)] ∧ Z.Warmed39 U.vm ∧ U.heap = h0) (fun _ _ _ _ _ => True) (fun _ U o U' => ∃ v L, o = .returned v ∧ Q_rm0 Z a0 p1 p2 p3 p4 q5 h0 n0 v U'.heap L ∧ FrameEnd U o U' L room_1.cells room_1.slots) := by
 refine MetFree.of_bodySF (plainFor_of_name pn_0) hisR ?_
 intro p e s m args below meth c s₁ Bd hml0 hP hK
 obtain ⟨rfl, hZ, hh⟩ := hP
 have hx := Bd.exec
 have hby := Bd.bytes
 have hml : c.maxLocals = 24 := hml0
 have hown : s.vm.findClass "headway/bench/MeasurementBytesPerElementPinLaw" = some m.cls := findClass_of_methodNamed Bd.named
 have hnm := (name_of_methodNamed Bd.named Bd.method).1
 have hlk : meth.locks = false := BodyLoose.notSynchronized (by assumption)
 have X0 : Stand p l e room_1 s m #[(.int p1), (.int p2), (.int p3), (.int p4), (.long q5)] below meth c s₁ [] 0 0 := Stand.of_body Bd
 have e0 : s₁.heap = h0 := by rw [← hh, Bd.state]; rfl
 have N0 := Fr.nil n0
 have Hq := And.intro hx hby
 have hrt := Bd.returns
 show own_Go p.tables e below (own_P s (Q_rm0 Z a0 p1 p2 p3 p4 q5 h0 n0) room_1) (s₁.setTop (entryFrame m #[(.int p1), (.int p2), (.int p3), (.int p4), (.long q5)] maxLocals))
 refine own_st (fun t k => castTop (ef_rm0 m p1 p2 p3 p4 q5) k) ?_
 show own_Go _ _ _ _ (s₁.setTop (mkF m 0 #[iv p1, iv p2, iv p3, iv p4, .val (.long q5), .second, .unset, .unset, .unset, .unset, .unset, .unset, .unset, .unset, .unset, .unset, .unset, .unset, .unset, .unset, .unset, .unset, .unset, .unset] []))
 refine o_iloadN X0 Hq at_0 rfl (o_ldc X0 Hq hown at_1 (v_ hZ hw 0 rfl) (o_iand X0 Hq at_3 (o_iconst X0 Hq 1 at_4 rfl (o_iadd X0 Hq at_5 (o_istore X0 Hq at_6 (l' := #[iv p1, iv p2, iv p3, iv p4, .val (.long q5), .second, iv ((p2 &&& (65535 : Int32)) + (1 : Int32)), .unset, .unset, .unset, .unset, .unset, .unset, .unset, .unset, .unset, .unset, .unset, .unset, .unset, .unset, .unset, .unset, .unset]) rfl (o_iloadN X0 Hq at_8 rfl (o_iconst X0 Hq 1 at_9 rfl (o_iand X0 Hq at_10 ?_))))))))
 by_cases hc11__1 : (p4 &&& (1 : Int32)) = (0 : Int32)
 ·refine o_ifYes X0 Hq (pc' := 21) at_11 (teq hc11__1).1 (o_iloadN X0 Hq at_21 rfl (o_ldc X0 Hq hown at_22 (v_ hZ hw 29 rfl) (o_iand X0 Hq at_24 (o_iload X0 Hq at_25 rfl (o_irem X0 Hq at_27 (own_nz (own_nF rfl)) (o_istore X0 Hq at_28 (l' := #[iv p1, iv p2, iv p3, iv p4, .val (.long q5), .second, iv ((p2 &&& (65535 : Int32)) + (1 : Int32)), iv ((p3 &&& (2147483647 : Int32)) - (p3 &&& (2147483647 : Int32)) / ((p2 &&& (65535 : Int32)) + (1 : Int32)) * ((p2 &&& (65535 : Int32)) + (1 : Int32))), .unset, .unset, .unset, .unset, .unset, .unset, .unset, .unset, .unset, .unset, .unset, .unset, .unset, .unset, .unset, .unset]) rfl ?_))))))
  show own_Go _ _ _ _ (s₁.setTop (mkF m 30 #[iv p1, iv p2, iv p3, iv p4, .val (.long q5), .second, iv ((p2 &&& (65535 : Int32)) + (1 : Int32)), iv ((p3 &&& (2147483647 : Int32)) - (p3 &&& (2147483647 : Int32)) / ((p2 &&& (65535 : Int32)) + (1 : Int32)) * ((p2 &&& (65535 : Int32)) + (1 : Int32))), .unset, .unset, .unset, .unset, .unset, .unset, .unset, .unset, .unset, .unset, .unset, .unset, .unset, .unset, .unset, .unset] []))
  generalize hN : ((p2 &&& (65535 : Int32)) + (1 : Int32)) = n
  generalize hR : ((p3 &&& (2147483647 : Int32)) - (p3 &&& (2147483647 : Int32)) / n * n) = r
  have nF := own_nF hN
  have rF := own_rA nF hR
  refine o_iloadN X0 Hq at_30 rfl (o_i2l X0 Hq at_31 (o_lstore X0 Hq at_32 (l' := #[iv p1, iv p2, iv p3, iv p4, .val (.long q5), .second, iv n, iv r, .val (.long (p1.toInt64)), .second, .unset, .unset, .unset, .unset, .unset, .unset, .unset, .unset, .unset, .unset, .unset, .unset, .unset, .unset]) rfl (o_lload X0 Hq at_34 rfl (o_iload X0 Hq at_36 rfl (o_i2l X0 Hq at_38 (o_lmul X0 Hq at_39 (o_iload X0 Hq at_40 rfl (o_i2l X0 Hq at_42 (o_ladd X0 Hq at_43 (o_lstore X0 Hq at_44 (l' := #[iv p1, iv p2, iv p3, iv p4, .val (.long q5), .second, iv n, iv r, .val (.long (p1.toInt64)), .second, .val (.long (((p1.toInt64) * (n.toInt64)) + (r.toInt64))), .second, .unset, .unset, .unset, .unset, .unset, .unset, .unset, .unset, .unset, .unset, .unset, .unset]) rfl (o_lload X0 Hq at_46 rfl (o_ldc2 X0 Hq hown at_48 (v_ hZ hw 1 rfl) (o_land X0 Hq at_51 (o_ldc2 X0 Hq hown at_52 (v_ hZ hw 2 rfl) (o_ladd X0 Hq at_55 ?_)))))))))))))))
  refine o_lstore X0 Hq at_56 (l' := #[iv p1, iv p2, iv p3, iv p4, .val (.long q5), .second, iv n, iv r, .val (.long (p1.toInt64)), .second, .val (.long (((p1.toInt64) * (n.toInt64)) + (r.toInt64))), .second, .val (.long ((q5 &&& (4611686018427387903 : Int64)) + (281474976710656 : Int64))), .second, .unset, .unset, .unset, .unset, .unset, .unset, .unset, .unset, .unset, .unset]) rfl (o_lload X0 Hq at_58 rfl (o_lload X0 Hq at_60 rfl (o_ladd X0 Hq at_62 (o_lstore X0 Hq at_63 (l' := #[iv p1, iv p2, iv p3, iv p4, .val (.long q5), .second, iv n, iv r, .val (.long (p1.toInt64)), .second, .val (.long (((p1.toInt64) * (n.toInt64)) + (r.toInt64))), .second, .val (.long ((q5 &&& (4611686018427387903 : Int64)) + (281474976710656 : Int64))), .second, .val (.long (((q5 &&& (4611686018427387903 : Int64)) + (281474976710656 : Int64)) + (((p1.toInt64) * (n.toInt64)) + (r.toInt64)))), .second, .unset, .unset, .unset, .unset, .unset, .unset, .unset, .unset]) rfl ?_))))
  obtain ⟨T_2, h_2, X_2, e_2, E_2, A_2, D_2, -, st_2⟩ := newO X0 hx hZ hown (w_ hw 3 rfl) (w_ hw 4 rfl) (w_ hw 5 rfl) e0 (g := (mkF m 65 #[iv p1, iv p2, iv p3, iv p4, .val (.long q5), .second, iv n, iv r, .val (.long (p1.toInt64)), .second, .val (.long (((p1.toInt64) * (n.toInt64)) + (r.toInt64))), .second, .val (.long ((q5 &&& (4611686018427387903 : Int64)) + (281474976710656 : Int64))), .second, .val (.long (((q5 &&& (4611686018427387903 : Int64)) + (281474976710656 : Int64)) + (((p1.toInt64) * (n.toInt64)) + (r.toInt64)))), .second, .unset, .unset, .unset, .unset, .unset, .unset, .unset, .unset] [])) rfl (hb hby at_65) (by decide) (by decide)
  obtain ⟨b_2, g_2⟩ : ∃ z, z = h0.size := ⟨_, rfl⟩
  rw [← g_2] at A_2 D_2 st_2
  have gg_2 : n0 ≤ b_2 := Nat.le_trans Z0 (Nat.le_of_eq g_2.symm)
  have sz_2 : h0.size ≤ b_2 := Nat.le_trans (Keep.refl h0 []).1 (Nat.le_of_eq g_2.symm)
  have Fi_2_elements : Fld Z h_2 b_2 "headway/bench/Footprint$Measurement" "elements" "I" (.int (0 : Int32)) := D_2 (Or.inr (w_ hw 18 rfl)) (ty := .int) (by decide)
  have Fi_2_emptyHeap : Fld Z h_2 b_2 "headway/bench/Footprint$Measurement" "emptyHeap" "J" (.long (0 : Int64)) := D_2 (Or.inr (w_ hw 20 rfl)) (ty := .long) (by decide)
  have Fi_2_fullHeap : Fld Z h_2 b_2 "headway/bench/Footprint$Measurement" "fullHeap" "J" (.long (0 : Int64)) := D_2 (Or.inr (w_ hw 22 rfl)) (ty := .long) (by decide)
  refine own_st st_2 ?_
  show own_Go _ _ _ _ (T_2.setTop (mkF m 68 #[iv p1, iv p2, iv p3, iv p4, .val (.long q5), .second, iv n, iv r, .val (.long (p1.toInt64)), .second, .val (.long (((p1.toInt64) * (n.toInt64)) + (r.toInt64))), .second, .val (.long ((q5 &&& (4611686018427387903 : Int64)) + (281474976710656 : Int64))), .second, .val (.long (((q5 &&& (4611686018427387903 : Int64)) + (281474976710656 : Int64)) + (((p1.toInt64) * (n.toInt64)) + (r.toInt64)))), .second, .unset, .unset, .unset, .unset, .unset, .unset, .unset, .unset] [(.ref b_2)]))
  refine o_dup X_2 Hq at_68 rfl (o_iload X_2 Hq at_69 rfl (o_lload X_2 Hq at_71 rfl (o_lload X_2 Hq at_73 rfl ?_)))
  have Zs_4 : n0 ≤ h_2.size := (Nat.le_trans Z0 E_2.1)
  refine c_I3v X_2 Hq e_2 hZ hown hml (k0_15 hw) (rm1 hw b_2 n ((q5 &&& (4611686018427387903 : Int64)) + (281474976710656 : Int64)) (((q5 &&& (4611686018427387903 : Int64)) + (281474976710656 : Int64)) + (((p1.toInt64) * (n.toInt64)) + (r.toInt64)))  h_2 n0 Zs_4 A_2 gg_2 Fi_2_elements Fi_2_emptyHeap Fi_2_fullHeap) at_75 ?_ 1
  rintro T_3 L_3 X_3 ⟨-, Nq_3, K_3, Fq_3_0, Fq_3_1, Fq_3_2⟩
  have N_3 := Fr.app N0 Nq_3
  refine o_astore X_3 Hq at_78 rfl (l' := #[iv p1, iv p2, iv p3, iv p4, .val (.long q5), .second, iv n, iv r, .val (.long (p1.toInt64)), .second, .val (.long (((p1.toInt64) * (n.toInt64)) + (r.toInt64))), .second, .val (.long ((q5 &&& (4611686018427387903 : Int64)) + (281474976710656 : Int64))), .second, .val (.long (((q5 &&& (4611686018427387903 : Int64)) + (281474976710656 : Int64)) + (((p1.toInt64) * (n.toInt64)) + (r.toInt64)))), .second, rv b_2, .unset, .unset, .unset, .unset, .unset, .unset, .unset]) rfl (o_aload X_3 Hq at_80 rfl rfl ?_)
  have Fg : own_fig p1 n r ((((q5 &&& (4611686018427387903 : Int64)) + (281474976710656 : Int64)) + (((p1.toInt64) * (n.toInt64)) + (r.toInt64))) - ((q5 &&& (4611686018427387903 : Int64)) + (281474976710656 : Int64))) := own_figI nF rF
  have Zs_6 : n0 ≤ T_3.heap.size := (Nat.le_trans Zs_4 K_3.1)
  have Fa_7 := (A_2.keep K_3)
  refine c_U0 X_3 Hq rfl hZ hown hml (k0_18U1 hw) (rm4 hw b_2 n ((q5 &&& (4611686018427387903 : Int64)) + (281474976710656 : Int64)) (((q5 &&& (4611686018427387903 : Int64)) + (281474976710656 : Int64)) + (((p1.toInt64) * (n.toInt64)) + (r.toInt64))) T_3.heap n0 Zs_6 Fq_3_0 Fq_3_1 Fq_3_2 (own_nanb Fg)) Fa_7 at_82 ?_ 0
  rintro T_5 L_5 _ X_5 ⟨⟨⟩, Nq_5, e_5⟩
  have N_5 := Fr.app N_3 Nq_5
  refine o_dstore X_5 Hq at_85 (l' := #[iv p1, iv p2, iv p3, iv p4, .val (.long q5), .second, iv n, iv r, .val (.long (p1.toInt64)), .second, .val (.long (((p1.toInt64) * (n.toInt64)) + (r.toInt64))), .second, .val (.long ((q5 &&& (4611686018427387903 : Int64)) + (281474976710656 : Int64))), .second, .val (.long (((q5 &&& (4611686018427387903 : Int64)) + (281474976710656 : Int64)) + (((p1.toInt64) * (n.toInt64)) + (r.toInt64)))), .second, rv b_2, .val (.double (FP.ddiv (FP.l2d ((((q5 &&& (4611686018427387903 : Int64)) + (281474976710656 : Int64)) + (((p1.toInt64) * (n.toInt64)) + (r.toInt64))) - ((q5 &&& (4611686018427387903 : Int64)) + (281474976710656 : Int64)))) (FP.i2d n))), .second, .unset, .unset, .unset, .unset, .unset]) rfl (o_iloadN X_5 Hq at_87 rfl (o_i2d X_5 Hq at_88 (o_dstore X_5 Hq at_89 (l' := #[iv p1, iv p2, iv p3, iv p4, .val (.long q5), .second, iv n, iv r, .val (.long (p1.toInt64)), .second, .val (.long (((p1.toInt64) * (n.toInt64)) + (r.toInt64))), .second, .val (.long ((q5 &&& (4611686018427387903 : Int64)) + (281474976710656 : Int64))), .second, .val (.long (((q5 &&& (4611686018427387903 : Int64)) + (281474976710656 : Int64)) + (((p1.toInt64) * (n.toInt64)) + (r.toInt64)))), .second, rv b_2, .val (.double (FP.ddiv (FP.l2d ((((q5 &&& (4611686018427387903 : Int64)) + (281474976710656 : Int64)) + (((p1.toInt64) * (n.toInt64)) + (r.toInt64))) - ((q5 &&& (4611686018427387903 : Int64)) + (281474976710656 : Int64)))) (FP.i2d n))), .second, .val (.double (FP.i2d p1)), .second, .unset, .unset, .unset]) rfl (o_dload X_5 Hq at_91 rfl (o_dconst1 X_5 Hq at_93 (o_dadd X_5 Hq at_94 (own_nan1 p1) (o_dstore X_5 Hq at_95 (l' := #[iv p1, iv p2, iv p3, iv p4, .val (.long q5), .second, iv n, iv r, .val (.long (p1.toInt64)), .second, .val (.long (((p1.toInt64) * (n.toInt64)) + (r.toInt64))), .second, .val (.long ((q5 &&& (4611686018427387903 : Int64)) + (281474976710656 : Int64))), .second, .val (.long (((q5 &&& (4611686018427387903 : Int64)) + (281474976710656 : Int64)) + (((p1.toInt64) * (n.toInt64)) + (r.toInt64)))), .second, rv b_2, .val (.double (FP.ddiv (FP.l2d ((((q5 &&& (4611686018427387903 : Int64)) + (281474976710656 : Int64)) + (((p1.toInt64) * (n.toInt64)) + (r.toInt64))) - ((q5 &&& (4611686018427387903 : Int64)) + (281474976710656 : Int64)))) (FP.i2d n))), .second, .val (.double (FP.i2d p1)), .second, .val (.double (FP.dadd (FP.i2d p1) FP.dconst1)), .second, .unset]) rfl (o_iload X_5 Hq at_97 rfl ?_))))))))
  by_cases hc99__8 : r = (0 : Int32)
  ·refine o_ifNo X_5 Hq at_99 (teq hc99__8).2 (o_dload X_5 Hq at_102 rfl (o_dload X_5 Hq at_104 rfl (o_dcmp X_5 Hq at_106 (o_ifNo X_5 Hq at_107 (teq (own_k1 Fg hc99__8)).2 (o_iconst X_5 Hq 1 at_110 rfl (o_goto X_5 Hq (pc' := 115) at_111 (o_istore X_5 Hq at_115 (l' := #[iv p1, iv p2, iv p3, iv p4, .val (.long q5), .second, iv n, iv r, .val (.long (p1.toInt64)), .second, .val (.long (((p1.toInt64) * (n.toInt64)) + (r.toInt64))), .second, .val (.long ((q5 &&& (4611686018427387903 : Int64)) + (281474976710656 : Int64))), .second, .val (.long (((q5 &&& (4611686018427387903 : Int64)) + (281474976710656 : Int64)) + (((p1.toInt64) * (n.toInt64)) + (r.toInt64)))), .second, rv b_2, .val (.double (FP.ddiv (FP.l2d ((((q5 &&& (4611686018427387903 : Int64)) + (281474976710656 : Int64)) + (((p1.toInt64) * (n.toInt64)) + (r.toInt64))) - ((q5 &&& (4611686018427387903 : Int64)) + (281474976710656 : Int64)))) (FP.i2d n))), .second, .val (.double (FP.i2d p1)), .second, .val (.double (FP.dadd (FP.i2d p1) FP.dconst1)), .second, iv 1]) rfl (o_goto X_5 Hq (pc' := 143) at_117 (o_iconst X_5 Hq 2 at_143 rfl (o_iload X_5 Hq at_144 rfl (o_imul X_5 Hq at_146 (o_iload X_5 Hq at_147 rfl ?_))))))))))))
   by_cases hc149__9 : ((2 : Int32) * r) = n
   ·refine o_icmpNo X_5 Hq at_149 (teq hc149__9).2 (o_iload X_5 Hq at_152 rfl (o_ifNo X_5 Hq at_154 (by decide) (o_dload X_5 Hq at_157 rfl (o_dload X_5 Hq at_159 rfl (o_ldc2d X_5 Hq hown at_161 (v_ hZ hw 28 rfl) (o_dadd X_5 Hq at_164 (own_nan2 p1) (o_dcmp X_5 Hq at_165 (o_ifNo X_5 Hq at_166 (teq (own_k4 Fg hc149__9)).2 (o_iconst X_5 Hq 1 at_169 rfl (o_goto X_5 Hq (pc' := 174) at_170 (o_istore X_5 Hq at_174 (l' := #[iv p1, iv p2, iv p3, iv p4, .val (.long q5), .second, iv n, iv r, .val (.long (p1.toInt64)), .second, .val (.long (((p1.toInt64) * (n.toInt64)) + (r.toInt64))), .second, .val (.long ((q5 &&& (4611686018427387903 : Int64)) + (281474976710656 : Int64))), .second, .val (.long (((q5 &&& (4611686018427387903 : Int64)) + (281474976710656 : Int64)) + (((p1.toInt64) * (n.toInt64)) + (r.toInt64)))), .second, rv b_2, .val (.double (FP.ddiv (FP.l2d ((((q5 &&& (4611686018427387903 : Int64)) + (281474976710656 : Int64)) + (((p1.toInt64) * (n.toInt64)) + (r.toInt64))) - ((q5 &&& (4611686018427387903 : Int64)) + (281474976710656 : Int64)))) (FP.i2d n))), .second, .val (.double (FP.i2d p1)), .second, .val (.double (FP.dadd (FP.i2d p1) FP.dconst1)), .second, iv 1]) rfl (o_iload X_5 Hq at_176 rfl ?_))))))))))))
    have Kp_10 : Keep h0 T_3.heap [] := (((Keep.refl h0 []).ext E_2).trans K_3 (allS (Or.inr sz_2) all0))
    exact e_Z X_5 e_5 Hq hlk hrt at_178 ⟨rfl, N_5, Kp_10⟩
   ·refine o_icmpYes X_5 Hq (pc' := 176) at_149 (feq hc149__9).2 (o_iload X_5 Hq at_176 rfl ?_)
    have Kp_11 : Keep h0 T_3.heap [] := (((Keep.refl h0 []).ext E_2).trans K_3 (allS (Or.inr sz_2) all0))
    exact e_Z X_5 e_5 Hq hlk hrt at_178 ⟨rfl, N_5, Kp_11⟩
  ·refine o_ifYes X_5 Hq (pc' := 120) at_99 (feq hc99__8).2 (o_dload X_5 Hq at_120 rfl (o_dload X_5 Hq at_122 rfl (o_dcmp X_5 Hq at_124 (o_ifNo X_5 Hq at_125 (tlt (own_k2 Fg hc99__8)).2.1 (o_dload X_5 Hq at_128 rfl (o_dload X_5 Hq at_130 rfl (o_dcmp X_5 Hq at_132 (o_ifNo X_5 Hq at_133 (tlt (own_k3 Fg)).2.1 (o_iconst X_5 Hq 1 at_136 rfl (o_goto X_5 Hq (pc' := 141) at_137 (o_istore X_5 Hq at_141 (l' := #[iv p1, iv p2, iv p3, iv p4, .val (.long q5), .second, iv n, iv r, .val (.long (p1.toInt64)), .second, .val (.long (((p1.toInt64) * (n.toInt64)) + (r.toInt64))), .second, .val (.long ((q5 &&& (4611686018427387903 : Int64)) + (281474976710656 : Int64))), .second, .val (.long (((q5 &&& (4611686018427387903 : Int64)) + (281474976710656 : Int64)) + (((p1.toInt64) * (n.toInt64)) + (r.toInt64)))), .second, rv b_2, .val (.double (FP.ddiv (FP.l2d ((((q5 &&& (4611686018427387903 : Int64)) + (281474976710656 : Int64)) + (((p1.toInt64) * (n.toInt64)) + (r.toInt64))) - ((q5 &&& (4611686018427387903 : Int64)) + (281474976710656 : Int64)))) (FP.i2d n))), .second, .val (.double (FP.i2d p1)), .second, .val (.double (FP.dadd (FP.i2d p1) FP.dconst1)), .second, iv 1]) rfl (o_iconst X_5 Hq 2 at_143 rfl (o_iload X_5 Hq at_144 rfl (o_imul X_5 Hq at_146 (o_iload X_5 Hq at_147 rfl ?_)))))))))))))))
   by_cases hc149__12 : ((2 : Int32) * r) = n
   ·refine o_icmpNo X_5 Hq at_149 (teq hc149__12).2 (o_iload X_5 Hq at_152 rfl (o_ifNo X_5 Hq at_154 (by decide) (o_dload X_5 Hq at_157 rfl (o_dload X_5 Hq at_159 rfl (o_ldc2d X_5 Hq hown at_161 (v_ hZ hw 28 rfl) (o_dadd X_5 Hq at_164 (own_nan2 p1) (o_dcmp X_5 Hq at_165 (o_ifNo X_5 Hq at_166 (teq (own_k4 Fg hc149__12)).2 (o_iconst X_5 Hq 1 at_169 rfl (o_goto X_5 Hq (pc' := 174) at_170 (o_istore X_5 Hq at_174 (l' := #[iv p1, iv p2, iv p3, iv p4, .val (.long q5), .second, iv n, iv r, .val (.long (p1.toInt64)), .second, .val (.long (((p1.toInt64) * (n.toInt64)) + (r.toInt64))), .second, .val (.long ((q5 &&& (4611686018427387903 : Int64)) + (281474976710656 : Int64))), .second, .val (.long (((q5 &&& (4611686018427387903 : Int64)) + (281474976710656 : Int64)) + (((p1.toInt64) * (n.toInt64)) + (r.toInt64)))), .second, rv b_2, .val (.double (FP.ddiv (FP.l2d ((((q5 &&& (4611686018427387903 : Int64)) + (281474976710656 : Int64)) + (((p1.toInt64) * (n.toInt64)) + (r.toInt64))) - ((q5 &&& (4611686018427387903 : Int64)) + (281474976710656 : Int64)))) (FP.i2d n))), .second, .val (.double (FP.i2d p1)), .second, .val (.double (FP.dadd (FP.i2d p1) FP.dconst1)), .second, iv 1]) rfl (o_iload X_5 Hq at_176 rfl ?_))))))))))))
    have Kp_13 : Keep h0 T_3.heap [] := (((Keep.refl h0 []).ext E_2).trans K_3 (allS (Or.inr sz_2) all0))
    exact e_Z X_5 e_5 Hq hlk hrt at_178 ⟨rfl, N_5, Kp_13⟩
   ·refine o_icmpYes X_5 Hq (pc' := 176) at_149 (feq hc149__12).2 (o_iload X_5 Hq at_176 rfl ?_)
    have Kp_14 : Keep h0 T_3.heap [] := (((Keep.refl h0 []).ext E_2).trans K_3 (allS (Or.inr sz_2) all0))
    exact e_Z X_5 e_5 Hq hlk hrt at_178 ⟨rfl, N_5, Kp_14⟩
 ·refine o_ifNo X0 Hq at_11 (feq hc11__1).1 (o_iload X0 Hq at_14 rfl (o_iconst X0 Hq 2 at_16 rfl (o_idiv X0 Hq at_17 (by decide) (o_goto X0 Hq (pc' := 28) at_18 (o_istore X0 Hq at_28 (l' := #[iv p1, iv p2, iv p3, iv p4, .val (.long q5), .second, iv ((p2 &&& (65535 : Int32)) + (1 : Int32)), iv (((p2 &&& (65535 : Int32)) + (1 : Int32)) / (2 : Int32)), .unset, .unset, .unset, .unset, .unset, .unset, .unset, .unset, .unset, .unset, .unset, .unset, .unset, .unset, .unset, .unset]) rfl ?_)))))
  show own_Go _ _ _ _ (s₁.setTop (mkF m 30 #[iv p1, iv p2, iv p3, iv p4, .val (.long q5), .second, iv ((p2 &&& (65535 : Int32)) + (1 : Int32)), iv (((p2 &&& (65535 : Int32)) + (1 : Int32)) / (2 : Int32)), .unset, .unset, .unset, .unset, .unset, .unset, .unset, .unset, .unset, .unset, .unset, .unset, .unset, .unset, .unset, .unset] []))
  generalize hN : ((p2 &&& (65535 : Int32)) + (1 : Int32)) = n
  generalize hR : (n / (2 : Int32)) = r
  have nF := own_nF hN
  have rF := own_rB nF hR
  refine o_iloadN X0 Hq at_30 rfl (o_i2l X0 Hq at_31 (o_lstore X0 Hq at_32 (l' := #[iv p1, iv p2, iv p3, iv p4, .val (.long q5), .second, iv n, iv r, .val (.long (p1.toInt64)), .second, .unset, .unset, .unset, .unset, .unset, .unset, .unset, .unset, .unset, .unset, .unset, .unset, .unset, .unset]) rfl (o_lload X0 Hq at_34 rfl (o_iload X0 Hq at_36 rfl (o_i2l X0 Hq at_38 (o_lmul X0 Hq at_39 (o_iload X0 Hq at_40 rfl (o_i2l X0 Hq at_42 (o_ladd X0 Hq at_43 (o_lstore X0 Hq at_44 (l' := #[iv p1, iv p2, iv p3, iv p4, .val (.long q5), .second, iv n, iv r, .val (.long (p1.toInt64)), .second, .val (.long (((p1.toInt64) * (n.toInt64)) + (r.toInt64))), .second, .unset, .unset, .unset, .unset, .unset, .unset, .unset, .unset, .unset, .unset, .unset, .unset]) rfl (o_lload X0 Hq at_46 rfl (o_ldc2 X0 Hq hown at_48 (v_ hZ hw 1 rfl) (o_land X0 Hq at_51 (o_ldc2 X0 Hq hown at_52 (v_ hZ hw 2 rfl) (o_ladd X0 Hq at_55 ?_)))))))))))))))
  refine o_lstore X0 Hq at_56 (l' := #[iv p1, iv p2, iv p3, iv p4, .val (.long q5), .second, iv n, iv r, .val (.long (p1.toInt64)), .second, .val (.long (((p1.toInt64) * (n.toInt64)) + (r.toInt64))), .second, .val (.long ((q5 &&& (4611686018427387903 : Int64)) + (281474976710656 : Int64))), .second, .unset, .unset, .unset, .unset, .unset, .unset, .unset, .unset, .unset, .unset]) rfl (o_lload X0 Hq at_58 rfl (o_lload X0 Hq at_60 rfl (o_ladd X0 Hq at_62 (o_lstore X0 Hq at_63 (l' := #[iv p1, iv p2, iv p3, iv p4, .val (.long q5), .second, iv n, iv r, .val (.long (p1.toInt64)), .second, .val (.long (((p1.toInt64) * (n.toInt64)) + (r.toInt64))), .second, .val (.long ((q5 &&& (4611686018427387903 : Int64)) + (281474976710656 : Int64))), .second, .val (.long (((q5 &&& (4611686018427387903 : Int64)) + (281474976710656 : Int64)) + (((p1.toInt64) * (n.toInt64)) + (r.toInt64)))), .second, .unset, .unset, .unset, .unset, .unset, .unset, .unset, .unset]) rfl ?_))))
  obtain ⟨T_15, h_15, X_15, e_15, E_15, A_15, D_15, -, st_15⟩ := newO X0 hx hZ hown (w_ hw 3 rfl) (w_ hw 4 rfl) (w_ hw 5 rfl) e0 (g := (mkF m 65 #[iv p1, iv p2, iv p3, iv p4, .val (.long q5), .second, iv n, iv r, .val (.long (p1.toInt64)), .second, .val (.long (((p1.toInt64) * (n.toInt64)) + (r.toInt64))), .second, .val (.long ((q5 &&& (4611686018427387903 : Int64)) + (281474976710656 : Int64))), .second, .val (.long (((q5 &&& (4611686018427387903 : Int64)) + (281474976710656 : Int64)) + (((p1.toInt64) * (n.toInt64)) + (r.toInt64)))), .second, .unset, .unset, .unset, .unset, .unset, .unset, .unset, .unset] [])) rfl (hb hby at_65) (by decide) (by decide)
  obtain ⟨b_15, g_15⟩ : ∃ z, z = h0.size := ⟨_, rfl⟩
  rw [← g_15] at A_15 D_15 st_15
  have gg_15 : n0 ≤ b_15 := Nat.le_trans Z0 (Nat.le_of_eq g_15.symm)
  have sz_15 : h0.size ≤ b_15 := Nat.le_trans (Keep.refl h0 []).1 (Nat.le_of_eq g_15.symm)
  have Fi_15_elements : Fld Z h_15 b_15 "headway/bench/Footprint$Measurement" "elements" "I" (.int (0 : Int32)) := D_15 (Or.inr (w_ hw 18 rfl)) (ty := .int) (by decide)
  have Fi_15_emptyHeap : Fld Z h_15 b_15 "headway/bench/Footprint$Measurement" "emptyHeap" "J" (.long (0 : Int64)) := D_15 (Or.inr (w_ hw 20 rfl)) (ty := .long) (by decide)
  have Fi_15_fullHeap : Fld Z h_15 b_15 "headway/bench/Footprint$Measurement" "fullHeap" "J" (.long (0 : Int64)) := D_15 (Or.inr (w_ hw 22 rfl)) (ty := .long) (by decide)
  refine own_st st_15 ?_
  show own_Go _ _ _ _ (T_15.setTop (mkF m 68 #[iv p1, iv p2, iv p3, iv p4, .val (.long q5), .second, iv n, iv r, .val (.long (p1.toInt64)), .second, .val (.long (((p1.toInt64) * (n.toInt64)) + (r.toInt64))), .second, .val (.long ((q5 &&& (4611686018427387903 : Int64)) + (281474976710656 : Int64))), .second, .val (.long (((q5 &&& (4611686018427387903 : Int64)) + (281474976710656 : Int64)) + (((p1.toInt64) * (n.toInt64)) + (r.toInt64)))), .second, .unset, .unset, .unset, .unset, .unset, .unset, .unset, .unset] [(.ref b_15)]))
  refine o_dup X_15 Hq at_68 rfl (o_iload X_15 Hq at_69 rfl (o_lload X_15 Hq at_71 rfl (o_lload X_15 Hq at_73 rfl ?_)))
  have Zs_17 : n0 ≤ h_15.size := (Nat.le_trans Z0 E_15.1)
  refine c_I3v X_15 Hq e_15 hZ hown hml (k0_15 hw) (rm1 hw b_15 n ((q5 &&& (4611686018427387903 : Int64)) + (281474976710656 : Int64)) (((q5 &&& (4611686018427387903 : Int64)) + (281474976710656 : Int64)) + (((p1.toInt64) * (n.toInt64)) + (r.toInt64)))  h_15 n0 Zs_17 A_15 gg_15 Fi_15_elements Fi_15_emptyHeap Fi_15_fullHeap) at_75 ?_ 1
  rintro T_16 L_16 X_16 ⟨-, Nq_16, K_16, Fq_16_0, Fq_16_1, Fq_16_2⟩
  have N_16 := Fr.app N0 Nq_16
  refine o_astore X_16 Hq at_78 rfl (l' := #[iv p1, iv p2, iv p3, iv p4, .val (.long q5), .second, iv n, iv r, .val (.long (p1.toInt64)), .second, .val (.long (((p1.toInt64) * (n.toInt64)) + (r.toInt64))), .second, .val (.long ((q5 &&& (4611686018427387903 : Int64)) + (281474976710656 : Int64))), .second, .val (.long (((q5 &&& (4611686018427387903 : Int64)) + (281474976710656 : Int64)) + (((p1.toInt64) * (n.toInt64)) + (r.toInt64)))), .second, rv b_15, .unset, .unset, .unset, .unset, .unset, .unset, .unset]) rfl (o_aload X_16 Hq at_80 rfl rfl ?_)
  have Fg : own_fig p1 n r ((((q5 &&& (4611686018427387903 : Int64)) + (281474976710656 : Int64)) + (((p1.toInt64) * (n.toInt64)) + (r.toInt64))) - ((q5 &&& (4611686018427387903 : Int64)) + (281474976710656 : Int64))) := own_figI nF rF
  have Zs_19 : n0 ≤ T_16.heap.size := (Nat.le_trans Zs_17 K_16.1)
  have Fa_20 := (A_15.keep K_16)
  refine c_U0 X_16 Hq rfl hZ hown hml (k0_18U1 hw) (rm4 hw b_15 n ((q5 &&& (4611686018427387903 : Int64)) + (281474976710656 : Int64)) (((q5 &&& (4611686018427387903 : Int64)) + (281474976710656 : Int64)) + (((p1.toInt64) * (n.toInt64)) + (r.toInt64))) T_16.heap n0 Zs_19 Fq_16_0 Fq_16_1 Fq_16_2 (own_nanb Fg)) Fa_20 at_82 ?_ 0
  rintro T_18 L_18 _ X_18 ⟨⟨⟩, Nq_18, e_18⟩
  have N_18 := Fr.app N_16 Nq_18
  refine o_dstore X_18 Hq at_85 (l' := #[iv p1, iv p2, iv p3, iv p4, .val (.long q5), .second, iv n, iv r, .val (.long (p1.toInt64)), .second, .val (.long (((p1.toInt64) * (n.toInt64)) + (r.toInt64))), .second, .val (.long ((q5 &&& (4611686018427387903 : Int64)) + (281474976710656 : Int64))), .second, .val (.long (((q5 &&& (4611686018427387903 : Int64)) + (281474976710656 : Int64)) + (((p1.toInt64) * (n.toInt64)) + (r.toInt64)))), .second, rv b_15, .val (.double (FP.ddiv (FP.l2d ((((q5 &&& (4611686018427387903 : Int64)) + (281474976710656 : Int64)) + (((p1.toInt64) * (n.toInt64)) + (r.toInt64))) - ((q5 &&& (4611686018427387903 : Int64)) + (281474976710656 : Int64)))) (FP.i2d n))), .second, .unset, .unset, .unset, .unset, .unset]) rfl (o_iloadN X_18 Hq at_87 rfl (o_i2d X_18 Hq at_88 (o_dstore X_18 Hq at_89 (l' := #[iv p1, iv p2, iv p3, iv p4, .val (.long q5), .second, iv n, iv r, .val (.long (p1.toInt64)), .second, .val (.long (((p1.toInt64) * (n.toInt64)) + (r.toInt64))), .second, .val (.long ((q5 &&& (4611686018427387903 : Int64)) + (281474976710656 : Int64))), .second, .val (.long (((q5 &&& (4611686018427387903 : Int64)) + (281474976710656 : Int64)) + (((p1.toInt64) * (n.toInt64)) + (r.toInt64)))), .second, rv b_15, .val (.double (FP.ddiv (FP.l2d ((((q5 &&& (4611686018427387903 : Int64)) + (281474976710656 : Int64)) + (((p1.toInt64) * (n.toInt64)) + (r.toInt64))) - ((q5 &&& (4611686018427387903 : Int64)) + (281474976710656 : Int64)))) (FP.i2d n))), .second, .val (.double (FP.i2d p1)), .second, .unset, .unset, .unset]) rfl (o_dload X_18 Hq at_91 rfl (o_dconst1 X_18 Hq at_93 (o_dadd X_18 Hq at_94 (own_nan1 p1) (o_dstore X_18 Hq at_95 (l' := #[iv p1, iv p2, iv p3, iv p4, .val (.long q5), .second, iv n, iv r, .val (.long (p1.toInt64)), .second, .val (.long (((p1.toInt64) * (n.toInt64)) + (r.toInt64))), .second, .val (.long ((q5 &&& (4611686018427387903 : Int64)) + (281474976710656 : Int64))), .second, .val (.long (((q5 &&& (4611686018427387903 : Int64)) + (281474976710656 : Int64)) + (((p1.toInt64) * (n.toInt64)) + (r.toInt64)))), .second, rv b_15, .val (.double (FP.ddiv (FP.l2d ((((q5 &&& (4611686018427387903 : Int64)) + (281474976710656 : Int64)) + (((p1.toInt64) * (n.toInt64)) + (r.toInt64))) - ((q5 &&& (4611686018427387903 : Int64)) + (281474976710656 : Int64)))) (FP.i2d n))), .second, .val (.double (FP.i2d p1)), .second, .val (.double (FP.dadd (FP.i2d p1) FP.dconst1)), .second, .unset]) rfl (o_iload X_18 Hq at_97 rfl ?_))))))))
  by_cases hc99__21 : r = (0 : Int32)
  ·refine o_ifNo X_18 Hq at_99 (teq hc99__21).2 (o_dload X_18 Hq at_102 rfl (o_dload X_18 Hq at_104 rfl (o_dcmp X_18 Hq at_106 (o_ifNo X_18 Hq at_107 (teq (own_k1 Fg hc99__21)).2 (o_iconst X_18 Hq 1 at_110 rfl (o_goto X_18 Hq (pc' := 115) at_111 (o_istore X_18 Hq at_115 (l' := #[iv p1, iv p2, iv p3, iv p4, .val (.long q5), .second, iv n, iv r, .val (.long (p1.toInt64)), .second, .val (.long (((p1.toInt64) * (n.toInt64)) + (r.toInt64))), .second, .val (.long ((q5 &&& (4611686018427387903 : Int64)) + (281474976710656 : Int64))), .second, .val (.long (((q5 &&& (4611686018427387903 : Int64)) + (281474976710656 : Int64)) + (((p1.toInt64) * (n.toInt64)) + (r.toInt64)))), .second, rv b_15, .val (.double (FP.ddiv (FP.l2d ((((q5 &&& (4611686018427387903 : Int64)) + (281474976710656 : Int64)) + (((p1.toInt64) * (n.toInt64)) + (r.toInt64))) - ((q5 &&& (4611686018427387903 : Int64)) + (281474976710656 : Int64)))) (FP.i2d n))), .second, .val (.double (FP.i2d p1)), .second, .val (.double (FP.dadd (FP.i2d p1) FP.dconst1)), .second, iv 1]) rfl (o_goto X_18 Hq (pc' := 143) at_117 (o_iconst X_18 Hq 2 at_143 rfl (o_iload X_18 Hq at_144 rfl (o_imul X_18 Hq at_146 (o_iload X_18 Hq at_147 rfl ?_))))))))))))
   by_cases hc149__22 : ((2 : Int32) * r) = n
   ·refine o_icmpNo X_18 Hq at_149 (teq hc149__22).2 (o_iload X_18 Hq at_152 rfl (o_ifNo X_18 Hq at_154 (by decide) (o_dload X_18 Hq at_157 rfl (o_dload X_18 Hq at_159 rfl (o_ldc2d X_18 Hq hown at_161 (v_ hZ hw 28 rfl) (o_dadd X_18 Hq at_164 (own_nan2 p1) (o_dcmp X_18 Hq at_165 (o_ifNo X_18 Hq at_166 (teq (own_k4 Fg hc149__22)).2 (o_iconst X_18 Hq 1 at_169 rfl (o_goto X_18 Hq (pc' := 174) at_170 (o_istore X_18 Hq at_174 (l' := #[iv p1, iv p2, iv p3, iv p4, .val (.long q5), .second, iv n, iv r, .val (.long (p1.toInt64)), .second, .val (.long (((p1.toInt64) * (n.toInt64)) + (r.toInt64))), .second, .val (.long ((q5 &&& (4611686018427387903 : Int64)) + (281474976710656 : Int64))), .second, .val (.long (((q5 &&& (4611686018427387903 : Int64)) + (281474976710656 : Int64)) + (((p1.toInt64) * (n.toInt64)) + (r.toInt64)))), .second, rv b_15, .val (.double (FP.ddiv (FP.l2d ((((q5 &&& (4611686018427387903 : Int64)) + (281474976710656 : Int64)) + (((p1.toInt64) * (n.toInt64)) + (r.toInt64))) - ((q5 &&& (4611686018427387903 : Int64)) + (281474976710656 : Int64)))) (FP.i2d n))), .second, .val (.double (FP.i2d p1)), .second, .val (.double (FP.dadd (FP.i2d p1) FP.dconst1)), .second, iv 1]) rfl (o_iload X_18 Hq at_176 rfl ?_))))))))))))
    have Kp_23 : Keep h0 T_16.heap [] := (((Keep.refl h0 []).ext E_15).trans K_16 (allS (Or.inr sz_15) all0))
    exact e_Z X_18 e_18 Hq hlk hrt at_178 ⟨rfl, N_18, Kp_23⟩
   ·refine o_icmpYes X_18 Hq (pc' := 176) at_149 (feq hc149__22).2 (o_iload X_18 Hq at_176 rfl ?_)
    have Kp_24 : Keep h0 T_16.heap [] := (((Keep.refl h0 []).ext E_15).trans K_16 (allS (Or.inr sz_15) all0))
    exact e_Z X_18 e_18 Hq hlk hrt at_178 ⟨rfl, N_18, Kp_24⟩
  ·refine o_ifYes X_18 Hq (pc' := 120) at_99 (feq hc99__21).2 (o_dload X_18 Hq at_120 rfl (o_dload X_18 Hq at_122 rfl (o_dcmp X_18 Hq at_124 (o_ifNo X_18 Hq at_125 (tlt (own_k2 Fg hc99__21)).2.1 (o_dload X_18 Hq at_128 rfl (o_dload X_18 Hq at_130 rfl (o_dcmp X_18 Hq at_132 (o_ifNo X_18 Hq at_133 (tlt (own_k3 Fg)).2.1 (o_iconst X_18 Hq 1 at_136 rfl (o_goto X_18 Hq (pc' := 141) at_137 (o_istore X_18 Hq at_141 (l' := #[iv p1, iv p2, iv p3, iv p4, .val (.long q5), .second, iv n, iv r, .val (.long (p1.toInt64)), .second, .val (.long (((p1.toInt64) * (n.toInt64)) + (r.toInt64))), .second, .val (.long ((q5 &&& (4611686018427387903 : Int64)) + (281474976710656 : Int64))), .second, .val (.long (((q5 &&& (4611686018427387903 : Int64)) + (281474976710656 : Int64)) + (((p1.toInt64) * (n.toInt64)) + (r.toInt64)))), .second, rv b_15, .val (.double (FP.ddiv (FP.l2d ((((q5 &&& (4611686018427387903 : Int64)) + (281474976710656 : Int64)) + (((p1.toInt64) * (n.toInt64)) + (r.toInt64))) - ((q5 &&& (4611686018427387903 : Int64)) + (281474976710656 : Int64)))) (FP.i2d n))), .second, .val (.double (FP.i2d p1)), .second, .val (.double (FP.dadd (FP.i2d p1) FP.dconst1)), .second, iv 1]) rfl (o_iconst X_18 Hq 2 at_143 rfl (o_iload X_18 Hq at_144 rfl (o_imul X_18 Hq at_146 (o_iload X_18 Hq at_147 rfl ?_)))))))))))))))
   by_cases hc149__25 : ((2 : Int32) * r) = n
   ·refine o_icmpNo X_18 Hq at_149 (teq hc149__25).2 (o_iload X_18 Hq at_152 rfl (o_ifNo X_18 Hq at_154 (by decide) (o_dload X_18 Hq at_157 rfl (o_dload X_18 Hq at_159 rfl (o_ldc2d X_18 Hq hown at_161 (v_ hZ hw 28 rfl) (o_dadd X_18 Hq at_164 (own_nan2 p1) (o_dcmp X_18 Hq at_165 (o_ifNo X_18 Hq at_166 (teq (own_k4 Fg hc149__25)).2 (o_iconst X_18 Hq 1 at_169 rfl (o_goto X_18 Hq (pc' := 174) at_170 (o_istore X_18 Hq at_174 (l' := #[iv p1, iv p2, iv p3, iv p4, .val (.long q5), .second, iv n, iv r, .val (.long (p1.toInt64)), .second, .val (.long (((p1.toInt64) * (n.toInt64)) + (r.toInt64))), .second, .val (.long ((q5 &&& (4611686018427387903 : Int64)) + (281474976710656 : Int64))), .second, .val (.long (((q5 &&& (4611686018427387903 : Int64)) + (281474976710656 : Int64)) + (((p1.toInt64) * (n.toInt64)) + (r.toInt64)))), .second, rv b_15, .val (.double (FP.ddiv (FP.l2d ((((q5 &&& (4611686018427387903 : Int64)) + (281474976710656 : Int64)) + (((p1.toInt64) * (n.toInt64)) + (r.toInt64))) - ((q5 &&& (4611686018427387903 : Int64)) + (281474976710656 : Int64)))) (FP.i2d n))), .second, .val (.double (FP.i2d p1)), .second, .val (.double (FP.dadd (FP.i2d p1) FP.dconst1)), .second, iv 1]) rfl (o_iload X_18 Hq at_176 rfl ?_))))))))))))
    have Kp_26 : Keep h0 T_16.heap [] := (((Keep.refl h0 []).ext E_15).trans K_16 (allS (Or.inr sz_15) all0))
    exact e_Z X_18 e_18 Hq hlk hrt at_178 ⟨rfl, N_18, Kp_26⟩
   ·refine o_icmpYes X_18 Hq (pc' := 176) at_149 (feq hc149__25).2 (o_iload X_18 Hq at_176 rfl ?_)
    have Kp_27 : Keep h0 T_16.heap [] := (((Keep.refl h0 []).ext E_15).trans K_16 (allS (Or.inr sz_15) all0))
    exact e_Z X_18 e_18 Hq hlk hrt at_178 ⟨rfl, N_18, Kp_27⟩
theorem comes_1 {Post : Tables → Env → Array Value → State → Outcome → State → Prop} (hpost : ∀ tb e args s v u, (limb_1_1.after args s (.returned v) u = true ∧ limb_1_2.after args s (.returned v) u = true ∧ True) → FrameEnd s (.returned v) u (Jvm.fieldLocs frame_1_writes args s ++ Jvm.arrayLocs frame_1_arrays args s ++ Jvm.staticLocs frame_1_statics s) 16 128 → Post tb e args s (.returned v) u) :
  ArmFor flags0 classFile x code maxLocals ret World_1 tables_1 room_1 Calls_1 rest_1 Pre_1 Post := by
 intro l hfl _ _ p e ha hc hk s m args below hf hA hF happ hP
 obtain ⟨hcalls, hrest, hpre⟩ := hP
 obtain ⟨-, -, -, hnamed, -, -, -, hat⟩ := (Spec.applies_iff hf).mp happ
 obtain ⟨hg, hn⟩ := and_e (Cond.before_iff.mp (show (Jvm.Cond.and given_1 narrow_1).before args s = true from hpre))
 obtain ⟨g1, g2⟩ := and_e hg
 obtain ⟨g3, g4⟩ := and_e g2
 obtain ⟨g5, g6⟩ := and_e g4
 obtain ⟨g7, g8⟩ := and_e g6
 obtain ⟨g9, g10⟩ := and_e g8
 obtain ⟨w0, w1, w2, w3, w4, rfl⟩ : ∃ w0 w1 w2 w3 w4 : Value, args = #[w0, w1, w2, w3, w4] := by
  have hs : args.size = 5 := by simpa [Cond.value, given_1] using g1
  obtain ⟨L⟩ := args
  match L, hs with
  | [w0, w1, w2, w3, w4], _ => exact ⟨w0, w1, w2, w3, w4, rfl⟩
 have hw := fun d (hd : d ∈ tables_1) => atoms_spec (ws := Jvm.Cond.code x code maxLocals ret :: tables_1) hat d (List.mem_cons_of_mem _ hd)
 have hfit : Fit s := fun {y c} hc i hi => by
  obtain ⟨ha, rfl⟩ := Array.getElem?_eq_some_iff.mp hc
  have q := List.all_eq_true.mp ((Array.all_eq_true_iff_forall_mem.mp hF) _ (Array.getElem_mem ha)) i (List.mem_range.mpr hi)
  simpa [Array.getElem?_eq_getElem hi] using q
 obtain ⟨i0, ei0⟩ := is_v g3
 obtain rfl : w0 = (.int i0) := Option.some.inj ei0
 obtain ⟨i1, ei1⟩ := is_v g5
 obtain rfl : w1 = (.int i1) := Option.some.inj ei1
 obtain ⟨i2, ei2⟩ := is_v g7
 obtain rfl : w2 = (.int i2) := Option.some.inj ei2
 obtain ⟨i3, ei3⟩ := is_v g9
 obtain rfl : w3 = (.int i3) := Option.some.inj ei3
 obtain ⟨i4, ei4⟩ := isL_v g10
 obtain rfl : w4 = (.long i4) := Option.some.inj ei4
 obtain ⟨n, o, h1, h2, h3, _, L, rfl, ⟨rfl, N, -⟩, hq⟩ := rm0 l s _ hw tables_1 i0 i1 i2 i3 i4  s.heap s.heap.size (Nat.le_refl _)  p e ha hc hk s m _ below hf ((Spec.applies_iff_loose hf).mp happ).1 ⟨rfl, State.Warmed39.refl s, rfl⟩ trivial
 refine ⟨n, _, h1, h2, h3, hpost _ _ _ _ _ _ ⟨Cond.after_iff.mpr rfl, Cond.after_iff.mpr (eq_i res_at (Term.int_eval (1)) rfl), trivial⟩ ⟨hq.1, hq.2.1, (hq.2.2.sift fun y hy => Or.inr (N y hy)).mono (by decide) (by decide)⟩⟩
theorem main_1_1 : Claimed_1_1 := comes_1 fun _ _ _ _ _ _ h hF => ⟨h.1, hF⟩
theorem main_1_2 : Claimed_1_2 := comes_1 fun _ _ _ _ _ _ h hF => ⟨h.2.1, hF⟩
end Jvm.Pilot.@@N@@
namespace Jvm.Pilot.@@N@@
open Jvm Jvm.ClassFile Sem Op Lib Jvm.Free Jvm.Stand Jvm.Pilot.@@N@@.Jvm.D
/-! MADE BY PROGRAM (witnessworld.py) out of the Statement's table words and the real class files: 10 classes; the members and pool entries that the words name. The judged class is class 1, her method 1. -/
namespace start1
open Jvm.ClassFile
def u (s : String) : CpInfo := .utf8 (stringToUtf16 s)
/-- a pool by its gaps: so many unusable entries, then the entry; so many at the end -/
def gap : Nat → List CpInfo → List CpInfo
  | 0, r => r
  | n + 1, r => .unusable :: gap n r
def poolList (es : List (Nat × CpInfo)) (last : Nat) : List CpInfo := es.foldr (fun e r => gap e.1 (e.2 :: r)) (gap last [])
def pool (es : List (Nat × CpInfo)) (last : Nat) : Array CpInfo := ⟨poolList es last⟩
def fileOf (pool : Array CpInfo) (this : Nat) (attrs : Array Attribute := #[]) (ms : Array MethodInfo := #[]) (fl : Nat := 33) (sup : Nat := 0) (ifs : Array Nat := #[]) (fds : Array FieldInfo := #[]) : ClassFile where
  minorVersion := 0
  majorVersion := 65
  constantPool := pool
  accessFlags := fl
  thisClass := this
  superClass := sup
  interfaces := ifs
  fields := fds
  methods := ms
  attributes := attrs
def plain (name : String) (sup : Option ClassId) : Class where
  name := name
  kind := .ordinary
  loader := none
  accessFlags := 33
  super := sup
  interfaces := #[]
  cf := none
  fields := #[]
  methods := #[]
  instanceTypes := #[]
  staticTypes := #[]
  resolved := #[]
  callSites := []
  init := .initialized
  statics := none
  mirror := none

def pool0 : Array CpInfo := pool [(5, u "<init>"), (0, u "()V"), (1, .class_ 10), (1, u "java/lang/Object")] 113

def k0c0 : Code := { maxStack := 0, maxLocals := 1, code := object_method_1_code, exceptionTable := #[], attributes := #[] }
def k0m0 : Method := { name := "<init>", desc := "()V", sig := { parameters := [], returnType := none }, accessFlags := 1, code := some k0c0 }
/-- java/lang/Object -/
def k0 : Class := { plain "java/lang/Object" none with
  accessFlags := 33
  interfaces := #[]
  cf := some (fileOf pool0 8 #[] #[{ accessFlags := 1, nameIndex := 5, descriptorIndex := 6, attributes := #[] }] 33 0 #[] #[])
  fields := #[]
  methods := #[k0m0]
  instanceTypes := #[]
  staticTypes := #[]
  resolved := Array.replicate 124 none
  statics := none }

def pool1 : Array CpInfo := pool [(2, .class_ 4), (1, u "java/lang/Object"), (0, u "<init>"), (0, u "()V"), (0, .integer 65535), (0, .integer 2147483647), (0, .long 4611686018427387903), (1, .long 281474976710656), (1, .class_ 14), (0, u "headway/bench/Footprint$Measurement"), (0, .methodref 13 16), (0, .nameAndType 5 17), (0, u "(IJJ)V"), (0, .methodref 13 19), (0, .nameAndType 20 21), (0, u "bytesPerElement"), (0, u "()D"), (0, .double 4602678819172646912), (1, .class_ 25), (0, u "headway/bench/MeasurementBytesPerElementPinLaw"), (2, u "law"), (0, u "(IIIIJ)Z")] 7

def k1m0 : Method := { name := "<init>", desc := "()V", sig := { parameters := [], returnType := none }, accessFlags := 2, code := none }
def k1c1 : Code := { maxStack := 7, maxLocals := 24, code := code, exceptionTable := #[], attributes := #[] }
def k1m1 : Method := { name := "law", desc := "(IIIIJ)Z", sig := { parameters := [.int, .int, .int, .int, .long], returnType := some .boolean }, accessFlags := 9, code := some k1c1 }
/-- headway/bench/MeasurementBytesPerElementPinLaw -/
def k1 : Class := { plain "headway/bench/MeasurementBytesPerElementPinLaw" (some 0) with
  accessFlags := 49
  interfaces := #[]
  cf := some (fileOf pool1 24 #[] #[{ accessFlags := 2, nameIndex := 5, descriptorIndex := 6, attributes := #[] }, { accessFlags := 9, nameIndex := 28, descriptorIndex := 29, attributes := #[] }] 49 2 #[] #[])
  fields := #[]
  methods := #[k1m0, k1m1]
  instanceTypes := #[]
  staticTypes := #[]
  resolved := Array.replicate 37 none
  statics := none }

def pool2 : Array CpInfo := pool [(1, .methodref 2 3), (0, .class_ 4), (0, .nameAndType 5 6), (0, u "java/lang/Object"), (0, u "<init>"), (0, u "()V"), (0, .class_ 8), (0, u "java/lang/Record")] 13

def k2c0 : Code := { maxStack := 1, maxLocals := 1, code := jdk_30_method_1_code, exceptionTable := #[], attributes := #[] }
def k2m0 : Method := { name := "<init>", desc := "()V", sig := { parameters := [], returnType := none }, accessFlags := 4, code := some k2c0 }
/-- java/lang/Record -/
def k2 : Class := { plain "java/lang/Record" (some 0) with
  accessFlags := 1057
  interfaces := #[]
  cf := some (fileOf pool2 7 #[] #[{ accessFlags := 4, nameIndex := 5, descriptorIndex := 6, attributes := #[] }] 1057 2 #[] #[])
  fields := #[]
  methods := #[k2m0]
  instanceTypes := #[]
  staticTypes := #[]
  resolved := Array.replicate 22 none
  statics := none }

def pool3 : Array CpInfo := pool [(1, .methodref 2 3), (0, .class_ 4), (0, .nameAndType 5 6), (0, u "java/lang/Record"), (0, u "<init>"), (0, u "()V"), (0, .fieldref 8 9), (0, .class_ 10), (0, .nameAndType 11 12), (0, u "headway/bench/Footprint$Measurement"), (0, u "elements"), (0, u "I"), (0, .fieldref 8 14), (0, .nameAndType 15 16), (0, u "emptyHeap"), (0, u "J"), (0, .fieldref 8 18), (0, .nameAndType 19 16), (0, u "fullHeap"), (12, u "(IJJ)V"), (3, u "bytesPerElement"), (0, u "()D"), (7, .class_ 46), (0, u "headway/bench/Footprint")] 21

def k3c0 : Code := { maxStack := 3, maxLocals := 6, code := prog_14_method_1_code, exceptionTable := #[], attributes := #[] }
def k3m0 : Method := { name := "<init>", desc := "(IJJ)V", sig := { parameters := [.int, .long, .long], returnType := none }, accessFlags := 1, code := some k3c0 }
def k3c1 : Code := { maxStack := 4, maxLocals := 1, code := prog_14_method_2_code, exceptionTable := #[], attributes := #[] }
def k3m1 : Method := { name := "bytesPerElement", desc := "()D", sig := { parameters := [], returnType := some .double }, accessFlags := 1, code := some k3c1 }
/-- headway/bench/Footprint$Measurement -/
def k3 : Class := { plain "headway/bench/Footprint$Measurement" (some 2) with
  accessFlags := 49
  interfaces := #[]
  cf := some (fileOf pool3 8 #[.nestHost 45] #[{ accessFlags := 1, nameIndex := 5, descriptorIndex := 32, attributes := #[] }, { accessFlags := 1, nameIndex := 36, descriptorIndex := 37, attributes := #[] }] 49 2 #[] #[{ accessFlags := 18, nameIndex := 11, descriptorIndex := 12, attributes := #[] }, { accessFlags := 18, nameIndex := 15, descriptorIndex := 16, attributes := #[] }, { accessFlags := 18, nameIndex := 19, descriptorIndex := 16, attributes := #[] }])
  fields := #[{ name := "elements", type := .int, accessFlags := 18, slot := 0, constantValue := 0 }, { name := "emptyHeap", type := .long, accessFlags := 18, slot := 1, constantValue := 0 }, { name := "fullHeap", type := .long, accessFlags := 18, slot := 2, constantValue := 0 }]
  methods := #[k3m0, k3m1]
  instanceTypes := #[.int, .long, .long]
  staticTypes := #[]
  resolved := Array.replicate 68 none
  statics := none }

def pool4 : Array CpInfo := pool [(1, u "java/lang/Cloneable"), (0, .class_ 1), (0, u "java/lang/Object"), (0, .class_ 3)] 3

/-- java/lang/Cloneable -/
def k4 : Class := { plain "java/lang/Cloneable" (some 0) with
  accessFlags := 1537
  interfaces := #[]
  cf := some (fileOf pool4 2 #[] #[] 1537 4 #[] #[])
  fields := #[]
  methods := #[]
  instanceTypes := #[]
  staticTypes := #[]
  resolved := Array.replicate 8 none
  statics := none }

def pool5 : Array CpInfo := pool [(1, u "java/io/Serializable"), (0, .class_ 1), (0, u "java/lang/Object"), (0, .class_ 3)] 3

/-- java/io/Serializable -/
def k5 : Class := { plain "java/io/Serializable" (some 0) with
  accessFlags := 1537
  interfaces := #[]
  cf := some (fileOf pool5 2 #[] #[] 1537 4 #[] #[])
  fields := #[]
  methods := #[]
  instanceTypes := #[]
  staticTypes := #[]
  resolved := Array.replicate 8 none
  statics := none }

/-- the primitive byte -/
def k6 : Class := { plain "byte" none with kind := .primitive 'B', accessFlags := 0x411 }
/-- [B -/
def k7 : Class := { plain "[B" (some 0) with kind := .array 6 .byte, interfaces := #[4, 5], accessFlags := 1041 }

/-- the primitive int -/
def k8 : Class := { plain "int" none with kind := .primitive 'I', accessFlags := 0x411 }
/-- [I -/
def k9 : Class := { plain "[I" (some 0) with kind := .array 8 .int, interfaces := #[4, 5], accessFlags := 1041 }

def heap : Heap := #[]
def classes : Array Class := #[k0, k1, k2, k3, k4, k5, k6, k7, k8, k9]
def interned : List (Array UInt16 × Addr) := []
def slotsUsed : Nat := 0
def theMethod : MethodId := ⟨1, 1⟩
def args0 : Array Value := #[.int 5, .int 5, .int 5, .int 5, .long 5]
def aboutOver (below : List Frame) : State where
  vm := { classes := classes, interned := interned.toArray }
  heap := heap
  slotsUsed := slotsUsed
  threads := #[{ frames := .invoking theMethod args0 :: below }]
def below0 : List Frame := [.native { method := ⟨0, 0⟩, args := #[] }]
def about1 : State := aboutOver below0
def p0 : Program := .bare "" "" ""
def e0 : Env := launch0.env 0 0 0
theorem w_frames : about1.frames = Frame.invoking theMethod args0 :: below0 := rfl
set_option maxRecDepth 65536 in
theorem w_args : argsFit about1.vm theMethod args0 = true := by decide +kernel
set_option maxRecDepth 65536 in
theorem w_heap : heapFits about1 = true := by decide +kernel
set_option maxRecDepth 65536 in
theorem w_runnable : about1.curStatus? = some .runnable := by decide +kernel
set_option maxRecDepth 65536 in
theorem w_alone : about1.alone = true := by decide +kernel
set_option maxRecDepth 65536 in
theorem w_named : about1.methodNamed? x = some theMethod := by decide +kernel
set_option maxRecDepth 65536 in
theorem w_hears : about1.hears theMethod below0 = true := by decide +kernel
set_option maxRecDepth 65536 in
theorem w_ripe : about1.ripe theMethod args0 below0 = true := by decide +kernel
theorem w_running : about1.status = .running := rfl
set_option maxRecDepth 65536 in
theorem w_room : about1.hasRoom e0.platform room_1 = true :=
  launch0.hasRoom_least _ room_1 (by decide +kernel) (by decide +kernel) (by decide +kernel) (by decide +kernel) (by decide +kernel) (by decide +kernel)
theorem allAtoms_all (ts : List Jvm.Cond) (a : Array Jvm.Value) (st : Jvm.State) : (allAtoms ts).before a st = ts.all (fun c => c.before a st) := by
  induction ts with
  | nil => rfl
  | cons c t ih =>
    show (Jvm.Cond.and c (allAtoms t)).before a st = _
    rw [Jvm.Cond.before_and, ih, List.all_cons]
def words1 : List Jvm.Cond := Jvm.Cond.code x code maxLocals ret :: tables_1
/-- a 'code' word, met by the world's own term for the bytes: nothing is compared byte by byte -/
theorem code_word {y : MethodName} {bytes : ByteArray} {mx : Nat} {rt : Option FieldType} {a : Array Value} {s : State} {m : MethodId} {meth : Method} {c : Code} (h1 : s.methodNamed? y = some m) (h2 : s.vm.method? m = some meth) (h3 : meth.code = some c) (h4 : c.code = bytes)
    (h5 : (c.maxLocals == mx && c.exceptionTable.isEmpty && decide (c.maxStack ≤ mostOperands) && decide (meth.sig.returnType = rt) && !meth.locks && decide (parseMethodDescriptor y.desc = some meth.sig)) = true) : (Jvm.Cond.code y bytes mx rt).before a s = true := by
  simp only [Bool.and_eq_true, beq_iff_eq, Bool.not_eq_true', decide_eq_true_eq] at h5
  obtain ⟨⟨⟨⟨⟨g1, g2⟩, g3⟩, g4⟩, g5⟩, g6⟩ := h5
  simp [Cond.before, Cond.holds, Cond.value, h1, h2, h3, h4, g1, g2, g3, g4, g5, g6]
def isCode : Jvm.Cond → Bool
  | .code _ _ _ _ => true
  | _ => false
theorem all_split {L : List Jvm.Cond} {P : Jvm.Cond → Bool} (h1 : L.all (fun c => isCode c || P c) = true) (h2 : ∀ c ∈ L.filter isCode, P c = true) : L.all P = true := by
  refine List.all_eq_true.mpr fun c hc => ?_
  have h := List.all_eq_true.mp h1 c hc
  rcases Bool.eq_false_or_eq_true (isCode c) with hi | hi
  · exact h2 c (List.mem_filter.mpr ⟨hc, hi⟩)
  · simpa [hi] using h
set_option maxRecDepth 65536 in
theorem w_c0 : (Jvm.Cond.code x code maxLocals ret).before args0 about1 = true := code_word (m := ⟨1, 1⟩) (meth := k1m1) (c := k1c1) (by decide +kernel) rfl rfl rfl (by decide +kernel)
set_option maxRecDepth 65536 in
theorem w_c1 : (Jvm.Cond.code ({ cls := "headway/bench/Footprint$Measurement", name := "<init>", desc := "(IJJ)V" } : Jvm.MethodName) prog_14_method_1_code (6 : Nat) (Option.none : Option Jvm.ClassFile.FieldType)).before args0 about1 = true := code_word (m := ⟨3, 0⟩) (meth := k3m0) (c := k3c0) (by decide +kernel) rfl rfl rfl (by decide +kernel)
set_option maxRecDepth 65536 in
theorem w_c2 : (Jvm.Cond.code ({ cls := "java/lang/Record", name := "<init>", desc := "()V" } : Jvm.MethodName) jdk_30_method_1_code (1 : Nat) (Option.none : Option Jvm.ClassFile.FieldType)).before args0 about1 = true := code_word (m := ⟨2, 0⟩) (meth := k2m0) (c := k2c0) (by decide +kernel) rfl rfl rfl (by decide +kernel)
set_option maxRecDepth 65536 in
theorem w_c3 : (Jvm.Cond.code ({ cls := "java/lang/Object", name := "<init>", desc := "()V" } : Jvm.MethodName) object_method_1_code (1 : Nat) (Option.none : Option Jvm.ClassFile.FieldType)).before args0 about1 = true := code_word (m := ⟨0, 0⟩) (meth := k0m0) (c := k0c0) (by decide +kernel) rfl rfl rfl (by decide +kernel)
set_option maxRecDepth 65536 in
theorem w_c4 : (Jvm.Cond.code ({ cls := "headway/bench/Footprint$Measurement", name := "bytesPerElement", desc := "()D" } : Jvm.MethodName) prog_14_method_2_code (1 : Nat) (Option.some Jvm.ClassFile.FieldType.double)).before args0 about1 = true := code_word (m := ⟨3, 1⟩) (meth := k3m1) (c := k3c1) (by decide +kernel) rfl rfl rfl (by decide +kernel)
def codes1 : List Jvm.Cond := [Jvm.Cond.code x code maxLocals ret, Jvm.Cond.code ({ cls := "headway/bench/Footprint$Measurement", name := "<init>", desc := "(IJJ)V" } : Jvm.MethodName) prog_14_method_1_code (6 : Nat) (Option.none : Option Jvm.ClassFile.FieldType), Jvm.Cond.code ({ cls := "java/lang/Record", name := "<init>", desc := "()V" } : Jvm.MethodName) jdk_30_method_1_code (1 : Nat) (Option.none : Option Jvm.ClassFile.FieldType), Jvm.Cond.code ({ cls := "java/lang/Object", name := "<init>", desc := "()V" } : Jvm.MethodName) object_method_1_code (1 : Nat) (Option.none : Option Jvm.ClassFile.FieldType), Jvm.Cond.code ({ cls := "headway/bench/Footprint$Measurement", name := "bytesPerElement", desc := "()D" } : Jvm.MethodName) prog_14_method_2_code (1 : Nat) (Option.some Jvm.ClassFile.FieldType.double)]
set_option maxRecDepth 65536 in
theorem codes_eq : words1.filter isCode = codes1 := rfl
theorem w_codes : ∀ c ∈ words1.filter isCode, c.before args0 about1 = true := by
  rw [codes_eq]
  intro c hc
  simp only [codes1, List.mem_cons, List.not_mem_nil, or_false] at hc
  rcases hc with rfl | rfl | rfl | rfl | rfl
  · exact w_c0
  · exact w_c1
  · exact w_c2
  · exact w_c3
  · exact w_c4
set_option maxRecDepth 65536 in
theorem w_t1 : (words1.take 24).all (fun c => isCode c || c.before args0 about1) = true := by decide +kernel
set_option maxRecDepth 65536 in
theorem w_t2 : (words1.drop 24).all (fun c => isCode c || c.before args0 about1) = true := by decide +kernel
theorem w_tables : (allAtoms (Jvm.Cond.code x code maxLocals ret :: tables_1)).before args0 about1 = true := by
  rw [allAtoms_all]
  show words1.all (fun c => c.before args0 about1) = true
  refine all_split ?_ w_codes
  rw [← List.take_append_drop 24 words1, List.all_append, w_t1, w_t2]
  rfl
set_option maxRecDepth 65536 in
theorem w_case : (Jvm.Cond.and given_1 narrow_1).before args0 about1 = true := by decide +kernel
theorem w_applies : (headSpec (Jvm.Cond.code x code maxLocals ret :: tables_1) room_1).applies x e0.platform about1 = true :=
  (Spec.applies_iff w_frames).mpr ⟨w_running, w_runnable, w_alone, w_named, w_hears, w_ripe, w_room, w_tables⟩
theorem atStart : AtStart classFile x code maxLocals ret World_1 tables_1 room_1 Calls_1 rest_1 Pre_1 launch0 p0 e0 about1 theMethod args0 below0 :=
  ⟨lists_1, trivial, launch0.admits_env _ _ _, launch0.least_env, fairChoices_fair.cas, fairChoices_fair.clock, w_frames, w_args, w_heap, w_applies, trivial, trivial, w_case⟩
end start1
theorem witness_1 : WitnessClaimed_1 := ⟨start1.p0, start1.e0, start1.about1, start1.theMethod, start1.args0, start1.below0, start1.atStart⟩
end Jvm.Pilot.@@N@@
