import JvmDerived
import JvmDerived.Pilot.@@N@@Statement
import JvmDerived.Pilot.@@N@@Code
set_option linter.unusedVariables false
set_option linter.unusedSimpArgs false
set_option maxRecDepth 65536
set_option maxHeartbeats 40000000
namespace Jvm.RoadKit
open Sem ClassFile Op Lib Jvm.Stand Jvm.Free Jvm.LawKit
section New
variable {p : Program} {l : Launch} {e : Env} {R : Room} {s : State} {m : MethodId} {args : Array Value} {below : List Frame} {meth : Method} {c : Code} {T : State} {locs : List Loc} {cells slots : Nat}
theorem retI (X : Stand p l e R s m args below meth c T locs cells slots) (hx : p.tables.exec = Jvm.exec) {pc : Nat} {Ls : Array Slot} {z : Int32} {rest : List Value} (hret : meth.sig.returnType = some .int) (hd : decode c.code pc = .ok (.ireturn, 1)) {fs : List Frame}
    (hl : ∀ (f : JFrame) (acts : List Action), f.method = m → f.locked = none → f.entered = [] → (doReturn e (T.setTop f) acts (some (.int z))).1 = T.setFrames fs) : Steps p.tables e below (T.setTop (mkF m pc Ls (.int z :: rest))) (T.setFrames fs) := by
  have hm' : T.vm.method? m = some meth := X.method'
  have hn : narrow .int (.int z) = .int z := rfl
  show Steps p.tables e below (T.setTop { method := m, pc := pc, locals := Ls, stack := _ :: rest, locked := none }) _
  jvm_step X.here [X.here.top, hx, hd, hm', hret, hn]
  first | (intro acts; rw [hl _ acts rfl rfl rfl]) | rw [hl _ _ rfl rfl rfl]
  exact Steps.refl _
theorem own_retA (X : Stand p l e R s m args below meth c T locs cells slots) (hx : p.tables.exec = Jvm.exec) {pc : Nat} {Ls : Array Slot} {w : Value} {t : FieldType} {rest : List Value} (hret : meth.sig.returnType = some t) (ht : t.isReference = true) (hw : w.isRef = true) (hd : decode c.code pc = .ok (.areturn, 1)) {fs : List Frame}
    (hl : ∀ (f : JFrame) (acts : List Action), f.method = m → f.locked = none → f.entered = [] → (doReturn e (T.setTop f) acts (some w)).1 = T.setFrames fs) : Steps p.tables e below (T.setTop (mkF m pc Ls (w :: rest))) (T.setFrames fs) := by
  have hm' : T.vm.method? m = some meth := X.method'
  rcases ref_cases hw with rfl | ⟨z, rfl⟩
  all_goals
    show Steps p.tables e below (T.setTop { method := m, pc := pc, locals := Ls, stack := _ :: rest, locked := none }) _
    jvm_step X.here [X.here.top, hx, hd, hm', hret, Value.isRef]
    try (refine ⟨ht, ?_⟩)
    first | (intro acts; rw [hl _ acts rfl rfl rfl]) | rw [hl _ _ rfl rfl rfl]
    exact Steps.refl _
end New
/-- from U the run comes to an end of which P tells -/
def own_Go (tb : Tables) (e : Env) (below : List Frame) (P : Outcome → State → Prop) (U : State) : Prop := ∃ s₂ o, Steps tb e below U s₂ ∧ s₂.status = .running ∧ Ended s₂ below o ∧ P o s₂
theorem own_st {tb : Tables} {e : Env} {below : List Frame} {P : Outcome → State → Prop} {U V : State} (h : ∀ t, Steps tb e below V t → Steps tb e below U t) (g : own_Go tb e below P V) : own_Go tb e below P U := by
  obtain ⟨s₂, o, h1, r⟩ := g
  exact ⟨s₂, o, h _ h1, r⟩
theorem own_tr {tb : Tables} {e : Env} {below : List Frame} {P : Outcome → State → Prop} {U V : State} (h : Steps tb e below U V) (g : own_Go tb e below P V) : own_Go tb e below P U := by
  obtain ⟨s₂, o, h1, r⟩ := g
  exact ⟨s₂, o, h.trans h1, r⟩
theorem own_end {p : Program} {l : Launch} {e : Env} {R : Room} {s : State} {m : MethodId} {args : Array Value} {below : List Frame} {meth : Method} {c : Code} {T : State} {locs : List Loc} {cells slots : Nat} (X : Stand p l e R s m args below meth c T locs cells slots) {h : Heap} (eT : T.heap = h) {v : Option Value} (hv : meth.sig.returnType = none → v = none) (hlk : meth.locks = false) {g : JFrame}
    (hst : ∀ fs, (∀ (f : JFrame) (acts : List Action), f.method = m → f.locked = none → f.entered = [] → (doReturn e (T.setTop f) acts v).1 = T.setFrames fs) → Steps p.tables e below (T.setTop g) (T.setFrames fs))
    {Q : Option Value → Heap → List Loc → Prop} (hQ : Q v h locs) {cc ss : Nat} (hc : cells ≤ cc) (hs : slots ≤ ss) :
    own_Go p.tables e below (fun o U' => ∃ v L, o = .returned v ∧ Q v U'.heap L ∧ FrameEnd s o U' L cc ss) (T.setTop g) := by
  subst eT
  obtain ⟨fs, hr, hrun, hended, hW, hsame⟩ := X.leave (v := v) hv hlk
  exact ⟨_, _, hst fs hr, hrun, hended, _, _, rfl, hQ, ⟨_, rfl⟩, hW, hsame.mono hc hs⟩
section Steps2
variable {p : Program} {l : Launch} {e : Env} {R : Room} {s : State} {m : MethodId} {args : Array Value} {below : List Frame} {meth : Method} {c : Code} {T : State} {locs : List Loc} {cells slots : Nat} {P : Outcome → State → Prop} {pc : Nat} {Ls : Array Slot} {st : List Value}
theorem o_iloadN (X : Stand p l e R s m args below meth c T locs cells slots) {cb : ByteArray} (hq : p.tables.exec = Jvm.exec ∧ c.code = cb) {k : Fin 4} {v : Int32} (hd : decode cb pc = .ok (.iload_n k, 1)) (hl : Ls[k.val]? = some (.val (.int v))) (g : own_Go p.tables e below P (T.setTop (mkF m (pc + 1) Ls (.int v :: st)))) : own_Go p.tables e below P (T.setTop (mkF m pc Ls st)) := own_st (fun t k => XS.iloadN X.here hq.1 rfl (hb hq.2 hd) hl k) g
theorem o_iload (X : Stand p l e R s m args below meth c T locs cells slots) {cb : ByteArray} (hq : p.tables.exec = Jvm.exec ∧ c.code = cb) {k : Nat} {v : Int32} (hd : decode cb pc = .ok (.iload k, 2)) (hl : Ls[k]? = some (.val (.int v))) (g : own_Go p.tables e below P (T.setTop (mkF m (pc + 2) Ls (.int v :: st)))) : own_Go p.tables e below P (T.setTop (mkF m pc Ls st)) := own_st (fun t k => XS.iload X.here hq.1 rfl (hb hq.2 hd) hl k) g
theorem o_lloadN (X : Stand p l e R s m args below meth c T locs cells slots) {cb : ByteArray} (hq : p.tables.exec = Jvm.exec ∧ c.code = cb) {k : Fin 4} {v : Int64} (hd : decode cb pc = .ok (.lload_n k, 1)) (hl : Ls[k.val]? = some (.val (.long v))) (g : own_Go p.tables e below P (T.setTop (mkF m (pc + 1) Ls (.long v :: st)))) : own_Go p.tables e below P (T.setTop (mkF m pc Ls st)) := own_st (fun t k => XS.lloadN X.here hq.1 rfl (hb hq.2 hd) hl k) g
theorem o_lload (X : Stand p l e R s m args below meth c T locs cells slots) {cb : ByteArray} (hq : p.tables.exec = Jvm.exec ∧ c.code = cb) {k : Nat} {v : Int64} (hd : decode cb pc = .ok (.lload k, 2)) (hl : Ls[k]? = some (.val (.long v))) (g : own_Go p.tables e below P (T.setTop (mkF m (pc + 2) Ls (.long v :: st)))) : own_Go p.tables e below P (T.setTop (mkF m pc Ls st)) := own_st (fun t k => XS.lload X.here hq.1 rfl (hb hq.2 hd) hl k) g
theorem o_aloadN (X : Stand p l e R s m args below meth c T locs cells slots) {cb : ByteArray} (hq : p.tables.exec = Jvm.exec ∧ c.code = cb) {k : Fin 4} {v : Value} (hd : decode cb pc = .ok (.aload_n k, 1)) (hl : Ls[k.val]? = some (.val v)) (hv : v.isRef = true) (g : own_Go p.tables e below P (T.setTop (mkF m (pc + 1) Ls (v :: st)))) : own_Go p.tables e below P (T.setTop (mkF m pc Ls st)) := own_st (fun t k => XS.aloadN X.here hq.1 rfl (hb hq.2 hd) hl hv k) g
theorem o_aload (X : Stand p l e R s m args below meth c T locs cells slots) {cb : ByteArray} (hq : p.tables.exec = Jvm.exec ∧ c.code = cb) {k : Nat} {v : Value} (hd : decode cb pc = .ok (.aload k, 2)) (hl : Ls[k]? = some (.val v)) (hv : v.isRef = true) (g : own_Go p.tables e below P (T.setTop (mkF m (pc + 2) Ls (v :: st)))) : own_Go p.tables e below P (T.setTop (mkF m pc Ls st)) := own_st (fun t k => XS.aload X.here hq.1 rfl (hb hq.2 hd) hl hv k) g
theorem o_istoreN (X : Stand p l e R s m args below meth c T locs cells slots) {cb : ByteArray} (hq : p.tables.exec = Jvm.exec ∧ c.code = cb) {k : Fin 4} {v : Int32} {l' : Array Slot} (hd : decode cb pc = .ok (.istore_n k, 1)) (hl : storeLocals Ls k.val (.int v) = some l') (g : own_Go p.tables e below P (T.setTop (mkF m (pc + 1) l' st))) : own_Go p.tables e below P (T.setTop (mkF m pc Ls (.int v :: st))) := own_st (fun t k => XS.istoreN X.here hq.1 rfl (hb hq.2 hd) rfl hl k) g
theorem o_istore (X : Stand p l e R s m args below meth c T locs cells slots) {cb : ByteArray} (hq : p.tables.exec = Jvm.exec ∧ c.code = cb) {k : Nat} {v : Int32} {l' : Array Slot} (hd : decode cb pc = .ok (.istore k, 2)) (hl : storeLocals Ls k (.int v) = some l') (g : own_Go p.tables e below P (T.setTop (mkF m (pc + 2) l' st))) : own_Go p.tables e below P (T.setTop (mkF m pc Ls (.int v :: st))) := own_st (fun t k => XS.istore X.here hq.1 rfl (hb hq.2 hd) rfl hl k) g
theorem o_lstoreN (X : Stand p l e R s m args below meth c T locs cells slots) {cb : ByteArray} (hq : p.tables.exec = Jvm.exec ∧ c.code = cb) {k : Fin 4} {v : Int64} {l' : Array Slot} (hd : decode cb pc = .ok (.lstore_n k, 1)) (hl : storeLocals Ls k.val (.long v) = some l') (g : own_Go p.tables e below P (T.setTop (mkF m (pc + 1) l' st))) : own_Go p.tables e below P (T.setTop (mkF m pc Ls (.long v :: st))) := own_st (fun t k => XS.lstoreN X.here hq.1 rfl (hb hq.2 hd) rfl hl k) g
theorem o_lstore (X : Stand p l e R s m args below meth c T locs cells slots) {cb : ByteArray} (hq : p.tables.exec = Jvm.exec ∧ c.code = cb) {k : Nat} {v : Int64} {l' : Array Slot} (hd : decode cb pc = .ok (.lstore k, 2)) (hl : storeLocals Ls k (.long v) = some l') (g : own_Go p.tables e below P (T.setTop (mkF m (pc + 2) l' st))) : own_Go p.tables e below P (T.setTop (mkF m pc Ls (.long v :: st))) := own_st (fun t k => XS.lstore X.here hq.1 rfl (hb hq.2 hd) rfl hl k) g
theorem o_astoreN (X : Stand p l e R s m args below meth c T locs cells slots) {cb : ByteArray} (hq : p.tables.exec = Jvm.exec ∧ c.code = cb) {k : Fin 4} {v : Value} {l' : Array Slot} (hd : decode cb pc = .ok (.astore_n k, 1)) (hv : v.isRef = true) (hl : storeLocals Ls k.val v = some l') (g : own_Go p.tables e below P (T.setTop (mkF m (pc + 1) l' st))) : own_Go p.tables e below P (T.setTop (mkF m pc Ls (v :: st))) := own_st (fun t k => XS.astoreN X.here hq.1 rfl (hb hq.2 hd) rfl hv hl k) g
theorem o_astore (X : Stand p l e R s m args below meth c T locs cells slots) {cb : ByteArray} (hq : p.tables.exec = Jvm.exec ∧ c.code = cb) {k : Nat} {v : Value} {l' : Array Slot} (hd : decode cb pc = .ok (.astore k, 2)) (hv : v.isRef = true) (hl : storeLocals Ls k v = some l') (g : own_Go p.tables e below P (T.setTop (mkF m (pc + 2) l' st))) : own_Go p.tables e below P (T.setTop (mkF m pc Ls (v :: st))) := own_st (fun t k => XS.astore X.here hq.1 rfl (hb hq.2 hd) rfl hv hl k) g
theorem o_iconst (X : Stand p l e R s m args below meth c T locs cells slots) {cb : ByteArray} (hq : p.tables.exec = Jvm.exec ∧ c.code = cb) {i : Int} (z : Int32) (hd : decode cb pc = .ok (.iconst i, 1)) (hz : Int32.ofInt i = z) (g : own_Go p.tables e below P (T.setTop (mkF m (pc + 1) Ls (.int z :: st)))) : own_Go p.tables e below P (T.setTop (mkF m pc Ls st)) := by subst hz; exact own_st (fun t k => XS.iconst X.here hq.1 rfl (hb hq.2 hd) k) g
theorem o_bipush (X : Stand p l e R s m args below meth c T locs cells slots) {cb : ByteArray} (hq : p.tables.exec = Jvm.exec ∧ c.code = cb) {i : Int} (z : Int32) (hd : decode cb pc = .ok (.bipush i, 2)) (hz : (Int8.ofInt i).toInt32 = z) (g : own_Go p.tables e below P (T.setTop (mkF m (pc + 2) Ls (.int z :: st)))) : own_Go p.tables e below P (T.setTop (mkF m pc Ls st)) := by subst hz; exact own_st (fun t k => XS.bipush X.here hq.1 rfl (hb hq.2 hd) k) g
theorem o_sipush (X : Stand p l e R s m args below meth c T locs cells slots) {cb : ByteArray} (hq : p.tables.exec = Jvm.exec ∧ c.code = cb) {i : Int} (z : Int32) (hd : decode cb pc = .ok (.sipush i, 3)) (hz : (Int16.ofInt i).toInt32 = z) (g : own_Go p.tables e below P (T.setTop (mkF m (pc + 3) Ls (.int z :: st)))) : own_Go p.tables e below P (T.setTop (mkF m pc Ls st)) := by subst hz; exact own_st (fun t k => XS.sipush X.here hq.1 rfl (hb hq.2 hd) k) g
theorem o_lconst (X : Stand p l e R s m args below meth c T locs cells slots) {cb : ByteArray} (hq : p.tables.exec = Jvm.exec ∧ c.code = cb) {i : Fin 2} (z : Int64) (hd : decode cb pc = .ok (.lconst i, 1)) (hz : Int64.ofNat i = z) (g : own_Go p.tables e below P (T.setTop (mkF m (pc + 1) Ls (.long z :: st)))) : own_Go p.tables e below P (T.setTop (mkF m pc Ls st)) := by subst hz; exact own_st (fun t k => XS.lconst X.here hq.1 rfl (hb hq.2 hd) k) g
theorem o_aconstNull (X : Stand p l e R s m args below meth c T locs cells slots) {cb : ByteArray} (hq : p.tables.exec = Jvm.exec ∧ c.code = cb) (hd : decode cb pc = .ok (.aconst_null, 1)) (g : own_Go p.tables e below P (T.setTop (mkF m (pc + 1) Ls (.null :: st)))) : own_Go p.tables e below P (T.setTop (mkF m pc Ls st)) := own_st (fun t k => XS.aconstNull X.here hq.1 rfl (hb hq.2 hd) k) g
theorem o_iadd (X : Stand p l e R s m args below meth c T locs cells slots) {cb : ByteArray} (hq : p.tables.exec = Jvm.exec ∧ c.code = cb) {x y : Int32} (hd : decode cb pc = .ok (.iadd, 1)) (g : own_Go p.tables e below P (T.setTop (mkF m (pc + 1) Ls (.int (x + y) :: st)))) : own_Go p.tables e below P (T.setTop (mkF m pc Ls (.int y :: .int x :: st))) := own_st (fun t k => XS.iadd X.here hq.1 rfl (hb hq.2 hd) rfl k) g
theorem o_ladd (X : Stand p l e R s m args below meth c T locs cells slots) {cb : ByteArray} (hq : p.tables.exec = Jvm.exec ∧ c.code = cb) {x y : Int64} (hd : decode cb pc = .ok (.ladd, 1)) (g : own_Go p.tables e below P (T.setTop (mkF m (pc + 1) Ls (.long (x + y) :: st)))) : own_Go p.tables e below P (T.setTop (mkF m pc Ls (.long y :: .long x :: st))) := own_st (fun t k => XS.ladd X.here hq.1 rfl (hb hq.2 hd) rfl k) g
theorem o_isub (X : Stand p l e R s m args below meth c T locs cells slots) {cb : ByteArray} (hq : p.tables.exec = Jvm.exec ∧ c.code = cb) {x y : Int32} (hd : decode cb pc = .ok (.isub, 1)) (g : own_Go p.tables e below P (T.setTop (mkF m (pc + 1) Ls (.int (x - y) :: st)))) : own_Go p.tables e below P (T.setTop (mkF m pc Ls (.int y :: .int x :: st))) := own_st (fun t k => XS.isub X.here hq.1 rfl (hb hq.2 hd) rfl k) g
theorem o_lsub (X : Stand p l e R s m args below meth c T locs cells slots) {cb : ByteArray} (hq : p.tables.exec = Jvm.exec ∧ c.code = cb) {x y : Int64} (hd : decode cb pc = .ok (.lsub, 1)) (g : own_Go p.tables e below P (T.setTop (mkF m (pc + 1) Ls (.long (x - y) :: st)))) : own_Go p.tables e below P (T.setTop (mkF m pc Ls (.long y :: .long x :: st))) := own_st (fun t k => XS.lsub X.here hq.1 rfl (hb hq.2 hd) rfl k) g
theorem o_imul (X : Stand p l e R s m args below meth c T locs cells slots) {cb : ByteArray} (hq : p.tables.exec = Jvm.exec ∧ c.code = cb) {x y : Int32} (hd : decode cb pc = .ok (.imul, 1)) (g : own_Go p.tables e below P (T.setTop (mkF m (pc + 1) Ls (.int (x * y) :: st)))) : own_Go p.tables e below P (T.setTop (mkF m pc Ls (.int y :: .int x :: st))) := own_st (fun t k => XS.imul X.here hq.1 rfl (hb hq.2 hd) rfl k) g
theorem o_lmul (X : Stand p l e R s m args below meth c T locs cells slots) {cb : ByteArray} (hq : p.tables.exec = Jvm.exec ∧ c.code = cb) {x y : Int64} (hd : decode cb pc = .ok (.lmul, 1)) (g : own_Go p.tables e below P (T.setTop (mkF m (pc + 1) Ls (.long (x * y) :: st)))) : own_Go p.tables e below P (T.setTop (mkF m pc Ls (.long y :: .long x :: st))) := own_st (fun t k => XS.lmul X.here hq.1 rfl (hb hq.2 hd) rfl k) g
theorem o_iand (X : Stand p l e R s m args below meth c T locs cells slots) {cb : ByteArray} (hq : p.tables.exec = Jvm.exec ∧ c.code = cb) {x y : Int32} (hd : decode cb pc = .ok (.iand, 1)) (g : own_Go p.tables e below P (T.setTop (mkF m (pc + 1) Ls (.int (x &&& y) :: st)))) : own_Go p.tables e below P (T.setTop (mkF m pc Ls (.int y :: .int x :: st))) := own_st (fun t k => XS.iand X.here hq.1 rfl (hb hq.2 hd) rfl k) g
theorem o_land (X : Stand p l e R s m args below meth c T locs cells slots) {cb : ByteArray} (hq : p.tables.exec = Jvm.exec ∧ c.code = cb) {x y : Int64} (hd : decode cb pc = .ok (.land, 1)) (g : own_Go p.tables e below P (T.setTop (mkF m (pc + 1) Ls (.long (x &&& y) :: st)))) : own_Go p.tables e below P (T.setTop (mkF m pc Ls (.long y :: .long x :: st))) := own_st (fun t k => XS.land X.here hq.1 rfl (hb hq.2 hd) rfl k) g
theorem o_ior (X : Stand p l e R s m args below meth c T locs cells slots) {cb : ByteArray} (hq : p.tables.exec = Jvm.exec ∧ c.code = cb) {x y : Int32} (hd : decode cb pc = .ok (.ior, 1)) (g : own_Go p.tables e below P (T.setTop (mkF m (pc + 1) Ls (.int (x ||| y) :: st)))) : own_Go p.tables e below P (T.setTop (mkF m pc Ls (.int y :: .int x :: st))) := own_st (fun t k => XS.ior X.here hq.1 rfl (hb hq.2 hd) rfl k) g
theorem o_lor (X : Stand p l e R s m args below meth c T locs cells slots) {cb : ByteArray} (hq : p.tables.exec = Jvm.exec ∧ c.code = cb) {x y : Int64} (hd : decode cb pc = .ok (.lor, 1)) (g : own_Go p.tables e below P (T.setTop (mkF m (pc + 1) Ls (.long (x ||| y) :: st)))) : own_Go p.tables e below P (T.setTop (mkF m pc Ls (.long y :: .long x :: st))) := own_st (fun t k => XS.lor X.here hq.1 rfl (hb hq.2 hd) rfl k) g
theorem o_ixor (X : Stand p l e R s m args below meth c T locs cells slots) {cb : ByteArray} (hq : p.tables.exec = Jvm.exec ∧ c.code = cb) {x y : Int32} (hd : decode cb pc = .ok (.ixor, 1)) (g : own_Go p.tables e below P (T.setTop (mkF m (pc + 1) Ls (.int (x ^^^ y) :: st)))) : own_Go p.tables e below P (T.setTop (mkF m pc Ls (.int y :: .int x :: st))) := own_st (fun t k => XS.ixor X.here hq.1 rfl (hb hq.2 hd) rfl k) g
theorem o_lxor (X : Stand p l e R s m args below meth c T locs cells slots) {cb : ByteArray} (hq : p.tables.exec = Jvm.exec ∧ c.code = cb) {x y : Int64} (hd : decode cb pc = .ok (.lxor, 1)) (g : own_Go p.tables e below P (T.setTop (mkF m (pc + 1) Ls (.long (x ^^^ y) :: st)))) : own_Go p.tables e below P (T.setTop (mkF m pc Ls (.long y :: .long x :: st))) := own_st (fun t k => XS.lxor X.here hq.1 rfl (hb hq.2 hd) rfl k) g
theorem o_idiv (X : Stand p l e R s m args below meth c T locs cells slots) {cb : ByteArray} (hq : p.tables.exec = Jvm.exec ∧ c.code = cb) {x y : Int32} (hd : decode cb pc = .ok (.idiv, 1)) (hy : y ≠ 0) (g : own_Go p.tables e below P (T.setTop (mkF m (pc + 1) Ls (.int (x / y) :: st)))) : own_Go p.tables e below P (T.setTop (mkF m pc Ls (.int y :: .int x :: st))) := own_st (fun t k => XS.idiv X.here hq.1 rfl (hb hq.2 hd) rfl hy k) g
theorem o_irem (X : Stand p l e R s m args below meth c T locs cells slots) {cb : ByteArray} (hq : p.tables.exec = Jvm.exec ∧ c.code = cb) {x y : Int32} (hd : decode cb pc = .ok (.irem, 1)) (hy : y ≠ 0) (g : own_Go p.tables e below P (T.setTop (mkF m (pc + 1) Ls (.int (x - x / y * y) :: st)))) : own_Go p.tables e below P (T.setTop (mkF m pc Ls (.int y :: .int x :: st))) := own_st (fun t k => XS.irem X.here hq.1 rfl (hb hq.2 hd) rfl hy k) g
theorem o_ldiv (X : Stand p l e R s m args below meth c T locs cells slots) {cb : ByteArray} (hq : p.tables.exec = Jvm.exec ∧ c.code = cb) {x y : Int64} (hd : decode cb pc = .ok (.ldiv, 1)) (hy : y ≠ 0) (g : own_Go p.tables e below P (T.setTop (mkF m (pc + 1) Ls (.long (x / y) :: st)))) : own_Go p.tables e below P (T.setTop (mkF m pc Ls (.long y :: .long x :: st))) := own_st (fun t k => XS.ldiv X.here hq.1 rfl (hb hq.2 hd) rfl hy k) g
theorem o_lrem (X : Stand p l e R s m args below meth c T locs cells slots) {cb : ByteArray} (hq : p.tables.exec = Jvm.exec ∧ c.code = cb) {x y : Int64} (hd : decode cb pc = .ok (.lrem, 1)) (hy : y ≠ 0) (g : own_Go p.tables e below P (T.setTop (mkF m (pc + 1) Ls (.long (x - x / y * y) :: st)))) : own_Go p.tables e below P (T.setTop (mkF m pc Ls (.long y :: .long x :: st))) := own_st (fun t k => XS.lrem X.here hq.1 rfl (hb hq.2 hd) rfl hy k) g
theorem o_ineg (X : Stand p l e R s m args below meth c T locs cells slots) {cb : ByteArray} (hq : p.tables.exec = Jvm.exec ∧ c.code = cb) {x : Int32} (hd : decode cb pc = .ok (.ineg, 1)) (g : own_Go p.tables e below P (T.setTop (mkF m (pc + 1) Ls (.int ((-x)) :: st)))) : own_Go p.tables e below P (T.setTop (mkF m pc Ls (.int x :: st))) := own_st (fun t k => XS.ineg X.here hq.1 rfl (hb hq.2 hd) rfl k) g
theorem o_lneg (X : Stand p l e R s m args below meth c T locs cells slots) {cb : ByteArray} (hq : p.tables.exec = Jvm.exec ∧ c.code = cb) {x : Int64} (hd : decode cb pc = .ok (.lneg, 1)) (g : own_Go p.tables e below P (T.setTop (mkF m (pc + 1) Ls (.long ((-x)) :: st)))) : own_Go p.tables e below P (T.setTop (mkF m pc Ls (.long x :: st))) := own_st (fun t k => XS.lneg X.here hq.1 rfl (hb hq.2 hd) rfl k) g
theorem o_i2l (X : Stand p l e R s m args below meth c T locs cells slots) {cb : ByteArray} (hq : p.tables.exec = Jvm.exec ∧ c.code = cb) {x : Int32} (hd : decode cb pc = .ok (.i2l, 1)) (g : own_Go p.tables e below P (T.setTop (mkF m (pc + 1) Ls (.long (x.toInt64) :: st)))) : own_Go p.tables e below P (T.setTop (mkF m pc Ls (.int x :: st))) := own_st (fun t k => XS.i2l X.here hq.1 rfl (hb hq.2 hd) rfl k) g
theorem o_l2i (X : Stand p l e R s m args below meth c T locs cells slots) {cb : ByteArray} (hq : p.tables.exec = Jvm.exec ∧ c.code = cb) {x : Int64} (hd : decode cb pc = .ok (.l2i, 1)) (g : own_Go p.tables e below P (T.setTop (mkF m (pc + 1) Ls (.int (x.toInt32) :: st)))) : own_Go p.tables e below P (T.setTop (mkF m pc Ls (.long x :: st))) := own_st (fun t k => XS.l2i X.here hq.1 rfl (hb hq.2 hd) rfl k) g
theorem o_i2b (X : Stand p l e R s m args below meth c T locs cells slots) {cb : ByteArray} (hq : p.tables.exec = Jvm.exec ∧ c.code = cb) {x : Int32} (hd : decode cb pc = .ok (.i2b, 1)) (g : own_Go p.tables e below P (T.setTop (mkF m (pc + 1) Ls (.int (x.toInt8.toInt32) :: st)))) : own_Go p.tables e below P (T.setTop (mkF m pc Ls (.int x :: st))) := own_st (fun t k => XS.i2b X.here hq.1 rfl (hb hq.2 hd) rfl k) g
theorem o_i2s (X : Stand p l e R s m args below meth c T locs cells slots) {cb : ByteArray} (hq : p.tables.exec = Jvm.exec ∧ c.code = cb) {x : Int32} (hd : decode cb pc = .ok (.i2s, 1)) (g : own_Go p.tables e below P (T.setTop (mkF m (pc + 1) Ls (.int (x.toInt16.toInt32) :: st)))) : own_Go p.tables e below P (T.setTop (mkF m pc Ls (.int x :: st))) := own_st (fun t k => XS.i2s X.here hq.1 rfl (hb hq.2 hd) rfl k) g
theorem o_i2c (X : Stand p l e R s m args below meth c T locs cells slots) {cb : ByteArray} (hq : p.tables.exec = Jvm.exec ∧ c.code = cb) {x : Int32} (hd : decode cb pc = .ok (.i2c, 1)) (g : own_Go p.tables e below P (T.setTop (mkF m (pc + 1) Ls (.int (x.toUInt32.toUInt16.toUInt32.toInt32) :: st)))) : own_Go p.tables e below P (T.setTop (mkF m pc Ls (.int x :: st))) := own_st (fun t k => XS.i2c X.here hq.1 rfl (hb hq.2 hd) rfl k) g
theorem o_ishl (X : Stand p l e R s m args below meth c T locs cells slots) {cb : ByteArray} (hq : p.tables.exec = Jvm.exec ∧ c.code = cb) {x : Int32} {y : Int32} (hd : decode cb pc = .ok (.ishl, 1)) (g : own_Go p.tables e below P (T.setTop (mkF m (pc + 1) Ls (.int (x <<< (y &&& 31)) :: st)))) : own_Go p.tables e below P (T.setTop (mkF m pc Ls (.int y :: .int x :: st))) := own_st (fun t k => XS.ishl X.here hq.1 rfl (hb hq.2 hd) rfl k) g
theorem o_ishr (X : Stand p l e R s m args below meth c T locs cells slots) {cb : ByteArray} (hq : p.tables.exec = Jvm.exec ∧ c.code = cb) {x : Int32} {y : Int32} (hd : decode cb pc = .ok (.ishr, 1)) (g : own_Go p.tables e below P (T.setTop (mkF m (pc + 1) Ls (.int (x >>> (y &&& 31)) :: st)))) : own_Go p.tables e below P (T.setTop (mkF m pc Ls (.int y :: .int x :: st))) := own_st (fun t k => XS.ishr X.here hq.1 rfl (hb hq.2 hd) rfl k) g
theorem o_iushr (X : Stand p l e R s m args below meth c T locs cells slots) {cb : ByteArray} (hq : p.tables.exec = Jvm.exec ∧ c.code = cb) {x : Int32} {y : Int32} (hd : decode cb pc = .ok (.iushr, 1)) (g : own_Go p.tables e below P (T.setTop (mkF m (pc + 1) Ls (.int ((x.toUInt32 >>> (y &&& 31).toUInt32).toInt32) :: st)))) : own_Go p.tables e below P (T.setTop (mkF m pc Ls (.int y :: .int x :: st))) := own_st (fun t k => XS.iushr X.here hq.1 rfl (hb hq.2 hd) rfl k) g
theorem o_lshl (X : Stand p l e R s m args below meth c T locs cells slots) {cb : ByteArray} (hq : p.tables.exec = Jvm.exec ∧ c.code = cb) {x : Int64} {y : Int32} (hd : decode cb pc = .ok (.lshl, 1)) (g : own_Go p.tables e below P (T.setTop (mkF m (pc + 1) Ls (.long (x <<< (y &&& 0x3f).toInt64) :: st)))) : own_Go p.tables e below P (T.setTop (mkF m pc Ls (.int y :: .long x :: st))) := own_st (fun t k => XS.lshl X.here hq.1 rfl (hb hq.2 hd) rfl k) g
theorem o_lshr (X : Stand p l e R s m args below meth c T locs cells slots) {cb : ByteArray} (hq : p.tables.exec = Jvm.exec ∧ c.code = cb) {x : Int64} {y : Int32} (hd : decode cb pc = .ok (.lshr, 1)) (g : own_Go p.tables e below P (T.setTop (mkF m (pc + 1) Ls (.long (x >>> (y &&& 0x3f).toInt64) :: st)))) : own_Go p.tables e below P (T.setTop (mkF m pc Ls (.int y :: .long x :: st))) := own_st (fun t k => XS.lshr X.here hq.1 rfl (hb hq.2 hd) rfl k) g
theorem o_lushr (X : Stand p l e R s m args below meth c T locs cells slots) {cb : ByteArray} (hq : p.tables.exec = Jvm.exec ∧ c.code = cb) {x : Int64} {y : Int32} (hd : decode cb pc = .ok (.lushr, 1)) (g : own_Go p.tables e below P (T.setTop (mkF m (pc + 1) Ls (.long ((x.toUInt64 >>> (y &&& 0x3f).toInt64.toUInt64).toInt64) :: st)))) : own_Go p.tables e below P (T.setTop (mkF m pc Ls (.int y :: .long x :: st))) := own_st (fun t k => XS.lushr X.here hq.1 rfl (hb hq.2 hd) rfl k) g
theorem o_lcmp (X : Stand p l e R s m args below meth c T locs cells slots) {cb : ByteArray} (hq : p.tables.exec = Jvm.exec ∧ c.code = cb) {x y : Int64} (hd : decode cb pc = .ok (.lcmp, 1)) (g : own_Go p.tables e below P (T.setTop (mkF m (pc + 1) Ls (.int (lcmpW x y) :: st)))) : own_Go p.tables e below P (T.setTop (mkF m pc Ls (.long y :: .long x :: st))) := own_st (fun t k => XS.lcmp X.here hq.1 rfl (hb hq.2 hd) rfl k) g
theorem o_iinc (X : Stand p l e R s m args below meth c T locs cells slots) {cb : ByteArray} (hq : p.tables.exec = Jvm.exec ∧ c.code = cb) {k : Nat} {cst : Int} {x : Int32} {l' : Array Slot} (hd : decode cb pc = .ok (.iinc k cst, 3)) (hl : Ls[k]? = some (.val (.int x))) (hl' : storeLocals Ls k (.int (x + Int32.ofInt cst)) = some l') (g : own_Go p.tables e below P (T.setTop (mkF m (pc + 3) l' st))) : own_Go p.tables e below P (T.setTop (mkF m pc Ls st)) := own_st (fun t k => XS.iinc X.here hq.1 rfl (hb hq.2 hd) hl hl' k) g
theorem o_dup (X : Stand p l e R s m args below meth c T locs cells slots) {cb : ByteArray} (hq : p.tables.exec = Jvm.exec ∧ c.code = cb) {x : Value} (hd : decode cb pc = .ok (.dup, 1)) (hc : x.category = 1) (g : own_Go p.tables e below P (T.setTop (mkF m (pc + 1) Ls (x :: x :: st)))) : own_Go p.tables e below P (T.setTop (mkF m pc Ls (x :: st))) := own_st (fun t k => XS.dup X.here hq.1 rfl (hb hq.2 hd) rfl hc k) g
theorem o_pop (X : Stand p l e R s m args below meth c T locs cells slots) {cb : ByteArray} (hq : p.tables.exec = Jvm.exec ∧ c.code = cb) {x : Value} (hd : decode cb pc = .ok (.pop, 1)) (hc : x.category = 1) (g : own_Go p.tables e below P (T.setTop (mkF m (pc + 1) Ls st))) : own_Go p.tables e below P (T.setTop (mkF m pc Ls (x :: st))) := own_st (fun t k => XS.pop X.here hq.1 rfl (hb hq.2 hd) rfl hc k) g
theorem o_dupX1 (X : Stand p l e R s m args below meth c T locs cells slots) {cb : ByteArray} (hq : p.tables.exec = Jvm.exec ∧ c.code = cb) {x y : Value} (hd : decode cb pc = .ok (.dup_x1, 1)) (hc : x.category = 1) (hc' : y.category = 1) (g : own_Go p.tables e below P (T.setTop (mkF m (pc + 1) Ls (x :: y :: x :: st)))) : own_Go p.tables e below P (T.setTop (mkF m pc Ls (x :: y :: st))) := own_st (fun t k => XS.dupX1 X.here hq.1 rfl (hb hq.2 hd) rfl hc hc' k) g
theorem o_dup2 (X : Stand p l e R s m args below meth c T locs cells slots) {cb : ByteArray} (hq : p.tables.exec = Jvm.exec ∧ c.code = cb) {x y : Value} (hd : decode cb pc = .ok (.dup2, 1)) (hc : x.category = 1) (hc' : y.category = 1) (g : own_Go p.tables e below P (T.setTop (mkF m (pc + 1) Ls (x :: y :: x :: y :: st)))) : own_Go p.tables e below P (T.setTop (mkF m pc Ls (x :: y :: st))) := own_st (fun t k => Jvm.Free.XT.dup2 X.here hq.1 rfl (hb hq.2 hd) rfl hc hc' k) g
theorem o_goto (X : Stand p l e R s m args below meth c T locs cells slots) {cb : ByteArray} (hq : p.tables.exec = Jvm.exec ∧ c.code = cb) {o : Int} {pc' : Nat} (hd : decode cb pc = .ok (.goto o, 3)) (g : own_Go p.tables e below P (T.setTop (mkF m pc' Ls st))) (ho : 0 ≤ (pc : Int) + o := by decide) (hp : ((pc : Int) + o).toNat = pc' := by decide) : own_Go p.tables e below P (T.setTop (mkF m pc Ls st)) := own_st (fun t k => XS.goto X.here hq.1 rfl rfl (hb hq.2 hd) ho hp k) g
theorem o_ifYes (X : Stand p l e R s m args below meth c T locs cells slots) {cb : ByteArray} (hq : p.tables.exec = Jvm.exec ∧ c.code = cb) {cd : ClassFile.Cond} {x : Int32} {o : Int} {pc' : Nat} (hd : decode cb pc = .ok (.ifCond cd o, 3)) (hc : if_icmp.holds cd x 0 = true) (g : own_Go p.tables e below P (T.setTop (mkF m pc' Ls st))) (ho : 0 ≤ (pc : Int) + o := by decide) (hp : ((pc : Int) + o).toNat = pc' := by decide) : own_Go p.tables e below P (T.setTop (mkF m pc Ls (.int x :: st))) := own_st (fun t k => XS.ifYes X.here hq.1 rfl rfl (hb hq.2 hd) rfl ((if0 _ _).trans hc) ho hp k) g
theorem o_ifNo (X : Stand p l e R s m args below meth c T locs cells slots) {cb : ByteArray} (hq : p.tables.exec = Jvm.exec ∧ c.code = cb) {cd : ClassFile.Cond} {x : Int32} {o : Int} (hd : decode cb pc = .ok (.ifCond cd o, 3)) (hc : if_icmp.holds cd x 0 = false) (g : own_Go p.tables e below P (T.setTop (mkF m (pc + 3) Ls st))) : own_Go p.tables e below P (T.setTop (mkF m pc Ls (.int x :: st))) := own_st (fun t k => XS.ifNo X.here hq.1 rfl (hb hq.2 hd) rfl ((if0 _ _).trans hc) k) g
theorem o_icmpYes (X : Stand p l e R s m args below meth c T locs cells slots) {cb : ByteArray} (hq : p.tables.exec = Jvm.exec ∧ c.code = cb) {cd : ClassFile.Cond} {x y : Int32} {o : Int} {pc' : Nat} (hd : decode cb pc = .ok (.if_icmp cd o, 3)) (hc : if_icmp.holds cd x y = true) (g : own_Go p.tables e below P (T.setTop (mkF m pc' Ls st))) (ho : 0 ≤ (pc : Int) + o := by decide) (hp : ((pc : Int) + o).toNat = pc' := by decide) : own_Go p.tables e below P (T.setTop (mkF m pc Ls (.int y :: .int x :: st))) := own_st (fun t k => XS.icmpYes X.here hq.1 rfl rfl (hb hq.2 hd) rfl hc ho hp k) g
theorem o_icmpNo (X : Stand p l e R s m args below meth c T locs cells slots) {cb : ByteArray} (hq : p.tables.exec = Jvm.exec ∧ c.code = cb) {cd : ClassFile.Cond} {x y : Int32} {o : Int} (hd : decode cb pc = .ok (.if_icmp cd o, 3)) (hc : if_icmp.holds cd x y = false) (g : own_Go p.tables e below P (T.setTop (mkF m (pc + 3) Ls st))) : own_Go p.tables e below P (T.setTop (mkF m pc Ls (.int y :: .int x :: st))) := own_st (fun t k => XS.icmpNo X.here hq.1 rfl (hb hq.2 hd) rfl hc k) g
theorem o_ifnullYes (X : Stand p l e R s m args below meth c T locs cells slots) {cb : ByteArray} (hq : p.tables.exec = Jvm.exec ∧ c.code = cb) {o : Int} {pc' : Nat} (hd : decode cb pc = .ok (.ifnull o, 3)) (g : own_Go p.tables e below P (T.setTop (mkF m pc' Ls st))) (ho : 0 ≤ (pc : Int) + o := by decide) (hp : ((pc : Int) + o).toNat = pc' := by decide) : own_Go p.tables e below P (T.setTop (mkF m pc Ls (.null :: st))) := own_st (fun t k => XS.ifnullYes X.here hq.1 rfl rfl (hb hq.2 hd) rfl ho hp k) g
theorem o_ifnullNo (X : Stand p l e R s m args below meth c T locs cells slots) {cb : ByteArray} (hq : p.tables.exec = Jvm.exec ∧ c.code = cb) {o : Int} {b : Addr} (hd : decode cb pc = .ok (.ifnull o, 3)) (g : own_Go p.tables e below P (T.setTop (mkF m (pc + 3) Ls st))) : own_Go p.tables e below P (T.setTop (mkF m pc Ls (.ref b :: st))) := own_st (fun t k => XS.ifnullNo X.here hq.1 rfl (hb hq.2 hd) rfl k) g
theorem o_ifnonnullNo (X : Stand p l e R s m args below meth c T locs cells slots) {cb : ByteArray} (hq : p.tables.exec = Jvm.exec ∧ c.code = cb) {o : Int} (hd : decode cb pc = .ok (.ifnonnull o, 3)) (g : own_Go p.tables e below P (T.setTop (mkF m (pc + 3) Ls st))) : own_Go p.tables e below P (T.setTop (mkF m pc Ls (.null :: st))) := own_st (fun t k => XS.ifnonnullNo X.here hq.1 rfl (hb hq.2 hd) rfl k) g
theorem o_ifnonnullYes (X : Stand p l e R s m args below meth c T locs cells slots) {cb : ByteArray} (hq : p.tables.exec = Jvm.exec ∧ c.code = cb) {o : Int} {b : Addr} {pc' : Nat} (hd : decode cb pc = .ok (.ifnonnull o, 3)) (g : own_Go p.tables e below P (T.setTop (mkF m pc' Ls st))) (ho : 0 ≤ (pc : Int) + o := by decide) (hp : ((pc : Int) + o).toNat = pc' := by decide) : own_Go p.tables e below P (T.setTop (mkF m pc Ls (.ref b :: st))) := own_st (fun t k => XS.ifnonnullYes X.here hq.1 rfl rfl (hb hq.2 hd) rfl ho hp k) g
theorem o_ldc (X : Stand p l e R s m args below meth c T locs cells slots) {cb : ByteArray} (hq : p.tables.exec = Jvm.exec ∧ c.code = cb) {own : String} {index : Nat} {v : Int32} (hown : s.vm.findClass own = some m.cls) (hd : decode cb pc = .ok (.ldc index, 2)) (hk : (Cond.constant own index v).before args s = true) (g : own_Go p.tables e below P (T.setTop (mkF m (pc + 2) Ls (.int v :: st)))) : own_Go p.tables e below P (T.setTop (mkF m pc Ls st)) := own_st (X.ldcInt hq.1 hown hk (g := mkF m pc Ls st) rfl (hb hq.2 hd)) g
theorem o_ldc2 (X : Stand p l e R s m args below meth c T locs cells slots) {cb : ByteArray} (hq : p.tables.exec = Jvm.exec ∧ c.code = cb) {own : String} {index : Nat} {v : Int64} (hown : s.vm.findClass own = some m.cls) (hd : decode cb pc = .ok (.ldc2_w index, 3)) (hk : (Cond.constantLong own index v).before args s = true) (g : own_Go p.tables e below P (T.setTop (mkF m (pc + 3) Ls (.long v :: st)))) : own_Go p.tables e below P (T.setTop (mkF m pc Ls st)) := own_st (X.ldc2Long hq.1 hown hk (g := mkF m pc Ls st) rfl (hb hq.2 hd)) g
end Steps2
end Jvm.RoadKit
namespace Jvm.Pilot.@@N@@
open Jvm Jvm.ClassFile Sem Op Lib Jvm.Free Jvm.Stand Jvm.LawKit Jvm.RoadKit Bundle Jvm.Pilot.@@N@@.Jvm.D
abbrev R_ (a b c d : Nat) : Room := ⟨a, b, c, d⟩
abbrev y0_ : MethodName := ⟨"com/example/figurant/figurant/VerificationModeCountOfTimesPinLaw", "at", "(Ljava/lang/String;IJZII)Z"⟩
abbrev y1_ : MethodName := ⟨"java/lang/AbstractStringBuilder", "ensureCapacityInternal", "(I)V"⟩
abbrev y2_ : MethodName := ⟨"java/lang/String", "coder", "()B"⟩
abbrev y3_ : MethodName := ⟨"java/lang/Math", "min", "(II)I"⟩
abbrev y4_ : MethodName := ⟨"java/lang/AbstractStringBuilder", "append", "(Ljava/lang/String;)Ljava/lang/AbstractStringBuilder;"⟩
abbrev y5_ : MethodName := ⟨"java/lang/String", "length", "()I"⟩
abbrev y6_ : MethodName := ⟨"java/lang/String", "charAt", "(I)C"⟩
abbrev y7_ : MethodName := ⟨"java/lang/AbstractStringBuilder", "isLatin1", "()Z"⟩
abbrev y8_ : MethodName := ⟨"java/lang/AbstractStringBuilder", "putStringAt", "(ILjava/lang/String;)V"⟩
abbrev y9_ : MethodName := ⟨"jdk/internal/util/Preconditions", "checkIndex", "(IILjava/util/function/BiFunction;)I"⟩
abbrev y10_ : MethodName := ⟨"java/lang/StringBuilder", "append", "(Ljava/lang/String;)Ljava/lang/StringBuilder;"⟩
abbrev y11_ : MethodName := ⟨"java/lang/AbstractStringBuilder", "length", "()I"⟩
abbrev y12_ : MethodName := ⟨"java/util/Arrays", "copyOfRange", "([BII)[B"⟩
abbrev y13_ : MethodName := ⟨"java/lang/String", "<init>", "(Ljava/lang/AbstractStringBuilder;Ljava/lang/Void;)V"⟩
abbrev y14_ : MethodName := ⟨"java/lang/String", "<init>", "(Ljava/lang/StringBuilder;)V"⟩
abbrev y15_ : MethodName := ⟨"java/lang/StringBuilder", "toString", "()Ljava/lang/String;"⟩
abbrev y16_ : MethodName := ⟨"java/lang/String", "checkIndex", "(II)V"⟩
abbrev y17_ : MethodName := ⟨"java/lang/StringLatin1", "charAt", "([BI)C"⟩
abbrev y18_ : MethodName := ⟨"java/lang/String", "isLatin1", "()Z"⟩
abbrev y19_ : MethodName := ⟨"java/lang/AbstractStringBuilder", "<init>", "(I)V"⟩
abbrev y20_ : MethodName := ⟨"java/lang/StringBuilder", "<init>", "()V"⟩
abbrev y21_ : MethodName := ⟨"java/lang/Integer", "stringSize", "(I)I"⟩
abbrev y22_ : MethodName := ⟨"java/lang/Integer", "getChars", "(II[B)I"⟩
abbrev y23_ : MethodName := ⟨"java/lang/Math", "max", "(II)I"⟩
abbrev y24_ : MethodName := ⟨"jdk/internal/util/ArraysSupport", "newLength", "(III)I"⟩
abbrev y25_ : MethodName := ⟨"java/lang/AbstractStringBuilder", "newCapacity", "(I)I"⟩
abbrev y26_ : MethodName := ⟨"java/util/Arrays", "copyOf", "([BI)[B"⟩
abbrev y27_ : MethodName := ⟨"java/lang/AbstractStringBuilder", "append", "(I)Ljava/lang/AbstractStringBuilder;"⟩
abbrev y28_ : MethodName := ⟨"java/lang/StringBuilder", "append", "(I)Ljava/lang/StringBuilder;"⟩
abbrev y29_ : MethodName := ⟨"java/lang/AbstractStringBuilder", "inflateIfNeededFor", "(Ljava/lang/String;)V"⟩
abbrev y30_ : MethodName := ⟨"java/lang/String", "getBytes", "([BIB)V"⟩
abbrev y31_ : MethodName := ⟨"java/lang/AbstractStringBuilder", "getValue", "()[B"⟩
abbrev y32_ : MethodName := ⟨"java/util/Arrays", "checkLength", "(II)V"⟩
abbrev y33_ : MethodName := ⟨"java/util/Arrays", "copyOfRangeByte", "([BII)[B"⟩
abbrev y34_ : MethodName := ⟨"com/example/figurant/figurant/VerificationModeCountOfTimesPinLaw", "digits", "(J)I"⟩
abbrev y35_ : MethodName := ⟨"com/example/figurant/figurant/VerificationMode", "countOfTimes", "(I)Ljava/lang/String;"⟩
abbrev y36_ : MethodName := ⟨"com/example/figurant/figurant/VerificationModeCountOfTimesPinLaw", "pow10", "(I)J"⟩
abbrev y37_ : MethodName := ⟨"com/example/figurant/figurant/VerificationModeCountOfTimesPinLaw", "expected", "(IJZI)C"⟩
abbrev HW (a0 : Array Value) (Z : State) : Prop := ∀ d ∈ tables_1, d.before a0 Z = true
theorem w_ {a0 : Array Value} {Z : State} {d : Jvm.Cond} (hw : HW a0 Z) (i : Nat) (h : tables_1[i]? = some d) : d.before a0 Z = true := hw _ (List.mem_of_getElem? h)
theorem v_ {a0 args : Array Value} {Z s : State} {d : Jvm.Cond} (hZ : Z.Warmed39 s.vm) (hw : HW a0 Z) (i : Nat) (h : tables_1[i]? = some d) (hd : (d.onTables && d.keepsFace) = true := by first | rfl | simp [Cond.onTables, Cond.keepsFace, Cond.keeps, Cond.steady]) : d.before args s = true := mvT hZ (hw _ (List.mem_of_getElem? h)) hd
theorem z_ {a b : Nat} (h : 2 * 0 + a = b) : 2 * 0 + a ≤ b := Nat.le_of_eq h
def own_P (s : State) (Q : Option Value → Heap → List Loc → Prop) (R : Room) : Outcome → State → Prop := fun o U' => ∃ v L, o = .returned v ∧ Q v U'.heap L ∧ FrameEnd s o U' L R.cells R.slots
def own_PW (s : State) (Q : Option Value → Heap → List Loc → Prop) (R : Room) : Outcome → State → Prop := fun o U' => ∃ v L, o = .returned v ∧ Q v U'.heap L ∧ ReturnedEndW s o U' L R.cells R.slots
abbrev own_Met (l : Launch) (y : MethodName) (bytes : ByteArray) (ML : Nat) (ret : Option FieldType) (R : Room) (as' : Array Value) (Z : State) (h0 : Heap) (Q : Option Value → Heap → List Loc → Prop) : Prop :=
 MetFree l y (head1 [Jvm.Cond.code y bytes ML ret] R) (fun a U => a = as' ∧ Z.Warmed39 U.vm ∧ U.heap = h0) (fun _ _ _ _ _ => True) (fun _ U o U' => ∃ v L, o = .returned v ∧ Q v U'.heap L ∧ FrameEnd U o U' L R.cells R.slots)
theorem own_bd {l : Launch} {y : MethodName} {bytes : ByteArray} {ML : Nat} {ret : Option FieldType} {R : Room} {as' : Array Value} {Z : State} {h0 : Heap} {Q : Option Value → Heap → List Loc → Prop} {own : String} (ho : y.cls = own) (hpl : plainFor y = true) (Ls : Array Slot)
  (k : ∀ (p : Program) (e : Env) (s : State) (m : MethodId) (below : List Frame) (meth : Method) (c : Code) (s₁ : State), p.tables.exec = Jvm.exec → c.code = bytes → (p.tables.exec = Jvm.exec ∧ c.code = bytes) → c.maxLocals = ML → s.vm.findClass own = some m.cls → meth.name = y.name → meth.locks = false → meth.sig.returnType = ret → Z.Warmed39 s.vm → Stand p l e R s m as' below meth c s₁ [] 0 0 → s₁.heap = h0 → own_Go p.tables e below (own_P s Q R) (s₁.setTop (mkF m 0 Ls []))) (hef : ∀ m : MethodId, entryFrame m as' ML = mkF m 0 Ls [] := by intro m; first | (simp [entryFrame, mkF, argsToLocals, Value.category]; done) | rfl) : own_Met l y bytes ML ret R as' Z h0 Q := by
 refine MetFree.of_bodySF hpl hisR ?_
 intro p e s m args below meth c s₁ Bd hml hP hK
 obtain ⟨rfl, hZ, hh⟩ := hP
 have hlk : meth.locks = false := BodyLoose.notSynchronized (by assumption)
 have X0 : Stand p l e R s m _ below meth c s₁ [] 0 0 := Stand.of_body Bd
 have e0 : s₁.heap = h0 := by rw [← hh, Bd.state]; rfl
 have g := k p e s m below meth c s₁ Bd.exec Bd.bytes ⟨Bd.exec, Bd.bytes⟩ hml (by rw [← ho]; exact findClass_of_methodNamed Bd.named) (name_of_methodNamed Bd.named Bd.method).1 hlk Bd.returns hZ X0 e0
 exact own_st (fun t k => castTop (hef m) k) g
variable {l : Launch} {Z : State} {a0 : Array Value}
theorem own_Sta_keep {Z : State} {h h' : Heap} {C n d : String} {v : Value} {ws : List Addr} (F : Sta Z h C n d v) (K : Keep h h' ws) (hs : ∀ x ∈ ws, ∀ cell : Cell, h[x]? = some cell → cell.vm.isStatics = false) : Sta Z h' C n d v := by
 obtain ⟨cf, i, k, f, st, cell, h1, h2, h3, h4, h5, h6, h7⟩ := F
 refine ⟨cf, i, k, f, st, cell, h1, h2, h3, h4, K.2.1 _ _ h5 fun hm => ?_, h6, h7⟩
 rw [hs _ hm _ h5] at h6
 cases h6
theorem own_nc {c : Int32} (h1 : ¬ (255 : Int32) < c) (h0 : ¬ c < 0) : nar .char c = c := by
 show c.toUInt32.toUInt16.toUInt32.toInt32 = c
 have h := c_i2c c
 rw [Int32.lt_iff_toInt_lt] at h0 h1
 have e1 : (255 : Int32).toInt = 255 := rfl
 have e2 : (0 : Int32).toInt = 0 := rfl
 apply Int32.toInt_inj.mp
 omega
theorem own_back {c : Int32} (h1 : ¬ (255 : Int32) < c) (h0 : ¬ c < 0) : nar .char ((((c.toInt8.toInt32).toInt8.toInt32) &&& (255 : Int32)).toUInt32.toUInt16.toUInt32.toInt32) = c := by
 have a1 := c_i2b c
 have a2 := c_i2b c.toInt8.toInt32
 have a3 : (((c.toInt8.toInt32).toInt8.toInt32) &&& (255 : Int32)).toInt = ((c.toInt8.toInt32).toInt8.toInt32).toInt % 256 := c_mask _ 255 8 (by decide) rfl
 have e : (((c.toInt8.toInt32).toInt8.toInt32) &&& (255 : Int32)) = c := by
  rw [Int32.lt_iff_toInt_lt] at h0 h1
  have e1 : (255 : Int32).toInt = 255 := rfl
  have e2 : (0 : Int32).toInt = 0 := rfl
  apply Int32.toInt_inj.mp
  omega
 rw [e]
 have n := own_nc h1 h0
 have n' : c.toUInt32.toUInt16.toUInt32.toInt32 = c := n
 rw [n']; exact n
theorem own_shr0 (N : Int32) : N >>> ((0 : Int32) &&& 31) = N := by
 apply Int32.toInt_inj.mp
 have h := c_ishr N (0 : Int32) 0 rfl
 rw [h]; simp
theorem own_lt {a b : Int32} {A B : Int} (ha : a.toInt = A) (hb : b.toInt = B) : (A < B → a < b) ∧ (¬ A < B → ¬ a < b) := by
 rw [Int32.lt_iff_toInt_lt, ha, hb]; exact ⟨id, id⟩
theorem own_ltJ {a b : Int64} {A B : Int} (ha : a.toInt = A) (hb : b.toInt = B) : (A < B → lcmpW a b < (0 : Int32)) ∧ (¬ A < B → ¬ lcmpW a b < (0 : Int32)) := by
 have e := lw_lt a b
 rw [Int64.lt_iff_toInt_lt, ha, hb] at e
 exact ⟨fun h => e.mpr h, fun h q => h (e.mp q)⟩
theorem own_neg {x : Int32} {A : Int} (h : x.toInt = A) (h0 : -2147483648 < A) : (-x).toInt = -A := by
 have q := c_ineg x
 have b1 := (-x).toInt_lt; have b2 := (-x).le_toInt
 have b3 := x.toInt_lt; have b4 := x.le_toInt
 omega
theorem own_i100 {i : Int32} {A : Int} (h0 : 0 ≤ A) (h : i.toInt = -A) : (i / (100 : Int32)).toInt = -(A / 100) := by
 have q := c_idiv i (100 : Int32) 100 rfl (by decide)
 by_cases z : A = 0
 ·have := q.1 (by omega); omega
 ·have := q.2 (by omega)
  rw [this, h, Int.neg_neg]
theorem own_r100 {i : Int32} {A : Int} (h0 : 0 ≤ A) (h : i.toInt = -A) : (((i / (100 : Int32)) * (100 : Int32)) - i).toInt = A % 100 := by
 have q := own_i100 h0 h
 have m := c_imul (i / (100 : Int32)) (100 : Int32)
 have s := c_isub ((i / (100 : Int32)) * (100 : Int32)) i
 have e : (100 : Int32).toInt = 100 := rfl
 rw [q, e] at m
 have b1 := (((i / (100 : Int32)) * (100 : Int32)) - i).toInt_lt; have b2 := (((i / (100 : Int32)) * (100 : Int32)) - i).le_toInt
 have b3 := ((i / (100 : Int32)) * (100 : Int32)).toInt_lt; have b4 := ((i / (100 : Int32)) * (100 : Int32)).le_toInt
 have b5 := i.toInt_lt; have b6 := i.le_toInt
 omega
def own_one (j : Int32) : Int32 := (48 : Int32) + (j % (10 : Int32))
def own_ten (j : Int32) : Int32 := (48 : Int32) + (j / (10 : Int32))
def own_dg (A P : Int) : Int32 := Int32.ofInt (48 + (A / P) % 10)
theorem own_dgI (A P : Int) : (own_dg A P).toInt = 48 + (A / P) % 10 := by
 unfold own_dg
 have b1 := Int.emod_nonneg (A / P) (show (10 : Int) ≠ 0 by decide)
 have b2 := Int.emod_lt_of_pos (A / P) (show (0 : Int) < 10 by decide)
 exact Int32.toInt_ofInt_of_le (by omega) (by omega)
theorem own_i8 {x : Int32} (h0 : 0 ≤ x.toInt) (h1 : x.toInt ≤ 127) : x.toInt8.toInt32 = x := by
 have q := c_i2b x
 apply Int32.toInt_inj.mp
 omega
theorem own_st1 {r : Int32} {B A P : Int} (hr : r.toInt = B) (h0 : 0 ≤ B ∧ B < 100) (hk : B % 10 = (A / P) % 10) : (own_one r).toInt8.toInt32 = own_dg A P := by
 have q := (c_irem r (10 : Int32) 10 rfl).1 (by omega)
 have a := c_iadd (48 : Int32) (r % (10 : Int32))
 have e : (48 : Int32).toInt = 48 := rfl
 have b1 := ((48 : Int32) + (r % (10 : Int32))).toInt_lt; have b2 := ((48 : Int32) + (r % (10 : Int32))).le_toInt
 have d := own_dgI A P
 have f : (own_one r).toInt = 48 + B % 10 := by
  show ((48 : Int32) + (r % (10 : Int32))).toInt = _
  omega
 rw [own_i8 (by omega) (by omega)]
 apply Int32.toInt_inj.mp
 omega
theorem own_st2 {r : Int32} {B A P : Int} (hr : r.toInt = B) (h0 : 0 ≤ B ∧ B < 100) (hk : B / 10 = (A / P) % 10) : (own_ten r).toInt8.toInt32 = own_dg A P := by
 have q := (c_idiv r (10 : Int32) 10 rfl (by decide)).1 (by omega)
 have a := c_iadd (48 : Int32) (r / (10 : Int32))
 have e : (48 : Int32).toInt = 48 := rfl
 have b1 := ((48 : Int32) + (r / (10 : Int32))).toInt_lt; have b2 := ((48 : Int32) + (r / (10 : Int32))).le_toInt
 have d := own_dgI A P
 have f : (own_ten r).toInt = 48 + B / 10 := by
  show ((48 : Int32) + (r / (10 : Int32))).toInt = _
  omega
 rw [own_i8 (by omega) (by omega)]
 apply Int32.toInt_inj.mp
 omega
theorem own_inr {r : Int32} {B : Int} (hr : r.toInt = B) (h0 : 0 ≤ B ∧ B < 100) : ¬ r < 0 ∧ r < (100 : Int32) := by
 rw [Int32.lt_iff_toInt_lt, Int32.lt_iff_toInt_lt]
 have e : (100 : Int32).toInt = 100 := rfl
 have e0 : (0 : Int32).toInt = 0 := rfl
 omega
def own_p10 (k : Int32) : Int64 := if k = (0 : Int32) then 1 else if k = (1 : Int32) then 10 else if k = (2 : Int32) then 100 else if k = (3 : Int32) then 1000 else if k = (4 : Int32) then 10000 else if k = (5 : Int32) then 100000 else if k = (6 : Int32) then 1000000 else if k = (7 : Int32) then 10000000 else if k = (8 : Int32) then 100000000 else 1000000000
theorem own_ten10 {i : Int32} (h0 : ¬ i < 0) (h : i < (10 : Int32)) : i = (0 : Int32) ∨ i = (1 : Int32) ∨ i = (2 : Int32) ∨ i = (3 : Int32) ∨ i = (4 : Int32) ∨ i = (5 : Int32) ∨ i = (6 : Int32) ∨ i = (7 : Int32) ∨ i = (8 : Int32) ∨ i = (9 : Int32) := by
 rw [Int32.lt_iff_toInt_lt] at h0 h
 have e0 : (0 : Int32).toInt = 0 := rfl
 have e1 : (10 : Int32).toInt = 10 := rfl
 simp only [← Int32.toInt_inj]
 show i.toInt = 0 ∨ i.toInt = 1 ∨ i.toInt = 2 ∨ i.toInt = 3 ∨ i.toInt = 4 ∨ i.toInt = 5 ∨ i.toInt = 6 ∨ i.toInt = 7 ∨ i.toInt = 8 ∨ i.toInt = 9
 omega
theorem own_p10_get {i : Int32} {dv : Value} (h0 : ¬ i < 0) (h : i < (10 : Int32)) : [Value.long (1 : Int64), .long (10 : Int64), .long (100 : Int64), .long (1000 : Int64), .long (10000 : Int64), .long (100000 : Int64), .long (1000000 : Int64), .long (10000000 : Int64), .long (100000000 : Int64), .long (1000000000 : Int64)].getD i.toNatClampNeg dv = .long (own_p10 i) := by
 rcases own_ten10 h0 h with rfl | rfl | rfl | rfl | rfl | rfl | rfl | rfl | rfl | rfl <;> rfl
theorem own_p10nz (i : Int32) : own_p10 i ≠ 0 := by
 unfold own_p10; repeat' split
 all_goals decide
theorem own_exp {q P : Int64} {A Pz : Int} (hq : q.toInt = A) (h0 : 0 ≤ A) (hP : P.toInt = Pz) (hp0 : 0 < Pz) : nar .char (((48 : Int32) + (((q / P) - (q / P) / (10 : Int64) * (10 : Int64)).toInt32)).toUInt32.toUInt16.toUInt32.toInt32) = own_dg A Pz := by
 have hne : P ≠ -1 := fun e => by rw [e] at hP; have : (-1 : Int64).toInt = -1 := rfl; omega
 have d1 := (c_ldiv q P Pz hP hne).1 (by omega)
 rw [hq] at d1
 have nn : 0 ≤ A / Pz := Int.ediv_nonneg h0 (by omega)
 have d2 := (c_lrem (q / P) (10 : Int64) 10 rfl).1 (by omega)
 rw [d1] at d2
 have d := own_dgI A Pz
 have b1 := Int.emod_nonneg (A / Pz) (show (10 : Int) ≠ 0 by decide)
 have b2 := Int.emod_lt_of_pos (A / Pz) (show (0 : Int) < 10 by decide)
 have d3 := c_l2i ((q / P) - (q / P) / (10 : Int64) * (10 : Int64))
 have r1 := (((q / P) - (q / P) / (10 : Int64) * (10 : Int64)).toInt32).toInt_lt; have r2 := (((q / P) - (q / P) / (10 : Int64) * (10 : Int64)).toInt32).le_toInt
 have a := c_iadd (48 : Int32) (((q / P) - (q / P) / (10 : Int64) * (10 : Int64)).toInt32)
 have e : (48 : Int32).toInt = 48 := rfl
 have r3 := ((48 : Int32) + (((q / P) - (q / P) / (10 : Int64) * (10 : Int64)).toInt32)).toInt_lt; have r4 := ((48 : Int32) + (((q / P) - (q / P) / (10 : Int64) * (10 : Int64)).toInt32)).le_toInt
 have f : ((48 : Int32) + (((q / P) - (q / P) / (10 : Int64) * (10 : Int64)).toInt32)) = own_dg A Pz := by
  apply Int32.toInt_inj.mp; omega
 rw [f]
 have h1 : ¬ (255 : Int32) < own_dg A Pz := by
  rw [Int32.lt_iff_toInt_lt]; have : (255 : Int32).toInt = 255 := rfl; omega
 have h2 : ¬ own_dg A Pz < 0 := by
  rw [Int32.lt_iff_toInt_lt]; have : (0 : Int32).toInt = 0 := rfl; omega
 have n := own_nc h1 h2
 have n' : (own_dg A Pz).toUInt32.toUInt16.toUInt32.toInt32 = own_dg A Pz := n
 rw [n']; exact n
def own_fl (L : List Int32) (i : Int32) : Int32 := L.getD i.toNatClampNeg 0
def own_ok (c : Int32) : Prop := 0 ≤ c.toInt ∧ c.toInt ≤ 127
theorem own_dgok (A P : Int) : own_ok (own_dg A P) := by
 have d := own_dgI A P
 have b1 := Int.emod_nonneg (A / P) (show (10 : Int) ≠ 0 by decide)
 have b2 := Int.emod_lt_of_pos (A / P) (show (0 : Int) < 10 by decide)
 unfold own_ok; omega
theorem own_flok {L : List Int32} (h : ∀ c ∈ L, own_ok c) (i : Int32) : own_ok (own_fl L i) := by
 unfold own_fl
 rw [List.getD_eq_getElem?_getD]
 cases e : L[i.toNatClampNeg]? with
 | none => exact ⟨by decide, by decide⟩
 | some c => exact h c (List.mem_of_getElem? e)
theorem own_flb {L : List Int32} (h : ∀ c ∈ L, own_ok c) : ∀ i : Int32, ¬ (255 : Int32) < own_fl L i ∧ ¬ own_fl L i < 0 := fun i => by
 have q := own_flok h i
 unfold own_ok at q
 rw [Int32.lt_iff_toInt_lt, Int32.lt_iff_toInt_lt]
 have e : (255 : Int32).toInt = 255 := rfl
 have e0 : (0 : Int32).toInt = 0 := rfl
 omega
theorem own_flat {L : List Int32} {N : Int32} {dv : Value} (h : ∀ c ∈ L, own_ok c) (hN : N.toNatClampNeg = L.length) : ∀ i : Int32, ¬ i < 0 → i < N → (L.map Value.int).getD i.toNatClampNeg dv = .int (((own_fl L i).toInt8.toInt32).toInt8.toInt32) := fun i h0 h1 => by
 have q := own_flok h i
 have hl : i.toNatClampNeg < L.length := by
  rw [← hN]
  rw [Int32.lt_iff_toInt_lt] at h0 h1
  have e0 : (0 : Int32).toInt = 0 := rfl
  simp only [Int32.toNatClampNeg] at *; omega
 rw [own_i8 q.1 q.2, own_i8 q.1 q.2]
 simp [own_fl, List.getD_eq_getElem?_getD, hl]
theorem own_all0 : ∀ c ∈ ([] : List Int32), own_ok c := fun _ h => nomatch h
theorem own_allS {x : Int32} {L : List Int32} (hx : own_ok x) (h : ∀ c ∈ L, own_ok c) : ∀ c ∈ x :: L, own_ok c := fun c hc => (List.mem_cons.mp hc).elim (fun e => e ▸ hx) (h c)
theorem own_selQ {s : State} {args : Array Value} {y : MethodName} {K : String} (hs : (Cond.selects K y y).before args s = true) (hinst : (Cond.instanceMethod y).before args s = true) (hp : s.PrivateAt y) (hy : y.cls ≠ "java/lang/invoke/MethodHandle" ∧ y.cls ≠ "java/lang/invoke/VarHandle") : (Cond.selects y.cls y y).before args s = true := by
 obtain ⟨c2, r2, m2, -, -, q3, -, kP, hkP, hkPi⟩ := Cond.selects_spec hs
 exact selects_self_of_private (findClass_of_methodNamed q3) hkP hkPi hp hinst hy
theorem own_same {Z : State} {a0 : Array Value} {y z : MethodName} {K : String} (hi : (Cond.instanceMethod y).before a0 Z = true) (hs : (Cond.selects K z z).before a0 Z = true) (hc : z.cls = y.cls) (hy : y.cls ≠ "java/lang/invoke/MethodHandle" ∧ y.cls ≠ "java/lang/invoke/VarHandle") : (Cond.sameMethod y.cls y.cls y.name y.desc).before a0 Z = true := by
 obtain ⟨mk, methM, hnamed, hmethM, -, -⟩ := Cond.instanceMethod_spec hi
 obtain ⟨c2, r2, m2, -, -, q3, -, kP, hkP, hkPi⟩ := Cond.selects_spec hs
 have h1 := findClass_of_methodNamed hnamed
 have h2 := findClass_of_methodNamed q3
 rw [hc, h1] at h2
 have e : mk.cls = m2.cls := Option.some.inj h2
 have hf := State.methodFound?_of_named hnamed hy
 have hn : Z.methodNamed? ⟨y.cls, y.name, y.desc⟩ = some mk := hnamed
 rw [← e] at hkP
 simp only [Cond.before, Cond.holds, Cond.value, h1, hf, hn, hkP]
 simp [hkPi]
theorem own_nf {s : State} {args : Array Value} {y z : MethodName} {K : String} (hs : (Cond.selects K z z).before args s = true) (hc : z.cls = y.cls) : NotFace s y := fun r0 h0 => by
 obtain ⟨c2, r2, m2, -, -, q3, -, kP, hkP, hkPi⟩ := Cond.selects_spec hs
 have h1 := findClass_of_methodNamed h0
 have h2 := findClass_of_methodNamed q3
 rw [hc, h1] at h2
 have e : r0.cls = m2.cls := Option.some.inj h2
 exact ⟨kP, e ▸ hkP, hkPi⟩

def own_LI (g : Nat → Int32) (N : Int32) : List Value := (List.range N.toNatClampNeg).map fun j => .int (g j)
def own_up {α : Type} (g : Nat → α) (j : Nat) (v : α) : Nat → α := fun i => if i = j then v else g i
def own_z : Nat → Int32 := fun _ => (0 : Int32)
theorem own_tn {j : Int32} (h0 : ¬ j < 0) : (j.toNatClampNeg : Int) = j.toInt := by
 rw [Int32.lt_iff_toInt_lt] at h0
 have e0 : (0 : Int32).toInt = 0 := rfl
 simp only [Int32.toNatClampNeg] at *; omega
theorem own_tlt {j N : Int32} (h0 : ¬ j < 0) (h : j < N) : j.toNatClampNeg < N.toNatClampNeg := by
 rw [Int32.lt_iff_toInt_lt] at h0 h
 have e0 : (0 : Int32).toInt = 0 := rfl
 simp only [Int32.toNatClampNeg] at *; omega
theorem own_LI_len (g : Nat → Int32) (N : Int32) : (own_LI g N).length = N.toNatClampNeg := by simp [own_LI]
theorem own_LI_lt {g : Nat → Int32} {j N : Int32} (h0 : ¬ j < 0) (h : j < N) : j.toNatClampNeg < (own_LI g N).length := by rw [own_LI_len]; exact own_tlt h0 h
theorem own_LI_get {g : Nat → Int32} {j N : Int32} {d : Value} (h0 : ¬ j < 0) (h : j < N) : (own_LI g N).getD j.toNatClampNeg d = .int (g j.toNatClampNeg) := by
 have q := own_tlt h0 h
 simp [own_LI, List.getD_eq_getElem?_getD, q]
theorem own_LI_set (g : Nat → Int32) (N : Int32) (j : Nat) (v : Int32) : (own_LI g N).set j (.int v) = own_LI (own_up g j v) N := by
 apply List.ext_getElem
 ·simp [own_LI]
 ·intro i h1 h2
  simp only [own_LI, List.getElem_set, List.getElem_map, List.getElem_range, own_up]
  by_cases q : j = i
  ·subst q; simp
  ·rw [if_neg q, if_neg (Ne.symm q)]
theorem own_LI_cg {g g' : Nat → Int32} {N : Int32} (h : ∀ j : Nat, (j : Int) < N.toInt → g j = g' j) : own_LI g N = own_LI g' N := by
 apply List.map_congr_left
 intro a ha
 rw [List.mem_range] at ha
 rw [h a (by simp only [Int32.toNatClampNeg] at ha; omega)]
theorem own_LI_pad (N : Int32) : ∀ i, (own_LI own_z N).getD i (.int (0 : Int32)) = ([] : List Value).getD i (.int (0 : Int32)) := fun i => by
 simp only [own_LI, own_z, List.getD_eq_getElem?_getD, List.getElem?_map]
 by_cases q : i < N.toNatClampNeg
 ·simp [q]
 ·simp [Nat.le_of_not_lt q]
def own_cp (g f : Nat → Int32) (d n : Nat) (j : Nat) : Int32 := if d ≤ j ∧ j < d + n then f (j - d) else g j
theorem own_cpy (g f : Nat → Int32) (N M d n : Int32) {dv : Value} (h0 : n.toNatClampNeg ≤ M.toNatClampNeg) (h1 : d.toNatClampNeg + n.toNatClampNeg ≤ N.toNatClampNeg) :
  (own_LI g N).take d.toNatClampNeg ++ ((List.range n.toNatClampNeg).map fun i => (own_LI f M).getD ((0 : Int32).toNatClampNeg + i) dv) ++ (own_LI g N).drop (d.toNatClampNeg + n.toNatClampNeg) = own_LI (own_cp g f d.toNatClampNeg n.toNatClampNeg) N := by
 generalize d.toNatClampNeg = D at *
 have e0 : (0 : Int32).toNatClampNeg = 0 := rfl
 rw [e0]
 unfold own_LI
 generalize n.toNatClampNeg = n' at *
 generalize N.toNatClampNeg = N' at *
 generalize M.toNatClampNeg = M' at *
 apply List.ext_getElem?
 intro i
 simp only [List.append_assoc, List.getElem?_append, List.length_take, List.length_map, List.length_range, List.getElem?_take, List.getElem?_drop, List.getElem?_map, own_cp, Nat.zero_add, Nat.min_eq_left (show D ≤ N' by omega)]
 by_cases a : i < D
 ·have b : i < N' := by omega
  have c : ¬ (D ≤ i ∧ i < D + n') := by omega
  simp [a, b, c]
 ·by_cases b : i < D + n'
  ·have c : i - D < n' := by omega
   have d' : i - D < M' := by omega
   have e : i < N' := by omega
   have f' : D ≤ i ∧ i < D + n' := by omega
   simp [a, c, d', e, f', List.getD_eq_getElem?_getD]
  ·have c : ¬ (i - D < n') := by omega
   have f' : ¬ (D ≤ i ∧ i < D + n') := by omega
   have g' : D + n' + (i - D - n') = i := by omega
   simp only [a, c, if_false, g']
   by_cases e : i < N'
   ·simp [e, f']
   ·simp [Nat.le_of_not_lt e]
theorem own_Arv_cg {Z : State} {h : Heap} {a : Addr} {k : ClassId} {ty : FieldType} {N : Int32} {l l' : List Value} {d : Value} (e : l = l') (V : Arv Z h a k ty N l d) : Arv Z h a k ty N l' d := e ▸ V
def own_nd (A : Int) : Int := if A < 10 then 1 else if A < 100 then 2 else if A < 1000 then 3 else if A < 10000 then 4 else if A < 100000 then 5 else if A < 1000000 then 6 else if A < 10000000 then 7 else if A < 100000000 then 8 else if A < 1000000000 then 9 else 10
def own_abs (p : Int32) : Int := if p.toInt < 0 then -p.toInt else p.toInt
def own_ng (p : Int32) : Int := if p.toInt < 0 then 1 else 0
def own_size (p : Int32) : Int32 := Int32.ofInt (own_nd (own_abs p) + own_ng p)
theorem own_ndb (A : Int) : 1 ≤ own_nd A ∧ own_nd A ≤ 10 := by
 unfold own_nd
 repeat' split
 all_goals omega
theorem own_ngb (p : Int32) : 0 ≤ own_ng p ∧ own_ng p ≤ 1 := by unfold own_ng; split <;> omega
theorem own_absb (p : Int32) : 0 ≤ own_abs p ∧ own_abs p ≤ 2147483648 := by
 have b1 := p.toInt_lt; have b2 := p.le_toInt
 unfold own_abs; split <;> omega
theorem own_sizeI (p : Int32) : (own_size p).toInt = own_nd (own_abs p) + own_ng p := by
 have a := own_ndb (own_abs p); have b := own_ngb p
 unfold own_size
 exact Int32.toInt_ofInt_of_le (by omega) (by omega)
theorem own_sizeb (p : Int32) : 1 ≤ (own_size p).toInt ∧ (own_size p).toInt ≤ 11 := by
 have a := own_ndb (own_abs p); have b := own_ngb p; have c := own_sizeI p; omega
theorem own_szeq {p k : Int32} {K : Int} (hk : k.toInt = K) (h : own_nd (own_abs p) + own_ng p = K) : k = own_size p := by
 apply Int32.toInt_inj.mp; rw [own_sizeI, hk, h]
theorem own_nk1 {X : Int} (h : X < 10) : own_nd X = 1 := by unfold own_nd; rw [if_pos (by omega)]
theorem own_nk2 {X : Int} (h : 10 ≤ X ∧ X < 100) : own_nd X = 2 := by unfold own_nd; rw [if_neg (by omega), if_pos (by omega)]
theorem own_nk3 {X : Int} (h : 100 ≤ X ∧ X < 1000) : own_nd X = 3 := by unfold own_nd; rw [if_neg (by omega), if_neg (by omega), if_pos (by omega)]
theorem own_nk4 {X : Int} (h : 1000 ≤ X ∧ X < 10000) : own_nd X = 4 := by unfold own_nd; rw [if_neg (by omega), if_neg (by omega), if_neg (by omega), if_pos (by omega)]
theorem own_nk5 {X : Int} (h : 10000 ≤ X ∧ X < 100000) : own_nd X = 5 := by unfold own_nd; rw [if_neg (by omega), if_neg (by omega), if_neg (by omega), if_neg (by omega), if_pos (by omega)]
theorem own_nk6 {X : Int} (h : 100000 ≤ X ∧ X < 1000000) : own_nd X = 6 := by unfold own_nd; rw [if_neg (by omega), if_neg (by omega), if_neg (by omega), if_neg (by omega), if_neg (by omega), if_pos (by omega)]
theorem own_nk7 {X : Int} (h : 1000000 ≤ X ∧ X < 10000000) : own_nd X = 7 := by unfold own_nd; rw [if_neg (by omega), if_neg (by omega), if_neg (by omega), if_neg (by omega), if_neg (by omega), if_neg (by omega), if_pos (by omega)]
theorem own_nk8 {X : Int} (h : 10000000 ≤ X ∧ X < 100000000) : own_nd X = 8 := by unfold own_nd; rw [if_neg (by omega), if_neg (by omega), if_neg (by omega), if_neg (by omega), if_neg (by omega), if_neg (by omega), if_neg (by omega), if_pos (by omega)]
theorem own_nk9 {X : Int} (h : 100000000 ≤ X ∧ X < 1000000000) : own_nd X = 9 := by unfold own_nd; rw [if_neg (by omega), if_neg (by omega), if_neg (by omega), if_neg (by omega), if_neg (by omega), if_neg (by omega), if_neg (by omega), if_neg (by omega), if_pos (by omega)]
theorem own_nk10 {X : Int} (h : 1000000000 ≤ X) : own_nd X = 10 := by unfold own_nd; rw [if_neg (by omega), if_neg (by omega), if_neg (by omega), if_neg (by omega), if_neg (by omega), if_neg (by omega), if_neg (by omega), if_neg (by omega), if_neg (by omega)]
theorem own_nd100 {B : Int} (h : 100 ≤ B) (h2 : B < 10000000000) : own_nd (B / 100) = own_nd B - 2 := by
 rcases (by omega : (100 ≤ B ∧ B < 1000) ∨ (1000 ≤ B ∧ B < 10000) ∨ (10000 ≤ B ∧ B < 100000) ∨ (100000 ≤ B ∧ B < 1000000) ∨ (1000000 ≤ B ∧ B < 10000000) ∨ (10000000 ≤ B ∧ B < 100000000) ∨ (100000000 ≤ B ∧ B < 1000000000) ∨ (1000000000 ≤ B ∧ B < 10000000000)) with c | c | c | c | c | c | c | c
 ·rw [own_nk3 c, own_nk1 (by omega)]; rfl
 ·rw [own_nk4 c, own_nk2 (by omega)]; rfl
 ·rw [own_nk5 c, own_nk3 (by omega)]; rfl
 ·rw [own_nk6 c, own_nk4 (by omega)]; rfl
 ·rw [own_nk7 c, own_nk5 (by omega)]; rfl
 ·rw [own_nk8 c, own_nk6 (by omega)]; rfl
 ·rw [own_nk9 c, own_nk7 (by omega)]; rfl
 ·rw [own_nk10 c.1, own_nk8 (by omega)]; rfl
theorem own_nd1 {B : Int} (h : B < 10) : own_nd B = 1 := by unfold own_nd; rw [if_pos h]
theorem own_nd2 {B : Int} (h : ¬ B < 10) (h2 : B < 100) : own_nd B = 2 := by unfold own_nd; rw [if_neg h, if_pos h2]
theorem own_nd3 {B : Int} (h : 100 ≤ B) : 3 ≤ own_nd B := by
 unfold own_nd; repeat' split
 all_goals omega
/-- the bytes of p's decimal form from place c on -/
def own_pt (p : Int32) (c : Int) (j : Nat) : Int32 := if c ≤ (j : Int) ∧ (j : Int) < (own_size p).toInt then (if own_ng p = 1 ∧ j = 0 then (45 : Int32) else own_dg (own_abs p) (10 ^ ((own_size p).toInt - 1 - (j : Int)).toNat)) else (0 : Int32)
theorem own_m1 {cp : Int32} (h : 0 < cp.toInt) : (cp + (-1 : Int32)).toInt = cp.toInt - 1 := by
 have q := c_iadd cp (-1 : Int32)
 have e : (-1 : Int32).toInt = -1 := rfl
 have b1 := (cp + (-1 : Int32)).toInt_lt; have b2 := (cp + (-1 : Int32)).le_toInt
 have b3 := cp.toInt_lt
 omega
theorem own_pt0 (p : Int32) : own_pt p (own_size p).toInt = own_z := by
 funext j; unfold own_pt own_z; rw [if_neg (by omega)]
theorem own_ptS {p cp v : Int32} {N : Int32} {P : Int} (h1 : own_ng p < cp.toInt) (h2 : cp.toInt ≤ (own_size p).toInt) (hP : P = 10 ^ ((own_size p).toInt - cp.toInt).toNat) (hv : v = own_dg (own_abs p) P) : own_LI (own_up (own_pt p cp.toInt) (cp + (-1 : Int32)).toNatClampNeg v) N = own_LI (own_pt p (cp + (-1 : Int32)).toInt) N := by
 have g := own_ngb p
 have m := own_m1 (cp := cp) (by omega)
 have n : ((cp + (-1 : Int32)).toNatClampNeg : Int) = cp.toInt - 1 := by simp only [Int32.toNatClampNeg]; omega
 refine congrArg (fun f => own_LI f N) ?_
 funext j
 unfold own_up own_pt
 rw [m]
 by_cases a : j = (cp + (-1 : Int32)).toNatClampNeg
 ·have a' : (j : Int) = cp.toInt - 1 := by omega
  rw [if_pos a, if_pos (by omega), if_neg (by omega), hv, hP, show ((own_size p).toInt - 1 - (j : Int)).toNat = ((own_size p).toInt - cp.toInt).toNat by omega]
 ·have a' : (j : Int) ≠ cp.toInt - 1 := by omega
  rw [if_neg a]
  by_cases b : cp.toInt ≤ (j : Int) ∧ (j : Int) < (own_size p).toInt
  ·rw [if_pos b, if_pos (show cp.toInt - 1 ≤ (j : Int) ∧ (j : Int) < (own_size p).toInt by omega)]
  ·rw [if_neg b, if_neg (show ¬ (cp.toInt - 1 ≤ (j : Int) ∧ (j : Int) < (own_size p).toInt) by omega)]
theorem own_ptM {p cp : Int32} {N : Int32} (h1 : own_ng p = 1) (h2 : cp.toInt = 1) : own_LI (own_up (own_pt p cp.toInt) (cp + (-1 : Int32)).toNatClampNeg (45 : Int32)) N = own_LI (own_pt p (cp + (-1 : Int32)).toInt) N := by
 have m := own_m1 (cp := cp) (by omega)
 have n : (cp + (-1 : Int32)).toNatClampNeg = 0 := by simp only [Int32.toNatClampNeg]; omega
 have sb := own_sizeb p
 refine congrArg (fun f => own_LI f N) ?_
 funext j
 unfold own_up own_pt
 rw [m, n, h2]
 by_cases a : j = 0
 ·subst a
  rw [if_pos rfl, if_pos (by omega), if_pos ⟨h1, rfl⟩]
 ·rw [if_neg a]
  by_cases b : (1 : Int) ≤ (j : Int) ∧ (j : Int) < (own_size p).toInt
  ·rw [if_pos b, if_pos (show (1 : Int) - 1 ≤ (j : Int) ∧ (j : Int) < (own_size p).toInt by omega)]
  ·rw [if_neg b, if_neg (show ¬ ((1 : Int) - 1 ≤ (j : Int) ∧ (j : Int) < (own_size p).toInt) by omega)]
theorem own_p100 {A : Int} {e : Nat} : A / 10 ^ (e + 2) = A / 10 ^ e / 100 := by
 rw [Int.pow_succ, Int.pow_succ, Int.mul_assoc, ← Int.ediv_ediv_of_nonneg (Int.le_of_lt (Int.pow_pos (by decide)))]
 rfl
theorem own_p10e {A : Int} {e : Nat} : A / 10 ^ (e + 1) = A / 10 ^ e / 10 := by
 rw [Int.pow_succ, ← Int.ediv_ediv_of_nonneg (Int.le_of_lt (Int.pow_pos (by decide)))]
def own_inv (p i cp : Int32) : Prop := own_abs p / 10 ^ ((own_size p).toInt - cp.toInt).toNat = -i.toInt ∧ own_nd (-i.toInt) + own_ng p = cp.toInt ∧ cp.toInt ≤ (own_size p).toInt ∧ 0 ≤ -i.toInt ∧ -i.toInt ≤ 2147483648
theorem own_inv0 {p i : Int32} (h : i.toInt = -own_abs p) : own_inv p i (own_size p) := by
 have a := own_absb p
 have s := own_sizeI p
 have e : ((own_size p).toInt - (own_size p).toInt).toNat = 0 := by omega
 refine ⟨?_, ?_, by omega, by omega, by omega⟩
 ·rw [e, Int.pow_zero, Int.ediv_one]; omega
 ·rw [show -i.toInt = own_abs p by omega]; omega
theorem own_invN {p : Int32} (h : p < 0) : own_inv p p (own_size p) := own_inv0 (by
 rw [Int32.lt_iff_toInt_lt] at h
 have h' : p.toInt < 0 := h
 unfold own_abs; rw [if_pos h']; omega)
theorem own_invP {p : Int32} (h : ¬ p < 0) : own_inv p (-p) (own_size p) := own_inv0 (by
 rw [Int32.lt_iff_toInt_lt] at h
 have h' : ¬ p.toInt < 0 := h
 rw [own_neg (x := p) rfl (by omega)]
 unfold own_abs; rw [if_neg h'])
theorem own_ngN {p : Int32} (h : p < 0) : own_ng p = 1 := by
 rw [Int32.lt_iff_toInt_lt] at h
 have h' : p.toInt < 0 := h
 unfold own_ng; rw [if_pos h']
theorem own_ngP {p : Int32} (h : ¬ p < 0) : own_ng p = 0 := by
 rw [Int32.lt_iff_toInt_lt] at h
 have h' : ¬ p.toInt < 0 := h
 unfold own_ng; rw [if_neg h']
section Inv
variable {p i cp : Int32}
theorem own_ge100 (h : ¬ (-100 : Int32) < i) : 100 ≤ -i.toInt := by
 rw [Int32.lt_iff_toInt_lt] at h
 have h' : ¬ (-100 : Int) < i.toInt := h
 omega
theorem own_lt100 (h : (-100 : Int32) < i) : -i.toInt < 100 := by
 rw [Int32.lt_iff_toInt_lt] at h
 have h' : (-100 : Int) < i.toInt := h
 omega
theorem own_lt9 (h : i < (-9 : Int32)) : ¬ -i.toInt < 10 := by
 rw [Int32.lt_iff_toInt_lt] at h
 have h' : i.toInt < (-9 : Int) := h
 omega
theorem own_ge9 (h : ¬ i < (-9 : Int32)) : -i.toInt < 10 := by
 rw [Int32.lt_iff_toInt_lt] at h
 have h' : ¬ i.toInt < (-9 : Int) := h
 omega
theorem own_rI (H : own_inv p i cp) : (((i / (100 : Int32)) * (100 : Int32)) - i).toInt = (-i.toInt) % 100 := own_r100 H.2.2.2.1 (by omega)
theorem own_nI (H : own_inv p i cp) (h : -i.toInt < 100) : (-i).toInt = -i.toInt := own_neg rfl (by omega)
theorem own_a1 (H : own_inv p i cp) : own_ng p < cp.toInt ∧ cp.toInt ≤ (own_size p).toInt := by
 have a := own_ndb (-i.toInt); have q := H.2.1; exact ⟨by omega, H.2.2.1⟩
theorem own_b1 (H : own_inv p i cp) (h : ¬ -i.toInt < 10) : own_ng p < (cp + (-1 : Int32)).toInt ∧ (cp + (-1 : Int32)).toInt ≤ (own_size p).toInt := by
 have a := own_a1 H
 have g := own_ngb p
 have m := own_m1 (cp := cp) (by omega)
 have q := H.2.1
 have n : 2 ≤ own_nd (-i.toInt) := by
  by_cases c : -i.toInt < 100
  ·rw [own_nd2 h c]; omega
  ·have := own_nd3 (B := -i.toInt) (by omega); omega
 omega
theorem own_pe (H : own_inv p i cp) : ((own_size p).toInt - (cp + (-1 : Int32)).toInt).toNat = ((own_size p).toInt - cp.toInt).toNat + 1 := by
 have a := own_a1 H
 have g := own_ngb p
 have m := own_m1 (cp := cp) (by omega)
 omega
theorem own_v1 {r : Int32} (H : own_inv p i cp) (hr : r.toInt = (-i.toInt) % 100) : (own_one r).toInt8.toInt32 = own_dg (own_abs p) (10 ^ ((own_size p).toInt - cp.toInt).toNat) :=
 own_st1 hr (by omega) (by rw [H.1]; omega)
theorem own_w1 {r : Int32} (H : own_inv p i cp) (hr : r.toInt = (-i.toInt) % 100) : (own_ten r).toInt8.toInt32 = own_dg (own_abs p) (10 ^ ((own_size p).toInt - (cp + (-1 : Int32)).toInt).toNat) :=
 own_st2 hr (by omega) (by rw [own_pe H, own_p10e, H.1]; omega)
theorem own_rE (H : own_inv p i cp) (h : -i.toInt < 100) : (-i).toInt = (-i.toInt) % 100 := by
 rw [own_nI H h]; have := H.2.2.2.1; omega
theorem own_inx {r : Int32} (hr : r.toInt = (-i.toInt) % 100) : ¬ r < 0 ∧ r < (100 : Int32) := own_inr hr (by omega)
theorem own_nxt (H : own_inv p i cp) (h : ¬ (-100 : Int32) < i) : own_inv p (i / (100 : Int32)) ((cp + (-1 : Int32)) + (-1 : Int32)) := by
 have h' := own_ge100 h
 have d := own_i100 (i := i) (A := -i.toInt) H.2.2.2.1 (by omega)
 have a := own_a1 H
 have b := own_b1 H (by omega)
 have g := own_ngb p
 have m := own_m1 (cp := cp) (by omega)
 have m2 := own_m1 (cp := cp + (-1 : Int32)) (by omega)
 have n := own_nd100 (B := -i.toInt) h' (by have := H.2.2.2.2; omega)
 have q := H.2.1
 have z := H.2.2.2.2
 have e : ((own_size p).toInt - ((cp + (-1 : Int32)) + (-1 : Int32)).toInt).toNat = ((own_size p).toInt - cp.toInt).toNat + 2 := by omega
 refine ⟨?_, ?_, by omega, by omega, by omega⟩
 ·rw [e, own_p100, H.1, d]; omega
 ·rw [d, Int.neg_neg, n]; omega
theorem own_fu {fuel : Nat} (H : own_inv p i cp) (h : ¬ (-100 : Int32) < i) (hf : -i.toInt < ((fuel + 1 : Nat) : Int)) : -(i / (100 : Int32)).toInt < (fuel : Int) := by
 have h' := own_ge100 h
 have d := own_i100 (i := i) (A := -i.toInt) H.2.2.2.1 (by omega)
 omega
theorem own_b16 (h : own_ng p < cp.toInt ∧ cp.toInt ≤ (own_size p).toInt) : ¬ (cp + (-1 : Int32)) < 0 ∧ (cp + (-1 : Int32)) < (16 : Int32) := by
 have g := own_ngb p
 have s := own_sizeb p
 have m := own_m1 (cp := cp) (by omega)
 rw [Int32.lt_iff_toInt_lt, Int32.lt_iff_toInt_lt, m]
 have e0 : (0 : Int32).toInt = 0 := rfl
 have e1 : (16 : Int32).toInt = 16 := rfl
 omega
/-- the place behind the last digit -/
theorem own_c1 (H : own_inv p i cp) (h : ¬ i < (-9 : Int32)) : (cp + (-1 : Int32)).toInt = own_ng p := by
 have n := own_nd1 (own_ge9 h)
 have a := own_a1 H
 have g := own_ngb p
 have m := own_m1 (cp := cp) (by omega)
 have q := H.2.1
 omega
theorem own_c2 (H : own_inv p i cp) (h : i < (-9 : Int32)) (h2 : -i.toInt < 100) : ((cp + (-1 : Int32)) + (-1 : Int32)).toInt = own_ng p := by
 have n := own_nd2 (own_lt9 h) h2
 have a := own_a1 H
 have b := own_b1 H (own_lt9 h)
 have g := own_ngb p
 have m := own_m1 (cp := cp) (by omega)
 have m2 := own_m1 (cp := cp + (-1 : Int32)) (by omega)
 have q := H.2.1
 omega
theorem own_b16' {x : Int32} (h : x.toInt = 1) : ¬ (x + (-1 : Int32)) < 0 ∧ (x + (-1 : Int32)) < (16 : Int32) := by
 have m := own_m1 (cp := x) (by omega)
 rw [Int32.lt_iff_toInt_lt, Int32.lt_iff_toInt_lt, m]
 have e0 : (0 : Int32).toInt = 0 := rfl
 have e1 : (16 : Int32).toInt = 16 := rfl
 omega
theorem own_is0 {x : Int32} (h : x.toInt = 0) : x = (0 : Int32) := Int32.toInt_inj.mp h
theorem own_is0m {x : Int32} (h : x.toInt = 1) : x + (-1 : Int32) = (0 : Int32) := own_is0 (by rw [own_m1 (by omega)]; omega)
end Inv
def own_O (o : Slot) : Prop := o = .unset ∨ ∃ w : Value, o = .val w ∧ w.category = 1
theorem own_sto {l l' : Array Slot} {i : Nat} {o : Slot} {v : Value} (ho : own_O o) (hl : l[i]? = some o) (hs : storeSelf l i v = some l') : storeLocals l i v = some l' := by
 unfold storeLocals
 rw [hl]
 rcases ho with rfl | ⟨w, rfl, q⟩
 ·exact hs
 ·show (if w.category = 2 then _ else storeSelf l i v) = some l'
  rw [if_neg (by rw [q]; decide)]; exact hs

theorem own_shl0 (x : Int32) : x <<< ((0 : Int32) &&& 31) = x := by
 have e : ((0 : Int32) &&& 31) = 0 := rfl
 rw [e]; simp
theorem own_le34 {n t : Int32} {K : Nat} (hn : 0 ≤ n.toInt) (ht : 0 ≤ t.toInt) (h : n.toInt + t.toInt ≤ (K : Int)) : n.toNatClampNeg + t.toNatClampNeg ≤ K := by simp only [Int32.toNatClampNeg]; omega
theorem own_cpW (g : Nat → Int32) (N : Int32) : own_LI (own_cp own_z g (0 : Int32).toNatClampNeg N.toNatClampNeg) N = own_LI g N := own_LI_cg fun j hj => by
 have e : (0 : Int32).toNatClampNeg = 0 := rfl
 unfold own_cp
 rw [e, if_pos (by simp only [Int32.toNatClampNeg]; omega)]; rfl
def own_txf (j : Nat) : Int32 := [(32 : Int32), 116, 105, 109, 101, 115].getD j 0
def own_len (p : Int32) : Int32 := own_size p + (if (1 : Int32) = p then (5 : Int32) else (6 : Int32))
def own_ft (p : Int32) (j : Nat) : Int32 := if (j : Int) < (own_size p).toInt then own_pt p 0 j else own_txf (j - (own_size p).toNatClampNeg)
theorem own_lenT {p : Int32} (h : (1 : Int32) = p) : own_size p + (5 : Int32) = own_len p := by unfold own_len; rw [if_pos h]
theorem own_lenF {p : Int32} (h : ¬ (1 : Int32) = p) : own_size p + (6 : Int32) = own_len p := by unfold own_len; rw [if_neg h]
theorem own_lenI (p : Int32) : (own_len p).toInt = (own_size p).toInt + (if (1 : Int32) = p then 5 else 6) := by
 have s := own_sizeb p
 unfold own_len
 split
 ·have q := c_iadd (own_size p) (5 : Int32); have e : (5 : Int32).toInt = 5 := rfl
  have b1 := (own_size p + (5 : Int32)).toInt_lt; have b2 := (own_size p + (5 : Int32)).le_toInt; omega
 ·have q := c_iadd (own_size p) (6 : Int32); have e : (6 : Int32).toInt = 6 := rfl
  have b1 := (own_size p + (6 : Int32)).toInt_lt; have b2 := (own_size p + (6 : Int32)).le_toInt; omega
theorem own_one1 : own_size (1 : Int32) = (1 : Int32) := Int32.toInt_inj.mp (by rw [own_sizeI]; decide)
theorem own_lenb (p : Int32) : 6 ≤ (own_len p).toInt ∧ (own_len p).toInt ≤ 17 := by
 have s := own_sizeb p
 rw [own_lenI]
 split
 ·rename_i h; subst h; rw [own_one1]; decide
 ·omega
theorem own_ge0 {x : Int32} (h : 0 ≤ x.toInt) : ¬ x < 0 := by
 rw [Int32.lt_iff_toInt_lt]; have e0 : (0 : Int32).toInt = 0 := rfl; omega
theorem own_ec {x : Int32} (h : 0 ≤ x.toInt ∧ x.toInt ≤ 16) : ¬ (0 : Int32) < (x - (16 : Int32)) := by
 have q := c_isub x (16 : Int32); have e : (16 : Int32).toInt = 16 := rfl
 have b1 := (x - (16 : Int32)).toInt_lt; have b2 := (x - (16 : Int32)).le_toInt
 rw [Int32.lt_iff_toInt_lt]; have e0 : (0 : Int32).toInt = 0 := rfl; omega
theorem own_ltI {a b : Int32} (h : a.toInt < b.toInt) : a < b := Int32.lt_iff_toInt_lt.mpr h
/-- what countOfTimes does, by the size of the argument -/
theorem own_ctc (p : Int32) : ((1 : Int32) = p ∧ (own_len p).toInt ≤ 15) ∨ (¬ (1 : Int32) = p ∧ own_len p = (16 : Int32)) ∨ (¬ (1 : Int32) = p ∧ own_len p = (17 : Int32)) ∨ (¬ (1 : Int32) = p ∧ (own_len p).toInt ≤ 15) := by
 have l := own_lenI p
 by_cases h : (1 : Int32) = p
 ·refine Or.inl ⟨h, ?_⟩
  subst h; rw [l, own_one1]; decide
 ·rw [if_neg h] at l
  have s := own_sizeb p
  by_cases a : (own_len p).toInt = 16
  ·exact Or.inr (Or.inl ⟨h, Int32.toInt_inj.mp a⟩)
  ·by_cases b : (own_len p).toInt = 17
   ·exact Or.inr (Or.inr (Or.inl ⟨h, Int32.toInt_inj.mp b⟩))
   ·exact Or.inr (Or.inr (Or.inr ⟨h, by omega⟩))
section Ft
variable {p t : Int32}
theorem own_ptn {j : Nat} (h : ¬ (j : Int) < (own_size p).toInt) : own_pt p 0 j = 0 := by unfold own_pt; rw [if_neg (by omega)]
theorem own_sn (p : Int32) : ((own_size p).toNatClampNeg : Int) = (own_size p).toInt := by
 have s := own_sizeb p; simp only [Int32.toNatClampNeg]; omega
theorem own_ftA (ht : 0 ≤ t.toInt) (hl : (own_len p).toInt = (own_size p).toInt + t.toInt) : own_LI (own_cp (own_pt p 0) own_txf (own_size p).toNatClampNeg t.toNatClampNeg) (own_len p) = own_LI (own_ft p) (own_len p) := own_LI_cg fun j hj => by
 have sn := own_sn p
 have tn : (t.toNatClampNeg : Int) = t.toInt := by simp only [Int32.toNatClampNeg]; omega
 unfold own_cp own_ft
 by_cases a : (j : Int) < (own_size p).toInt
 ·rw [if_neg (by omega), if_pos a]
 ·rw [if_pos (by omega), if_neg a]
theorem own_ftC (ht : 0 ≤ t.toInt) (hl : (own_len p).toInt = (own_size p).toInt + t.toInt) : own_LI (own_cp (own_cp own_z (own_pt p 0) (0 : Int32).toNatClampNeg (16 : Int32).toNatClampNeg) own_txf (own_size p).toNatClampNeg t.toNatClampNeg) (own_len p) = own_LI (own_ft p) (own_len p) := by
 rw [← own_ftA ht hl]
 apply own_LI_cg
 intro j hj
 have sn := own_sn p
 have s := own_sizeb p
 have e0 : (0 : Int32).toNatClampNeg = 0 := rfl
 have e1 : (16 : Int32).toNatClampNeg = 16 := rfl
 have tn : (t.toNatClampNeg : Int) = t.toInt := by simp only [Int32.toNatClampNeg]; omega
 unfold own_cp
 rw [e0, e1]
 by_cases a : (own_size p).toNatClampNeg ≤ j ∧ j < (own_size p).toNatClampNeg + t.toNatClampNeg
 ·rw [if_pos a, if_pos a]
 ·rw [if_neg a, if_neg a, if_pos (by omega)]; rfl
end Ft


theorem pn_34 : plainName "jdk/internal/util/Preconditions" = true := by first | (simp [plainName, overriddenIn]; done) | decide +kernel
abbrev D34 := decode jdk_41_method_11_code
theorem d34_0 : D34 0 = .ok (.iload_n 0, 1) := by decide +kernel
theorem d34_1 : D34 1 = .ok (.ifCond .lt 8, 3) := by decide +kernel
theorem d34_4 : D34 4 = .ok (.iload_n 0, 1) := by decide +kernel
theorem d34_5 : D34 5 = .ok (.iload_n 1, 1) := by decide +kernel
theorem d34_6 : D34 6 = .ok (.if_icmp .lt 10, 3) := by decide +kernel
theorem d34_16 : D34 16 = .ok (.iload_n 0, 1) := by decide +kernel
theorem d34_17 : D34 17 = .ok (.ireturn, 1) := by decide +kernel
section Sm
variable {p : Program} {l : Launch} {e : Env} {R : Room} {s : State} {m : MethodId} {args : Array Value} {below : List Frame} {meth : Method} {c : Code} {T : State} {locs : List Loc} {cells slots : Nat} {P : Outcome → State → Prop} {pc : Nat} {Ls : Array Slot} {st : List Value}
theorem e_I (X : Stand p l e R s m args below meth c T locs cells slots) {h : Heap} (eT : T.heap = h) {cb : ByteArray} (hq : p.tables.exec = Jvm.exec ∧ c.code = cb) (hlk : meth.locks = false) {z : Int32} {rest : List Value} (hrt : meth.sig.returnType = some .int) (hd : decode cb pc = .ok (.ireturn, 1)) {Q : Option Value → Heap → List Loc → Prop} (hQ : Q (some (.int z)) h locs) (hcs : cells ≤ R.cells ∧ slots ≤ R.slots := by decide) :
  own_Go p.tables e below (own_P s Q R) (T.setTop (mkF m pc Ls (.int z :: rest))) := own_end X eT (v := (some (.int z))) (fun h => by rw [hrt] at h; cases h) hlk (fun fs hr => retI X hq.1 hrt (hb hq.2 hd) hr) (Q := Q) hQ hcs.1 hcs.2
end Sm
def Q_rmpre0 (Z : State) (a0 : Array Value) (p1 p2 : Int32) (a3 : Addr) (h0 : Heap) (n0 : Nat) (v : Option Value) (h : Heap) (L : List Loc) : Prop := v = some (.int p1) ∧ Fr n0 L ∧ h = h0
theorem rmpre0 (hw : HW a0 Z) (p1 p2 : Int32) (a3 : Addr) (h0 : Heap) (n0 : Nat) (Z0 : n0 ≤ h0.size) (hi0 : ¬ p1 < 0) (hi1 : p1 < p2) :
  own_Met l y9_ jdk_41_method_11_code 3 (some .int) (R_ 0 0 0 0) #[(.int p1), (.int p2), (.ref a3)] Z h0 (Q_rmpre0 Z a0 p1 p2 a3 h0 n0) := by
 refine own_bd (own := "jdk/internal/util/Preconditions") rfl (plainFor_of_name pn_34) #[iv p1, iv p2, rv a3] ?_
 intro p e s m below meth c s₁ hx hby Hq hml hown hnm hlk hrt hZ X0 e0
 refine o_iloadN X0 Hq d34_0 rfl (o_ifNo X0 Hq d34_1 (flt hi0).1 (o_iloadN X0 Hq d34_4 rfl (o_iloadN X0 Hq d34_5 rfl (o_icmpYes X0 Hq (pc' := 16) d34_6 (tlt hi1).1 (o_iloadN X0 Hq d34_16 rfl ?_)))))
 exact e_I X0 e0 Hq hlk hrt d34_17 ⟨rfl, (Fr.nil n0), rfl⟩
def Q_rmpre1 (Z : State) (a0 : Array Value) (p1 p2 : Int32) (h0 : Heap) (n0 : Nat) (v : Option Value) (h : Heap) (L : List Loc) : Prop := v = some (.int p1) ∧ Fr n0 L ∧ h = h0
theorem rmpre1 (hw : HW a0 Z) (p1 p2 : Int32) (h0 : Heap) (n0 : Nat) (Z0 : n0 ≤ h0.size) (hi0 : ¬ p1 < 0) (hi1 : p1 < p2) :
  own_Met l y9_ jdk_41_method_11_code 3 (some .int) (R_ 0 0 0 0) #[(.int p1), (.int p2), .null] Z h0 (Q_rmpre1 Z a0 p1 p2 h0 n0) := by
 refine own_bd (own := "jdk/internal/util/Preconditions") rfl (plainFor_of_name pn_34) #[iv p1, iv p2, .val .null] ?_
 intro p e s m below meth c s₁ hx hby Hq hml hown hnm hlk hrt hZ X0 e0
 refine o_iloadN X0 Hq d34_0 rfl (o_ifNo X0 Hq d34_1 (flt hi0).1 (o_iloadN X0 Hq d34_4 rfl (o_iloadN X0 Hq d34_5 rfl (o_icmpYes X0 Hq (pc' := 16) d34_6 (tlt hi1).1 (o_iloadN X0 Hq d34_16 rfl ?_)))))
 exact e_I X0 e0 Hq hlk hrt d34_17 ⟨rfl, (Fr.nil n0), rfl⟩
theorem pn_33 : plainName "java/lang/String" = true := by first | (simp [plainName, overriddenIn]; done) | decide +kernel
abbrev D33 := decode jdk_42_method_155_code
theorem d33_0 : D33 0 = .ok (.iload_n 0, 1) := by decide +kernel
theorem d33_1 : D33 1 = .ok (.iload_n 1, 1) := by decide +kernel
theorem d33_2 : D33 2 = .ok (.getstatic 1053, 3) := by decide +kernel
theorem d33_5 : D33 5 = .ok (.invokestatic 1059, 3) := by decide +kernel
theorem pd_1 : parseMethodDescriptor "(IILjava/util/function/BiFunction;)I" = some ⟨[.int, .int, (.object "java/util/function/BiFunction")], some .int⟩ := by decide +kernel
def own_KS (a0 : Array Value) (Z : State) (own C : String) (index : Nat) (y z : MethodName) (bytes : ByteArray) (maxL : Nat) (ret : Option FieldType) (k : Nat) : Prop := ((Jvm.Cond.methodLink own index y).before a0 Z = true ∧ (∃ ps r, parseMethodDescriptor y.desc = some ⟨ps, r⟩ ∧ k = ps.length) ∧ (y.cls ≠ "java/lang/invoke/MethodHandle" ∧ y.cls ≠ "java/lang/invoke/VarHandle")) ∧ (Jvm.Cond.static y).before a0 Z = true ∧ (Jvm.Cond.initialized y.cls).before a0 Z = true ∧ (Jvm.Cond.code y bytes maxL ret).before a0 Z = true
section Sm
variable {p : Program} {l : Launch} {e : Env} {R : Room} {s : State} {m : MethodId} {args : Array Value} {below : List Frame} {meth : Method} {c : Code} {T : State} {locs : List Loc} {cells slots : Nat} {P : Outcome → State → Prop} {pc : Nat} {Ls : Array Slot} {st : List Value}
theorem c_S3 (X : Stand p l e R s m args below meth c T locs cells slots) {cb : ByteArray} (hq : p.tables.exec = Jvm.exec ∧ c.code = cb) {Z : State} {a0 : Array Value} {h : Heap} {own C : String} {index : Nat} {y z : MethodName} {bytes : ByteArray} {maxL ML : Nat} {ret : Option FieldType} {rm : Room} {Q : Option Value → Heap → List Loc → Prop} {v1 v2 v3 : Value}
  (eT : T.heap = h) (hZ : Z.Warmed39 s.vm) (hown : s.vm.findClass own = some m.cls) (hml : c.maxLocals = ML) (hK : own_KS a0 Z own C index y z bytes maxL ret 3) (hM : own_Met l y bytes maxL ret rm #[v1, v2, v3] Z h Q)
  (hd : decode cb pc = .ok (.invokestatic index, 3)) 
  (k : ∀ (T' : State) (L : List Loc) (w : Value), Stand p l e R s m args below meth c T' (locs ++ L) (cells + rm.cells) (slots + rm.slots) → Q (some w) T'.heap L → own_Go p.tables e below P (T'.setTop (mkF m (pc + 3) Ls (w :: st)))) (W : Nat) (hsz : Ls.size = ML := by rfl) (hW : (st.map fun v => v.category).sum = W := by rfl) (sd : rm.frames + 1 ≤ R.frames ∧ W + (maxL + 11) + rm.locals ≤ R.locals ∧ cells + rm.cells ≤ R.cells ∧ slots + rm.slots ≤ R.slots := by decide) (hv : ∀ v h L, Q v h L → ∃ w, v = some w := by intro v h L q; first | exact Exists.intro _ q.1 | (obtain ⟨_, q⟩ := q; exact Exists.intro _ q.1) | (obtain ⟨_, _, q⟩ := q; exact Exists.intro _ q.1) | (obtain ⟨_, _, _, q⟩ := q; exact Exists.intro _ q.1)) : own_Go p.tables e below P (T.setTop (mkF m pc Ls (v3 :: v2 :: v1 :: st))) := by
 obtain ⟨⟨w1, ⟨ps, r, hp, hlen⟩, hy⟩, w2, w3, w4⟩ := hK
 obtain ⟨v, vm1, ⟨T', L0, k0, n0⟩, -, X', ⟨L, hQ, e1, e2, e3⟩, hst⟩ := Jvm.LawKit.callS X hq.1 (y := y) hown (mvT hZ w1) (mvT hZ w2) (mvT hZ w3) (mvT hZ w4) hy (backOf (W := W) (Q := Q) hM hZ w4 w3 sd.1 sd.2.1) (g := mkF m pc Ls (v3 :: v2 :: v1 :: st)) rfl (by rw [hml]; exact hsz) (argsL := [v1, v2, v3]) (rest := st) (lenOf hp hlen) rfl (by show 2 * 0 + _ ≤ _; rw [Nat.mul_zero, Nat.zero_add]; exact Nat.le_of_eq hW) (hb hq.2 hd) (fun _ _ => ⟨rfl, eT, sd.2.2.1, sd.2.2.2⟩)
 dsimp only [Pt.U, Pt.locs, Pt.cells, Pt.slots] at X' e1 e2 e3 hst hQ
 subst e1 e2 e3
 obtain ⟨w, rfl⟩ := hv _ _ _ hQ
 exact own_st hst (k _ _ _ X' hQ)
end Sm
theorem k33_1059 {a0 : Array Value} {Z : State} (hw : HW a0 Z) : own_KS a0 Z "java/lang/String" "" 1059 y9_ y9_ jdk_41_method_11_code 3 (some .int) 3 := ⟨⟨(w_ hw 175 rfl), ⟨_, _, pd_1, rfl⟩, by decide⟩, (w_ hw 176 rfl), (w_ hw 174 rfl), (w_ hw 177 rfl)⟩
theorem d33_8 : D33 8 = .ok (.pop, 1) := by decide +kernel
theorem d33_9 : D33 9 = .ok (.return_, 1) := by decide +kernel
section Sm
variable {p : Program} {l : Launch} {e : Env} {R : Room} {s : State} {m : MethodId} {args : Array Value} {below : List Frame} {meth : Method} {c : Code} {T : State} {locs : List Loc} {cells slots : Nat} {P : Outcome → State → Prop} {pc : Nat} {Ls : Array Slot} {st : List Value}
theorem e_V (X : Stand p l e R s m args below meth c T locs cells slots) {h : Heap} (eT : T.heap = h) {cb : ByteArray} (hq : p.tables.exec = Jvm.exec ∧ c.code = cb) (hlk : meth.locks = false) (hrt : meth.sig.returnType = none) (hd : decode cb pc = .ok (.return_, 1)) {Q : Option Value → Heap → List Loc → Prop} (hQ : Q none h locs) (hcs : cells ≤ R.cells ∧ slots ≤ R.slots := by decide) :
  own_Go p.tables e below (own_P s Q R) (T.setTop (mkF m pc Ls [])) := own_end X eT (v := none) (fun _ => rfl) hlk (fun fs hr => X.returnOut hq.1 hrt (hb hq.2 hd) hr) (Q := Q) hQ hcs.1 hcs.2
end Sm
def Q_rm33 (Z : State) (a0 : Array Value) (p1 p2 : Int32) (sfv : Value) (h0 : Heap) (n0 : Nat) (v : Option Value) (h : Heap) (L : List Loc) : Prop := v = none ∧ Fr n0 L ∧ h = h0
theorem rm33 (hw : HW a0 Z) (p1 p2 : Int32) (sfv : Value) (h0 : Heap) (n0 : Nat) (Z0 : n0 ≤ h0.size) (S2 : Sta Z h0 "jdk/internal/util/Preconditions" "SIOOBE_FORMATTER" "Ljava/util/function/BiFunction;" sfv) (hsf : sfv.isRef = true) (hi0 : ¬ p1 < 0) (hi1 : p1 < p2) :
  own_Met l y16_ jdk_42_method_155_code 2 none (R_ 1 0 0 14) #[(.int p1), (.int p2)] Z h0 (Q_rm33 Z a0 p1 p2 sfv h0 n0) := by
 refine own_bd (own := "java/lang/String") rfl (plainFor_of_name pn_33) #[iv p1, iv p2] ?_
 intro p e s m below meth c s₁ hx hby Hq hml hown hnm hlk hrt hZ X0 e0
 rcases ref_cases hsf with hE | ⟨sf, hE⟩
 ·have S2x : Sta Z h0 "jdk/internal/util/Preconditions" "SIOOBE_FORMATTER" "Ljava/util/function/BiFunction;" .null := hE ▸ S2
  refine o_iloadN X0 Hq d33_0 rfl (o_iloadN X0 Hq d33_1 rfl ?_)
  obtain ⟨T_1, X_1, e_1, st_1⟩ := getS2 X0 hx hZ hown (host := "") (Or.inl (w_ hw 173 rfl)) Via.refl e0 S2x (g := (mkF m 2 #[iv p1, iv p2] [(.int p2), (.int p1)])) rfl (hb hby d33_2)
  refine own_st st_1 ?_
  show own_Go _ _ _ _ (T_1.setTop (mkF m 5 #[iv p1, iv p2] [.null, (.int p2), (.int p1)]))
  refine c_S3 X_1 Hq e_1 hZ hown hml (k33_1059 hw) (rmpre1 hw p1 p2  h0 n0 Z0 hi0 hi1) d33_5 ?_ 0
  rintro T_2 L_2 _ X_2 ⟨⟨⟩, Nq_2, e_2⟩
  have N_2 := Fr.app (Fr.nil n0) Nq_2
  refine o_pop X_2 Hq d33_8 rfl ?_
  exact e_V X_2 e_2 Hq hlk hrt d33_9 ⟨rfl, N_2, rfl⟩
 ·have S2x : Sta Z h0 "jdk/internal/util/Preconditions" "SIOOBE_FORMATTER" "Ljava/util/function/BiFunction;" (.ref sf) := hE ▸ S2
  refine o_iloadN X0 Hq d33_0 rfl (o_iloadN X0 Hq d33_1 rfl ?_)
  obtain ⟨T_3, X_3, e_3, st_3⟩ := getS2 X0 hx hZ hown (host := "") (Or.inl (w_ hw 173 rfl)) Via.refl e0 S2x (g := (mkF m 2 #[iv p1, iv p2] [(.int p2), (.int p1)])) rfl (hb hby d33_2)
  refine own_st st_3 ?_
  show own_Go _ _ _ _ (T_3.setTop (mkF m 5 #[iv p1, iv p2] [(.ref sf), (.int p2), (.int p1)]))
  refine c_S3 X_3 Hq e_3 hZ hown hml (k33_1059 hw) (rmpre0 hw p1 p2 sf  h0 n0 Z0 hi0 hi1) d33_5 ?_ 0
  rintro T_4 L_4 _ X_4 ⟨⟨⟩, Nq_4, e_4⟩
  have N_4 := Fr.app (Fr.nil n0) Nq_4
  refine o_pop X_4 Hq d33_8 rfl ?_
  exact e_V X_4 e_4 Hq hlk hrt d33_9 ⟨rfl, N_4, rfl⟩
theorem pn_32 : plainName "java/lang/StringLatin1" = true := by first | (simp [plainName, overriddenIn]; done) | decide +kernel
abbrev D32 := decode jdk_43_method_2_code
theorem d32_0 : D32 0 = .ok (.iload_n 1, 1) := by decide +kernel
theorem d32_1 : D32 1 = .ok (.aload_n 0, 1) := by decide +kernel
theorem d32_2 : D32 2 = .ok (.arraylength, 1) := by decide +kernel
theorem d32_3 : D32 3 = .ok (.invokestatic 9, 3) := by decide +kernel
theorem pd_2 : parseMethodDescriptor "(II)V" = some ⟨[.int, .int], none⟩ := by decide +kernel
section Sm
variable {p : Program} {l : Launch} {e : Env} {R : Room} {s : State} {m : MethodId} {args : Array Value} {below : List Frame} {meth : Method} {c : Code} {T : State} {locs : List Loc} {cells slots : Nat} {P : Outcome → State → Prop} {pc : Nat} {Ls : Array Slot} {st : List Value}
theorem c_S2v (X : Stand p l e R s m args below meth c T locs cells slots) {cb : ByteArray} (hq : p.tables.exec = Jvm.exec ∧ c.code = cb) {Z : State} {a0 : Array Value} {h : Heap} {own C : String} {index : Nat} {y z : MethodName} {bytes : ByteArray} {maxL ML : Nat} {ret : Option FieldType} {rm : Room} {Q : Option Value → Heap → List Loc → Prop} {v1 v2 : Value}
  (eT : T.heap = h) (hZ : Z.Warmed39 s.vm) (hown : s.vm.findClass own = some m.cls) (hml : c.maxLocals = ML) (hK : own_KS a0 Z own C index y z bytes maxL ret 2) (hM : own_Met l y bytes maxL ret rm #[v1, v2] Z h Q)
  (hd : decode cb pc = .ok (.invokestatic index, 3)) 
  (k : ∀ (T' : State) (L : List Loc), Stand p l e R s m args below meth c T' (locs ++ L) (cells + rm.cells) (slots + rm.slots) → Q none T'.heap L → own_Go p.tables e below P (T'.setTop (mkF m (pc + 3) Ls st))) (W : Nat) (hsz : Ls.size = ML := by rfl) (hW : (st.map fun v => v.category).sum = W := by rfl) (sd : rm.frames + 1 ≤ R.frames ∧ W + (maxL + 11) + rm.locals ≤ R.locals ∧ cells + rm.cells ≤ R.cells ∧ slots + rm.slots ≤ R.slots := by decide) (hv : ∀ v h L, Q v h L → v = none := by intro v h L q; first | exact id q.1 | (obtain ⟨_, q⟩ := q; exact id q.1) | (obtain ⟨_, _, q⟩ := q; exact id q.1) | (obtain ⟨_, _, _, q⟩ := q; exact id q.1)) : own_Go p.tables e below P (T.setTop (mkF m pc Ls (v2 :: v1 :: st))) := by
 obtain ⟨⟨w1, ⟨ps, r, hp, hlen⟩, hy⟩, w2, w3, w4⟩ := hK
 obtain ⟨v, vm1, ⟨T', L0, k0, n0⟩, -, X', ⟨L, hQ, e1, e2, e3⟩, hst⟩ := Jvm.LawKit.callS X hq.1 (y := y) hown (mvT hZ w1) (mvT hZ w2) (mvT hZ w3) (mvT hZ w4) hy (backOf (W := W) (Q := Q) hM hZ w4 w3 sd.1 sd.2.1) (g := mkF m pc Ls (v2 :: v1 :: st)) rfl (by rw [hml]; exact hsz) (argsL := [v1, v2]) (rest := st) (lenOf hp hlen) rfl (by show 2 * 0 + _ ≤ _; rw [Nat.mul_zero, Nat.zero_add]; exact Nat.le_of_eq hW) (hb hq.2 hd) (fun _ _ => ⟨rfl, eT, sd.2.2.1, sd.2.2.2⟩)
 dsimp only [Pt.U, Pt.locs, Pt.cells, Pt.slots] at X' e1 e2 e3 hst hQ
 subst e1 e2 e3
 obtain rfl := hv _ _ _ hQ
 exact own_st hst (k _ _ X' hQ)
end Sm
theorem k32_9 {a0 : Array Value} {Z : State} (hw : HW a0 Z) : own_KS a0 Z "java/lang/StringLatin1" "" 9 y16_ y16_ jdk_42_method_155_code 2 none 2 := ⟨⟨(w_ hw 170 rfl), ⟨_, _, pd_2, rfl⟩, by decide⟩, (w_ hw 171 rfl), (w_ hw 20 rfl), (w_ hw 172 rfl)⟩
theorem d32_6 : D32 6 = .ok (.aload_n 0, 1) := by decide +kernel
theorem d32_7 : D32 7 = .ok (.iload_n 1, 1) := by decide +kernel
theorem d32_8 : D32 8 = .ok (.baload, 1) := by decide +kernel
theorem d32_9 : D32 9 = .ok (.sipush 255, 3) := by decide +kernel
theorem d32_12 : D32 12 = .ok (.iand, 1) := by decide +kernel
theorem d32_13 : D32 13 = .ok (.i2c, 1) := by decide +kernel
theorem d32_14 : D32 14 = .ok (.ireturn, 1) := by decide +kernel
section Sm
variable {p : Program} {l : Launch} {e : Env} {R : Room} {s : State} {m : MethodId} {args : Array Value} {below : List Frame} {meth : Method} {c : Code} {T : State} {locs : List Loc} {cells slots : Nat} {P : Outcome → State → Prop} {pc : Nat} {Ls : Array Slot} {st : List Value}
theorem e_C (X : Stand p l e R s m args below meth c T locs cells slots) {h : Heap} (eT : T.heap = h) {cb : ByteArray} (hq : p.tables.exec = Jvm.exec ∧ c.code = cb) (hlk : meth.locks = false) {z : Int32} {rest : List Value} (hrt : meth.sig.returnType = some .char) (hd : decode cb pc = .ok (.ireturn, 1)) {Q : Option Value → Heap → List Loc → Prop} (hQ : Q (some (.int (nar .char z))) h locs) (hcs : cells ≤ R.cells ∧ slots ≤ R.slots := by decide) :
  own_Go p.tables e below (own_P s Q R) (T.setTop (mkF m pc Ls (.int z :: rest))) := own_end X eT (v := (some (.int (nar .char z)))) (fun h => by rw [hrt] at h; cases h) hlk (fun fs hr => retN X hq.1 (z := z) (t := .char) hrt (by simp) (hb hq.2 hd) hr) (Q := Q) hQ hcs.1 hcs.2
end Sm
def Q_rm32 (Z : State) (a0 : Array Value) (a1 : Addr) (p2 : Int32) (k1 : ClassId) (N : Int32) (vs : List Value) (d1 sfv : Value) (x y : Int32) (h0 : Heap) (n0 : Nat) (v : Option Value) (h : Heap) (L : List Loc) : Prop := v = some (.int y) ∧ Fr n0 L ∧ h = h0
theorem rm32 (hw : HW a0 Z) (a1 : Addr) (p2 : Int32) (k1 : ClassId) (N : Int32) (vs : List Value) (d1 sfv : Value) (x y : Int32) (h0 : Heap) (n0 : Nat) (Z0 : n0 ≤ h0.size) (V1 : Arv Z h0 a1 k1 .byte N vs d1) (hi0 : ¬ p2 < 0) (hi1 : p2 < N) (hx1 : vs.getD p2.toNatClampNeg d1 = .int x) (hy1 : nar .char ((x &&& (255 : Int32)).toUInt32.toUInt16.toUInt32.toInt32) = y) (S2 : Sta Z h0 "jdk/internal/util/Preconditions" "SIOOBE_FORMATTER" "Ljava/util/function/BiFunction;" sfv) (hsf : sfv.isRef = true) :
  own_Met l y17_ jdk_43_method_2_code 2 (some .char) (R_ 2 0 0 27) #[(.ref a1), (.int p2)] Z h0 (Q_rm32 Z a0 a1 p2 k1 N vs d1 sfv x y h0 n0) := by
 refine own_bd (own := "java/lang/StringLatin1") rfl (plainFor_of_name pn_32) #[rv a1, iv p2] ?_
 intro p e s m below meth c s₁ hx hby Hq hml hown hnm hlk hrt hZ X0 e0
 refine o_iloadN X0 Hq d32_0 rfl (o_aloadN X0 Hq d32_1 rfl rfl ?_)
 obtain ⟨cl_1, Ar_1, qk_1, Sz_1, Ng_1, Hs_1, Gs_1⟩ := id V1
 refine own_st (X0.arraylength hx (by rw [e0]; exact Ar_1.1) (State.isArrayOf_alike hZ.alike Ar_1.2.1) (g := (mkF m 2 #[rv a1, iv p2] [(.ref a1), (.int p2)])) rfl rfl (hb hby d32_2)) ?_
 rw [len_of Sz_1 Ng_1]
 show own_Go _ _ _ _ (s₁.setTop (mkF m 3 #[rv a1, iv p2] [(.int N), (.int p2)]))
 refine c_S2v X0 Hq e0 hZ hown hml (k32_9 hw) (rm33 hw p2 N sfv h0 n0 Z0 S2 hsf hi0 hi1) d32_3 ?_ 0
 rintro T_2 L_2 X_2 ⟨-, Nq_2, e_2⟩
 have N_2 := Fr.app (Fr.nil n0) Nq_2
 refine o_aloadN X_2 Hq d32_6 rfl rfl (o_iloadN X_2 Hq d32_7 rfl ?_)
 obtain ⟨cl_3, Ar_3, qk_3, Sz_3, Ng_3, Hs_3, Gs_3⟩ := id V1
 refine own_st (X_2.baloadBytes hx (j := p2) (v := (.int x)) (by rw [e_2]; exact Ar_3.1) (State.isArrayOf_alike hZ.alike Ar_3.2.1) Ar_3.2.2 (inb_of Sz_3 ⟨hi0, hi1⟩) (Hs_3.at (j := p2) (inb_of Sz_3 ⟨hi0, hi1⟩) hx1) (g := (mkF m 8 #[rv a1, iv p2] [(.int p2), (.ref a1)])) rfl rfl (hb hby d32_8)) ?_
 show own_Go _ _ _ _ (T_2.setTop (mkF m 9 #[rv a1, iv p2] [(.int x)]))
 refine o_sipush X_2 Hq 255 d32_9 rfl (o_iand X_2 Hq d32_12 (o_i2c X_2 Hq d32_13 ?_))
 exact e_C X_2 e_2 Hq hlk hrt d32_14 ⟨(congrArg (fun z => some (Value.int z)) hy1), N_2, rfl⟩
abbrev D31 := decode jdk_42_method_154_code
theorem d31_0 : D31 0 = .ok (.getstatic 38, 3) := by decide +kernel
theorem d31_3 : D31 3 = .ok (.ifCond .eq 14, 3) := by decide +kernel
theorem d31_6 : D31 6 = .ok (.aload_n 0, 1) := by decide +kernel
theorem d31_7 : D31 7 = .ok (.getfield 15, 3) := by decide +kernel
theorem d31_10 : D31 10 = .ok (.ifCond .ne 7, 3) := by decide +kernel
theorem d31_13 : D31 13 = .ok (.iconst 1, 1) := by decide +kernel
theorem d31_14 : D31 14 = .ok (.goto 4, 3) := by decide +kernel
theorem d31_18 : D31 18 = .ok (.ireturn, 1) := by decide +kernel
section Sm
variable {p : Program} {l : Launch} {e : Env} {R : Room} {s : State} {m : MethodId} {args : Array Value} {below : List Frame} {meth : Method} {c : Code} {T : State} {locs : List Loc} {cells slots : Nat} {P : Outcome → State → Prop} {pc : Nat} {Ls : Array Slot} {st : List Value}
theorem e_Z (X : Stand p l e R s m args below meth c T locs cells slots) {h : Heap} (eT : T.heap = h) {cb : ByteArray} (hq : p.tables.exec = Jvm.exec ∧ c.code = cb) (hlk : meth.locks = false) {z : Int32} {rest : List Value} (hrt : meth.sig.returnType = some .boolean) (hd : decode cb pc = .ok (.ireturn, 1)) {Q : Option Value → Heap → List Loc → Prop} (hQ : Q (some (.int (nar .boolean z))) h locs) (hcs : cells ≤ R.cells ∧ slots ≤ R.slots := by decide) :
  own_Go p.tables e below (own_P s Q R) (T.setTop (mkF m pc Ls (.int z :: rest))) := own_end X eT (v := (some (.int (nar .boolean z)))) (fun h => by rw [hrt] at h; cases h) hlk (fun fs hr => retN X hq.1 (z := z) (t := .boolean) hrt (by simp) (hb hq.2 hd) hr) (Q := Q) hQ hcs.1 hcs.2
end Sm
def Q_rm31 (Z : State) (a0 : Array Value) (a1 : Addr) (w : Int32) (h0 : Heap) (n0 : Nat) (v : Option Value) (h : Heap) (L : List Loc) : Prop := v = some (.int (1 : Int32)) ∧ Fr n0 L ∧ h = h0
theorem rm31 (hw : HW a0 Z) (a1 : Addr) (w : Int32) (h0 : Heap) (n0 : Nat) (Z0 : n0 ≤ h0.size) (F2 : Fld Z h0 a1 "java/lang/String" "coder" "B" (.int (0 : Int32))) (S1 : Sta Z h0 "java/lang/String" "COMPACT_STRINGS" "Z" (.int w)) (hw0 : ¬ w = (0 : Int32)) :
  own_Met l y18_ jdk_42_method_154_code 1 (some .boolean) (R_ 0 0 0 0) #[(.ref a1)] Z h0 (Q_rm31 Z a0 a1 w h0 n0) := by
 refine own_bd (own := "java/lang/String") rfl (plainFor_of_name pn_33) #[rv a1] ?_
 intro p e s m below meth c s₁ hx hby Hq hml hown hnm hlk hrt hZ X0 e0
 obtain ⟨T_1, X_1, e_1, st_1⟩ := getS2 X0 hx hZ hown (host := "") (Or.inl (w_ hw 82 rfl)) Via.refl e0 S1 (g := (mkF m 0 #[rv a1] [])) rfl (hb hby d31_0)
 refine own_st st_1 ?_
 show own_Go _ _ _ _ (T_1.setTop (mkF m 3 #[rv a1] [(.int w)]))
 refine o_ifNo X_1 Hq d31_3 (feq hw0).1 (o_aloadN X_1 Hq d31_6 rfl rfl ?_)
 obtain ⟨T_2, X_2, e_2, st_2⟩ := getF X_1 hx hZ hown (host := "") (Or.inl (w_ hw 83 rfl)) Via.refl e_1 F2 (g := (mkF m 7 #[rv a1] [(.ref a1)])) rfl rfl (hb hby d31_7)
 refine own_st st_2 ?_
 show own_Go _ _ _ _ (T_2.setTop (mkF m 10 #[rv a1] [(.int 0)]))
 refine o_ifNo X_2 Hq d31_10 (by decide) (o_iconst X_2 Hq 1 d31_13 rfl (o_goto X_2 Hq (pc' := 18) d31_14 ?_))
 exact e_Z X_2 e_2 Hq hlk hrt d31_18 ⟨rfl, (Fr.nil n0), rfl⟩
abbrev D14 := decode jdk_42_method_152_code
theorem d14_0 : D14 0 = .ok (.getstatic 38, 3) := by decide +kernel
theorem d14_3 : D14 3 = .ok (.ifCond .eq 10, 3) := by decide +kernel
theorem d14_6 : D14 6 = .ok (.aload_n 0, 1) := by decide +kernel
theorem d14_7 : D14 7 = .ok (.getfield 15, 3) := by decide +kernel
theorem d14_10 : D14 10 = .ok (.goto 4, 3) := by decide +kernel
theorem d14_14 : D14 14 = .ok (.ireturn, 1) := by decide +kernel
section Sm
variable {p : Program} {l : Launch} {e : Env} {R : Room} {s : State} {m : MethodId} {args : Array Value} {below : List Frame} {meth : Method} {c : Code} {T : State} {locs : List Loc} {cells slots : Nat} {P : Outcome → State → Prop} {pc : Nat} {Ls : Array Slot} {st : List Value}
theorem e_B (X : Stand p l e R s m args below meth c T locs cells slots) {h : Heap} (eT : T.heap = h) {cb : ByteArray} (hq : p.tables.exec = Jvm.exec ∧ c.code = cb) (hlk : meth.locks = false) {z : Int32} {rest : List Value} (hrt : meth.sig.returnType = some .byte) (hd : decode cb pc = .ok (.ireturn, 1)) {Q : Option Value → Heap → List Loc → Prop} (hQ : Q (some (.int (nar .byte z))) h locs) (hcs : cells ≤ R.cells ∧ slots ≤ R.slots := by decide) :
  own_Go p.tables e below (own_P s Q R) (T.setTop (mkF m pc Ls (.int z :: rest))) := own_end X eT (v := (some (.int (nar .byte z)))) (fun h => by rw [hrt] at h; cases h) hlk (fun fs hr => retN X hq.1 (z := z) (t := .byte) hrt (by simp) (hb hq.2 hd) hr) (Q := Q) hQ hcs.1 hcs.2
end Sm
def Q_rm14 (Z : State) (a0 : Array Value) (a1 : Addr) (w : Int32) (h0 : Heap) (n0 : Nat) (v : Option Value) (h : Heap) (L : List Loc) : Prop := v = some (.int (0 : Int32)) ∧ Fr n0 L ∧ h = h0
theorem rm14 (hw : HW a0 Z) (a1 : Addr) (w : Int32) (h0 : Heap) (n0 : Nat) (Z0 : n0 ≤ h0.size) (F2 : Fld Z h0 a1 "java/lang/String" "coder" "B" (.int (0 : Int32))) (S1 : Sta Z h0 "java/lang/String" "COMPACT_STRINGS" "Z" (.int w)) (hw0 : ¬ w = (0 : Int32)) :
  own_Met l y2_ jdk_42_method_152_code 1 (some .byte) (R_ 0 0 0 0) #[(.ref a1)] Z h0 (Q_rm14 Z a0 a1 w h0 n0) := by
 refine own_bd (own := "java/lang/String") rfl (plainFor_of_name pn_33) #[rv a1] ?_
 intro p e s m below meth c s₁ hx hby Hq hml hown hnm hlk hrt hZ X0 e0
 obtain ⟨T_1, X_1, e_1, st_1⟩ := getS2 X0 hx hZ hown (host := "") (Or.inl (w_ hw 82 rfl)) Via.refl e0 S1 (g := (mkF m 0 #[rv a1] [])) rfl (hb hby d14_0)
 refine own_st st_1 ?_
 show own_Go _ _ _ _ (T_1.setTop (mkF m 3 #[rv a1] [(.int w)]))
 refine o_ifNo X_1 Hq d14_3 (feq hw0).1 (o_aloadN X_1 Hq d14_6 rfl rfl ?_)
 obtain ⟨T_2, X_2, e_2, st_2⟩ := getF X_1 hx hZ hown (host := "") (Or.inl (w_ hw 83 rfl)) Via.refl e_1 F2 (g := (mkF m 7 #[rv a1] [(.ref a1)])) rfl rfl (hb hby d14_7)
 refine own_st st_2 ?_
 show own_Go _ _ _ _ (T_2.setTop (mkF m 10 #[rv a1] [(.int 0)]))
 refine o_goto X_2 Hq (pc' := 14) d14_10 ?_
 exact e_B X_2 e_2 Hq hlk hrt d14_14 ⟨rfl, (Fr.nil n0), rfl⟩
abbrev D13 := decode jdk_42_method_54_code
theorem d13_0 : D13 0 = .ok (.aload_n 0, 1) := by decide +kernel
theorem d13_1 : D13 1 = .ok (.getfield 9, 3) := by decide +kernel
theorem d13_4 : D13 4 = .ok (.arraylength, 1) := by decide +kernel
theorem d13_5 : D13 5 = .ok (.aload_n 0, 1) := by decide +kernel
theorem d13_6 : D13 6 = .ok (.invokevirtual 335, 3) := by decide +kernel
theorem pd_3 : parseMethodDescriptor "()B" = some ⟨[], some .byte⟩ := by decide +kernel
def own_KU (a0 : Array Value) (Z : State) (own C : String) (index : Nat) (y z : MethodName) (bytes : ByteArray) (maxL : Nat) (ret : Option FieldType) (k : Nat) : Prop := ((Jvm.Cond.methodLink own index y).before a0 Z = true ∧ (∃ ps r, parseMethodDescriptor y.desc = some ⟨ps, r⟩ ∧ k = ps.length) ∧ (y.cls ≠ "java/lang/invoke/MethodHandle" ∧ y.cls ≠ "java/lang/invoke/VarHandle")) ∧ (Jvm.Cond.declares y).before a0 Z = true ∧ (Jvm.Cond.selects C y y).before a0 Z = true ∧ (Jvm.Cond.instanceMethod y).before a0 Z = true ∧ (Jvm.Cond.initialized y.cls).before a0 Z = true ∧ (Jvm.Cond.code y bytes maxL ret).before a0 Z = true
section Sm
variable {p : Program} {l : Launch} {e : Env} {R : Room} {s : State} {m : MethodId} {args : Array Value} {below : List Frame} {meth : Method} {c : Code} {T : State} {locs : List Loc} {cells slots : Nat} {P : Outcome → State → Prop} {pc : Nat} {Ls : Array Slot} {st : List Value}
theorem c_U0 (X : Stand p l e R s m args below meth c T locs cells slots) {cb : ByteArray} (hq : p.tables.exec = Jvm.exec ∧ c.code = cb) {Z : State} {a0 : Array Value} {h : Heap} {own C : String} {index : Nat} {y z : MethodName} {bytes : ByteArray} {maxL ML : Nat} {ret : Option FieldType} {rm : Room} {Q : Option Value → Heap → List Loc → Prop} {a : Addr}
  (eT : T.heap = h) (hZ : Z.Warmed39 s.vm) (hown : s.vm.findClass own = some m.cls) (hml : c.maxLocals = ML) (hK : own_KU a0 Z own C index y z bytes maxL ret 0) (hM : own_Met l y bytes maxL ret rm #[(.ref a)] Z h Q) (E : Exa Z h a C)
  (hd : decode cb pc = .ok (.invokevirtual index, 3)) 
  (k : ∀ (T' : State) (L : List Loc) (w : Value), Stand p l e R s m args below meth c T' (locs ++ L) (cells + rm.cells) (slots + rm.slots) → Q (some w) T'.heap L → own_Go p.tables e below P (T'.setTop (mkF m (pc + 3) Ls (w :: st)))) (W : Nat) (hsz : Ls.size = ML := by rfl) (hW : (st.map fun v => v.category).sum = W := by rfl) (sd : rm.frames + 1 ≤ R.frames ∧ W + (maxL + 11) + rm.locals ≤ R.locals ∧ cells + rm.cells ≤ R.cells ∧ slots + rm.slots ≤ R.slots := by decide) (hv : ∀ v h L, Q v h L → ∃ w, v = some w := by intro v h L q; first | exact Exists.intro _ q.1 | (obtain ⟨_, q⟩ := q; exact Exists.intro _ q.1) | (obtain ⟨_, _, q⟩ := q; exact Exists.intro _ q.1) | (obtain ⟨_, _, _, q⟩ := q; exact Exists.intro _ q.1)) : own_Go p.tables e below P (T.setTop (mkF m pc Ls ((.ref a) :: st))) := by
 obtain ⟨⟨w1, ⟨ps, r, hp, hlen⟩, hy⟩, w2, w5, w6, w3, w4⟩ := hK
 obtain ⟨cB, kB, q1, -, q3⟩ := isOf hZ eT E
 have nf : NotFace s y := notFace_of_selects (args := #[]) (mvT hZ w5)
 obtain ⟨v, vm1, ⟨T', L0, k0, n0⟩, -, X', ⟨L, hQ, e1, e2, e3⟩, hst⟩ := X.virtualBack hq.1 (y := y) (z := y) hown (mvT hZ w1) (mvT hZ w2) nf (mvT hZ w5) (mvT hZ w6) hy (backOf (W := W) (Q := Q) hM hZ w4 w3 sd.1 sd.2.1) q1 q3 (g := mkF m pc Ls ((.ref a) :: st)) rfl (by rw [hml]; exact hsz) (Steps.refl _) (argsL := []) (rest := st) (lenOf hp hlen) rfl (by show 2 * 0 + _ ≤ _; rw [Nat.mul_zero, Nat.zero_add]; exact Nat.le_of_eq hW) (hb hq.2 hd) (fun _ _ => ⟨rfl, eT, sd.2.2.1, sd.2.2.2⟩)
 dsimp only [Pt.U, Pt.locs, Pt.cells, Pt.slots] at X' e1 e2 e3 hst hQ
 subst e1 e2 e3
 obtain ⟨w, rfl⟩ := hv _ _ _ hQ
 exact own_tr hst (k _ _ _ X' hQ)
end Sm
theorem k13_335U1 {a0 : Array Value} {Z : State} (hw : HW a0 Z) : own_KU a0 Z "java/lang/String" "java/lang/String" 335 y2_ y2_ jdk_42_method_152_code 1 (some .byte) 0 := ⟨⟨(w_ hw 77 rfl), ⟨_, _, pd_3, rfl⟩, by decide⟩, (w_ hw 78 rfl), (w_ hw 80 rfl), (w_ hw 79 rfl), (w_ hw 20 rfl), (w_ hw 81 rfl)⟩
theorem d13_9 : D13 9 = .ok (.ishr, 1) := by decide +kernel
theorem d13_10 : D13 10 = .ok (.ireturn, 1) := by decide +kernel
def Q_rmlenN (Z : State) (a0 : Array Value) (a1 b : Addr) (k1 : ClassId) (N : Int32) (vs : List Value) (d1 : Value) (w : Int32) (h0 : Heap) (n0 : Nat) (v : Option Value) (h : Heap) (L : List Loc) : Prop := v = some (.int N) ∧ Fr n0 L ∧ h = h0
theorem rmlenN (hw : HW a0 Z) (a1 b : Addr) (k1 : ClassId) (N : Int32) (vs : List Value) (d1 : Value) (w : Int32) (h0 : Heap) (n0 : Nat) (Z0 : n0 ≤ h0.size) (E_s : Exa Z h0 a1 "java/lang/String") (F_v : Fld Z h0 a1 "java/lang/String" "value" "[B" (.ref b)) (F_c : Fld Z h0 a1 "java/lang/String" "coder" "B" (.int (0 : Int32))) (V_s : Arv Z h0 b k1 .byte N vs d1) (S1 : Sta Z h0 "java/lang/String" "COMPACT_STRINGS" "Z" (.int w)) (hw0 : ¬ w = (0 : Int32)) :
  own_Met l y5_ jdk_42_method_54_code 1 (some .int) (R_ 1 0 0 13) #[(.ref a1)] Z h0 (Q_rmlenN Z a0 a1 b k1 N vs d1 w h0 n0) := by
 refine own_bd (own := "java/lang/String") rfl (plainFor_of_name pn_33) #[rv a1] ?_
 intro p e s m below meth c s₁ hx hby Hq hml hown hnm hlk hrt hZ X0 e0
 refine o_aloadN X0 Hq d13_0 rfl rfl ?_
 obtain ⟨T_1, X_1, e_1, st_1⟩ := getF X0 hx hZ hown (host := "") (Or.inl (w_ hw 76 rfl)) Via.refl e0 F_v (g := (mkF m 1 #[rv a1] [(.ref a1)])) rfl rfl (hb hby d13_1)
 refine own_st st_1 ?_
 show own_Go _ _ _ _ (T_1.setTop (mkF m 4 #[rv a1] [(.ref b)]))
 obtain ⟨cl_2, Ar_2, qk_2, Sz_2, Ng_2, Hs_2, Gs_2⟩ := id V_s
 refine own_st (X_1.arraylength hx (by rw [e_1]; exact Ar_2.1) (State.isArrayOf_alike hZ.alike Ar_2.2.1) (g := (mkF m 4 #[rv a1] [(.ref b)])) rfl rfl (hb hby d13_4)) ?_
 rw [len_of Sz_2 Ng_2]
 show own_Go _ _ _ _ (T_1.setTop (mkF m 5 #[rv a1] [(.int N)]))
 refine o_aloadN X_1 Hq d13_5 rfl rfl ?_
 refine c_U0 X_1 Hq e_1 hZ hown hml (k13_335U1 hw) (rm14 hw a1 w h0 n0 Z0 F_c S1 hw0) E_s d13_6 ?_ 1
 rintro T_3 L_3 _ X_3 ⟨⟨⟩, Nq_3, e_3⟩
 have N_3 := Fr.app (Fr.nil n0) Nq_3
 refine o_ishr X_3 Hq d13_9 ?_
 exact e_I X_3 e_3 Hq hlk hrt d13_10 ⟨(congrArg (fun z => some (Value.int z)) (own_shr0 N)), N_3, rfl⟩
abbrev D30 := decode jdk_42_method_56_code
theorem d30_0 : D30 0 = .ok (.aload_n 0, 1) := by decide +kernel
theorem d30_1 : D30 1 = .ok (.invokevirtual 492, 3) := by decide +kernel
theorem pd_4 : parseMethodDescriptor "()Z" = some ⟨[], some .boolean⟩ := by decide +kernel
theorem k30_492U1 {a0 : Array Value} {Z : State} (hw : HW a0 Z) : own_KU a0 Z "java/lang/String" "java/lang/String" 492 y18_ y18_ jdk_42_method_154_code 1 (some .boolean) 0 := ⟨⟨(w_ hw 161 rfl), ⟨_, _, pd_4, rfl⟩, by decide⟩, (w_ hw 162 rfl), (w_ hw 164 rfl), (w_ hw 163 rfl), (w_ hw 20 rfl), (w_ hw 165 rfl)⟩
theorem d30_4 : D30 4 = .ok (.ifCond .eq 12, 3) := by decide +kernel
theorem d30_7 : D30 7 = .ok (.aload_n 0, 1) := by decide +kernel
theorem d30_8 : D30 8 = .ok (.getfield 9, 3) := by decide +kernel
theorem d30_11 : D30 11 = .ok (.iload_n 1, 1) := by decide +kernel
theorem d30_12 : D30 12 = .ok (.invokestatic 495, 3) := by decide +kernel
theorem pd_5 : parseMethodDescriptor "([BI)C" = some ⟨[(.array .byte), .int], some .char⟩ := by decide +kernel
section Sm
variable {p : Program} {l : Launch} {e : Env} {R : Room} {s : State} {m : MethodId} {args : Array Value} {below : List Frame} {meth : Method} {c : Code} {T : State} {locs : List Loc} {cells slots : Nat} {P : Outcome → State → Prop} {pc : Nat} {Ls : Array Slot} {st : List Value}
theorem c_S2 (X : Stand p l e R s m args below meth c T locs cells slots) {cb : ByteArray} (hq : p.tables.exec = Jvm.exec ∧ c.code = cb) {Z : State} {a0 : Array Value} {h : Heap} {own C : String} {index : Nat} {y z : MethodName} {bytes : ByteArray} {maxL ML : Nat} {ret : Option FieldType} {rm : Room} {Q : Option Value → Heap → List Loc → Prop} {v1 v2 : Value}
  (eT : T.heap = h) (hZ : Z.Warmed39 s.vm) (hown : s.vm.findClass own = some m.cls) (hml : c.maxLocals = ML) (hK : own_KS a0 Z own C index y z bytes maxL ret 2) (hM : own_Met l y bytes maxL ret rm #[v1, v2] Z h Q)
  (hd : decode cb pc = .ok (.invokestatic index, 3)) 
  (k : ∀ (T' : State) (L : List Loc) (w : Value), Stand p l e R s m args below meth c T' (locs ++ L) (cells + rm.cells) (slots + rm.slots) → Q (some w) T'.heap L → own_Go p.tables e below P (T'.setTop (mkF m (pc + 3) Ls (w :: st)))) (W : Nat) (hsz : Ls.size = ML := by rfl) (hW : (st.map fun v => v.category).sum = W := by rfl) (sd : rm.frames + 1 ≤ R.frames ∧ W + (maxL + 11) + rm.locals ≤ R.locals ∧ cells + rm.cells ≤ R.cells ∧ slots + rm.slots ≤ R.slots := by decide) (hv : ∀ v h L, Q v h L → ∃ w, v = some w := by intro v h L q; first | exact Exists.intro _ q.1 | (obtain ⟨_, q⟩ := q; exact Exists.intro _ q.1) | (obtain ⟨_, _, q⟩ := q; exact Exists.intro _ q.1) | (obtain ⟨_, _, _, q⟩ := q; exact Exists.intro _ q.1)) : own_Go p.tables e below P (T.setTop (mkF m pc Ls (v2 :: v1 :: st))) := by
 obtain ⟨⟨w1, ⟨ps, r, hp, hlen⟩, hy⟩, w2, w3, w4⟩ := hK
 obtain ⟨v, vm1, ⟨T', L0, k0, n0⟩, -, X', ⟨L, hQ, e1, e2, e3⟩, hst⟩ := Jvm.LawKit.callS X hq.1 (y := y) hown (mvT hZ w1) (mvT hZ w2) (mvT hZ w3) (mvT hZ w4) hy (backOf (W := W) (Q := Q) hM hZ w4 w3 sd.1 sd.2.1) (g := mkF m pc Ls (v2 :: v1 :: st)) rfl (by rw [hml]; exact hsz) (argsL := [v1, v2]) (rest := st) (lenOf hp hlen) rfl (by show 2 * 0 + _ ≤ _; rw [Nat.mul_zero, Nat.zero_add]; exact Nat.le_of_eq hW) (hb hq.2 hd) (fun _ _ => ⟨rfl, eT, sd.2.2.1, sd.2.2.2⟩)
 dsimp only [Pt.U, Pt.locs, Pt.cells, Pt.slots] at X' e1 e2 e3 hst hQ
 subst e1 e2 e3
 obtain ⟨w, rfl⟩ := hv _ _ _ hQ
 exact own_st hst (k _ _ _ X' hQ)
end Sm
theorem k30_495 {a0 : Array Value} {Z : State} (hw : HW a0 Z) : own_KS a0 Z "java/lang/String" "" 495 y17_ y17_ jdk_43_method_2_code 2 (some .char) 2 := ⟨⟨(w_ hw 166 rfl), ⟨_, _, pd_5, rfl⟩, by decide⟩, (w_ hw 167 rfl), (w_ hw 168 rfl), (w_ hw 169 rfl)⟩
theorem d30_15 : D30 15 = .ok (.ireturn, 1) := by decide +kernel
def Q_rm30 (Z : State) (a0 : Array Value) (a1 : Addr) (p2 : Int32) (b : Addr) (k1 : ClassId) (N : Int32) (vs : List Value) (d1 : Value) (w : Int32) (sfv : Value) (f : Int32 → Int32) (h0 : Heap) (n0 : Nat) (v : Option Value) (h : Heap) (L : List Loc) : Prop := v = some (.int (f p2)) ∧ Fr n0 L ∧ h = h0
theorem rm30 (hw : HW a0 Z) (a1 : Addr) (p2 : Int32) (b : Addr) (k1 : ClassId) (N : Int32) (vs : List Value) (d1 : Value) (w : Int32) (sfv : Value) (f : Int32 → Int32) (h0 : Heap) (n0 : Nat) (Z0 : n0 ≤ h0.size) (E_s : Exa Z h0 a1 "java/lang/String") (F_v : Fld Z h0 a1 "java/lang/String" "value" "[B" (.ref b)) (F_c : Fld Z h0 a1 "java/lang/String" "coder" "B" (.int (0 : Int32))) (V_s : Arv Z h0 b k1 .byte N vs d1) (S1 : Sta Z h0 "java/lang/String" "COMPACT_STRINGS" "Z" (.int w)) (hw0 : ¬ w = (0 : Int32)) (hat : ∀ i : Int32, ¬ i < 0 → i < N → vs.getD i.toNatClampNeg d1 = .int (((f i).toInt8.toInt32).toInt8.toInt32)) (hf : ∀ i : Int32, ¬ (255 : Int32) < f i ∧ ¬ f i < 0) (S2 : Sta Z h0 "jdk/internal/util/Preconditions" "SIOOBE_FORMATTER" "Ljava/util/function/BiFunction;" sfv) (hsf : sfv.isRef = true) (hi0 : ¬ p2 < 0) (hi1 : p2 < N) :
  own_Met l y6_ jdk_42_method_56_code 2 (some .char) (R_ 3 0 0 40) #[(.ref a1), (.int p2)] Z h0 (Q_rm30 Z a0 a1 p2 b k1 N vs d1 w sfv f h0 n0) := by
 refine own_bd (own := "java/lang/String") rfl (plainFor_of_name pn_33) #[rv a1, iv p2] ?_
 intro p e s m below meth c s₁ hx hby Hq hml hown hnm hlk hrt hZ X0 e0
 refine o_aloadN X0 Hq d30_0 rfl rfl ?_
 refine c_U0 X0 Hq e0 hZ hown hml (k30_492U1 hw) (rm31 hw a1 w h0 n0 Z0 F_c S1 hw0) E_s d30_1 ?_ 0
 rintro T_1 L_1 _ X_1 ⟨⟨⟩, Nq_1, e_1⟩
 have N_1 := Fr.app (Fr.nil n0) Nq_1
 refine o_ifNo X_1 Hq d30_4 (by decide) (o_aloadN X_1 Hq d30_7 rfl rfl ?_)
 obtain ⟨T_2, X_2, e_2, st_2⟩ := getF X_1 hx hZ hown (host := "") (Or.inl (w_ hw 76 rfl)) Via.refl e_1 F_v (g := (mkF m 8 #[rv a1, iv p2] [(.ref a1)])) rfl rfl (hb hby d30_8)
 refine own_st st_2 ?_
 show own_Go _ _ _ _ (T_2.setTop (mkF m 11 #[rv a1, iv p2] [(.ref b)]))
 refine o_iloadN X_2 Hq d30_11 rfl ?_
 refine c_S2 X_2 Hq e_2 hZ hown hml (k30_495 hw) (rm32 hw b p2 k1 N vs d1 sfv (((f p2).toInt8.toInt32).toInt8.toInt32) (f p2) h0 n0 Z0 V_s hi0 hi1 (hat p2 hi0 hi1) (own_back (hf p2).1 (hf p2).2) S2 hsf) d30_12 ?_ 0
 rintro T_3 L_3 _ X_3 ⟨⟨⟩, Nq_3, e_3⟩
 have N_3 := Fr.app N_1 Nq_3
 exact e_C X_3 e_3 Hq hlk hrt d30_15 ⟨(congrArg (fun z => some (Value.int z)) (own_nc (hf p2).1 (hf p2).2)), N_3, rfl⟩
theorem own_safe_null {Z : State} {EL : List (String × Nat)} {vm : Vm} {h : Heap} {x : Addr} (hal : Z.vm.Alike vm) (E : Exa Z h x "java/lang/String") (F : Fld Z h x "java/lang/String" "value" "[B" .null) (wi : ∃ a0 n, (Cond.instantiable "java/lang/String" n).before a0 Z = true) : Safe Z EL vm h x := fun B => by
 obtain ⟨cell, cf, k, i, f, h1, h2, h3, h4, h5, h6, h7⟩ := F
 obtain ⟨cell', kE, e1, e2, e3, e4, -⟩ := E
 cases h1.symm.trans e1
 obtain ⟨p, -, u, a, -, q, -, G, rfl | rfl⟩ := B
 ·obtain ⟨cS, ⟨⟨g1, -, -, ⟨c1, k1, i1, f1, -⟩, -, -, -, v1, -⟩, -⟩, -⟩ := G
  cases (show h[q.sa]? = some q.sC from g1).symm.trans h1
  obtain ⟨k3, e5, -⟩ := State.fieldFound?_setVm (s := Z) hal h2
  have e6 := (show (Wst Z vm h).fieldFound? "java/lang/String" "value" "[B" = _ from e5).symm.trans f1
  simp only [Option.some.injEq, Prod.mk.injEq] at e6
  rw [← e6.2.2.2, h7] at v1
  simp at v1
 ·obtain ⟨cS, ⟨⟨-, -, -, -, -, -, -, -, -, g10, ⟨-, kA, hkA, compA, hkindA⟩, -⟩, -⟩, -⟩ := G
  cases (show h[q.sd]? = some q.SA from g10).symm.trans h1
  obtain ⟨a0, n, wi⟩ := wi
  obtain ⟨cI, kI, i1, i2, i3, -⟩ := Cond.instantiable_spec wi
  cases e2.symm.trans i1
  obtain ⟨k', q1, q2⟩ := hal.2.2 _ _ i2
  cases (show vm.classes[q.SA.cls]? = some kA from hkA).symm.trans q1
  rw [q2] at hkindA
  exact absurd (hkindA.symm.trans i3) (by simp)
theorem own_endC {p : Program} {l : Launch} {e : Env} {R : Room} {s : State} {m : MethodId} {args : Array Value} {below : List Frame} {meth : Method} {c : Code} {T : State} {locs : List Loc} {cells slots : Nat} {vm₁ : Vm} (X : Stand p l e R (s.setVm vm₁) m args below meth c T locs cells slots) {n : Nat} (hS : s.Since vm₁ n) {h : Heap} (eT : T.heap = h) (hn : n ≤ h.size) {v : Option Value} (hv : meth.sig.returnType = none → v = none) (hlk : meth.locks = false) {g : JFrame}
  (hst : ∀ fs, (∀ (f : JFrame) (acts : List Action), f.method = m → f.locked = none → f.entered = [] → (doReturn e (T.setTop f) acts v).1 = T.setFrames fs) → Steps p.tables e below (T.setTop g) (T.setFrames fs))
  {Z : State} {a0 : Array Value} {EL : List (String × Nat)} (hZ : Z.Warmed39 vm₁) (hEL : EW Z a0 EL) (Cr : CHr Z EL s.vm s.heap vm₁ h)
  {Q : Option Value → Heap → List Loc → Prop} (hQ : Q v h locs) {cc ss : Nat} (hc : cells ≤ cc) (hs : slots ≤ ss) :
  own_Go p.tables e below (fun o U' => ∃ v L, o = .returned v ∧ Q v U'.heap L ∧ CHr Z EL s.vm s.heap U'.vm U'.heap ∧ ReturnedEndW s o U' L cc ss) (T.setTop g) := by
 subst eT
 obtain ⟨fs, hr, hrun, hended, hq⟩ := X.leaveW hS hn (v := v) hv hlk
 have Ct : CHr Z EL s.vm s.heap T.vm T.heap := Cr.trans (CHv.at X hZ hEL Cr.1)
 exact ⟨_, _, hst fs hr, hrun, hended, _, _, rfl, hQ, (show CHr Z EL s.vm s.heap (T.setFrames fs).vm (T.setFrames fs).heap from Ct), hq.1, hq.2.1, hq.2.2.1, hq.2.2.2.mono hc hs⟩
theorem own_endW {p : Program} {l : Launch} {e : Env} {R : Room} {s : State} {m : MethodId} {args : Array Value} {below : List Frame} {meth : Method} {c : Code} {T : State} {locs : List Loc} {cells slots : Nat} {vm₁ : Vm} (X : Stand p l e R (s.setVm vm₁) m args below meth c T locs cells slots) {n : Nat} (hS : s.Since vm₁ n) {h : Heap} (eT : T.heap = h) (hn : n ≤ h.size) {v : Option Value} (hv : meth.sig.returnType = none → v = none) (hlk : meth.locks = false) {g : JFrame}
  (hst : ∀ fs, (∀ (f : JFrame) (acts : List Action), f.method = m → f.locked = none → f.entered = [] → (doReturn e (T.setTop f) acts v).1 = T.setFrames fs) → Steps p.tables e below (T.setTop g) (T.setFrames fs))
  {Q : Option Value → Heap → List Loc → Prop} (hQ : Q v h locs) {cc ss : Nat} (hc : cells ≤ cc) (hs : slots ≤ ss) :
  own_Go p.tables e below (fun o U' => ∃ v L, o = .returned v ∧ Q v U'.heap L ∧ ReturnedEndW s o U' L cc ss) (T.setTop g) := by
 subst eT
 obtain ⟨fs, hr, hrun, hended, hq⟩ := X.leaveW hS hn (v := v) hv hlk
 exact ⟨_, _, hst fs hr, hrun, hended, _, _, rfl, hQ, hq.1, hq.2.1, hq.2.2.1, hq.2.2.2.mono hc hs⟩

theorem own_EW {Z : State} {a0 : Array Value} (hw : HW a0 Z) : EW Z a0 consts_1 := (EW.cons (text := " time") (w_ hw 204 rfl) (by decide) (EW.cons (text := " times") (w_ hw 56 rfl) (by decide) (EW.cons (text := " times") (w_ hw 193 rfl) (by decide) EW.nil)))
theorem own_atoms {Z : State} {a0 : Array Value} (hw : HW a0 Z) : ∀ a ∈ Bundle.stringAtoms, a.before a0 Z = true := fun a => (fun ha => (List.mem_cons.mp ha).elim (fun e => e ▸ (w_ hw 20 rfl)) (fun ha => (List.mem_cons.mp ha).elim (fun e => e ▸ (w_ hw 57 rfl)) (fun ha => (List.mem_cons.mp ha).elim (fun e => e ▸ (w_ hw 21 rfl)) (fun ha => (List.mem_cons.mp ha).elim (fun e => e ▸ (w_ hw 58 rfl)) (fun ha => (List.mem_cons.mp ha).elim (fun e => e ▸ (w_ hw 59 rfl)) (fun ha => (List.mem_cons.mp ha).elim (fun e => e ▸ (w_ hw 60 rfl)) (fun ha => (List.mem_cons.mp ha).elim (fun e => e ▸ (w_ hw 61 rfl)) (fun ha => nomatch ha))))))))
theorem pn_3 : plainName "java/lang/AbstractStringBuilder" = true := by first | (simp [plainName, overriddenIn]; done) | decide +kernel
abbrev D3 := decode jdk_68_method_2_code
theorem d3_0 : D3 0 = .ok (.aload_n 0, 1) := by decide +kernel
theorem d3_1 : D3 1 = .ok (.invokespecial 3, 3) := by decide +kernel
theorem d3_4 : D3 4 = .ok (.getstatic 18, 3) := by decide +kernel
theorem d3_7 : D3 7 = .ok (.ifCond .eq 18, 3) := by decide +kernel
theorem d3_10 : D3 10 = .ok (.aload_n 0, 1) := by decide +kernel
theorem d3_11 : D3 11 = .ok (.iload_n 1, 1) := by decide +kernel
theorem d3_12 : D3 12 = .ok (.newarray .byte, 2) := by decide +kernel
theorem d3_14 : D3 14 = .ok (.putfield 15, 3) := by decide +kernel
theorem d3_17 : D3 17 = .ok (.aload_n 0, 1) := by decide +kernel
theorem d3_18 : D3 18 = .ok (.iconst 0, 1) := by decide +kernel
theorem d3_19 : D3 19 = .ok (.putfield 22, 3) := by decide +kernel
theorem d3_22 : D3 22 = .ok (.goto 16, 3) := by decide +kernel
theorem d3_38 : D3 38 = .ok (.return_, 1) := by decide +kernel
def Q_rm3 (Z : State) (a0 : Array Value) (a1 : Addr) (w : Int32) (h0 : Heap) (n0 : Nat) (v : Option Value) (h : Heap) (L : List Loc) : Prop := ∃ b : Addr, ∃ kb : ClassId, v = none ∧ Fr n0 L ∧ Keep h0 h [a1] ∧ n0 ≤ b ∧ h0.size ≤ b ∧ Fld Z h a1 "java/lang/AbstractStringBuilder" "value" "[B" (.ref b) ∧ Fld Z h a1 "java/lang/AbstractStringBuilder" "coder" "B" (.int (0 : Int32)) ∧ Fld Z h a1 "java/lang/AbstractStringBuilder" "count" "I" (.int (0 : Int32)) ∧ Arv Z h b kb .byte (16 : Int32) (own_LI own_z (16 : Int32)) (.int (0 : Int32)) ∧ Exa Z h b "[B"
theorem rm3 (hw : HW a0 Z) (a1 : Addr) (w : Int32) (h0 : Heap) (n0 : Nat) (Z0 : n0 ≤ h0.size) (E1 : Exa Z h0 a1 "java/lang/StringBuilder") (g1 : n0 ≤ a1) (F1 : Fld Z h0 a1 "java/lang/AbstractStringBuilder" "value" "[B" .null) (F2 : Fld Z h0 a1 "java/lang/AbstractStringBuilder" "coder" "B" (.int (0 : Int32))) (F3 : Fld Z h0 a1 "java/lang/AbstractStringBuilder" "count" "I" (.int (0 : Int32))) (S1 : Sta Z h0 "java/lang/String" "COMPACT_STRINGS" "Z" (.int w)) (hw0 : ¬ w = (0 : Int32)) :
  own_Met l y19_ jdk_68_method_2_code 2 none (R_ 1 1 16 12) #[(.ref a1), (.int (16 : Int32))] Z h0 (Q_rm3 Z a0 a1 w h0 n0) := by
 refine own_bd (own := "java/lang/AbstractStringBuilder") rfl (plainFor_of_name pn_3) #[rv a1, iv 16] ?_
 intro p e s m below meth c s₁ hx hby Hq hml hown hnm hlk hrt hZ X0 e0
 refine o_aloadN X0 Hq d3_0 rfl rfl ?_
 obtain ⟨T_1, X_1, e_1, st_1⟩ := initO X0 hx hZ hown (w_ hw 16 rfl) (w_ hw 17 rfl) (w_ hw 18 rfl) e0 (g := (mkF m 1 #[rv a1, iv 16] [(.ref a1)])) rfl (by rw [hml]; rfl) rfl (hb hby d3_1) (by decide) (W := 0) (z_ rfl) (by decide)
 refine own_st st_1 ?_
 show own_Go _ _ _ _ (T_1.setTop (mkF m 4 #[rv a1, iv 16] []))
 obtain ⟨T_2, X_2, e_2, st_2⟩ := getS2 X_1 hx hZ hown (host := "") (Or.inl (w_ hw 19 rfl)) Via.refl e_1 S1 (g := (mkF m 4 #[rv a1, iv 16] [])) rfl (hb hby d3_4)
 refine own_st st_2 ?_
 show own_Go _ _ _ _ (T_2.setTop (mkF m 7 #[rv a1, iv 16] [(.int w)]))
 refine o_ifNo X_2 Hq d3_7 (feq hw0).1 (o_aloadN X_2 Hq d3_10 rfl rfl (o_iloadN X_2 Hq d3_11 rfl ?_))
 obtain ⟨T_3, h_3, k_3, X_3, e_3, E_3, A_3, Ex_3, st_3⟩ := newPE X_2 hx hZ (w_ hw 21 rfl) e_2 (g := (mkF m 12 #[rv a1, iv 16] [(.int 16), (.ref a1)])) rfl (hb hby d3_12) rfl (by decide) (cap := 16) (by decide) (by decide) (by decide) (by decide) (ad := "[B") (by decide +kernel)
 obtain ⟨b_3, g_3⟩ : ∃ z, z = h0.size := ⟨_, rfl⟩
 rw [← g_3] at A_3 Ex_3 st_3
 have V_3 : Arv Z h_3 b_3 k_3 .byte (16 : Int32) (own_LI own_z (16 : Int32)) (.int (0 : Int32)) := (Arv.new A_3 (by decide)).pad (own_LI_pad _)
 have gg_3 : n0 ≤ b_3 := Nat.le_trans Z0 (Nat.le_of_eq g_3.symm)
 have sz_3 : h0.size ≤ b_3 := Nat.le_trans (Keep.refl h0 [a1]).1 (Nat.le_of_eq g_3.symm)
 refine own_st st_3 ?_
 show own_Go _ _ _ _ (T_3.setTop (mkF m 14 #[rv a1, iv 16] [(.ref b_3), (.ref a1)]))
 have Fa_4 := (F1.ext E_3)
 have Fa_5 := (E1.ext E_3)
 obtain ⟨T_6, h_6, X_6, e_6, W_6, st_6⟩ := putF X_3 hx hZ hown (host := "") (Or.inl (w_ hw 22 rfl)) Via.refl e_3 Fa_4 Fa_5 (Or.inl (w_ hw 23 rfl)) (w_ hw 5 rfl) (ty := (.array .byte)) (by decide) rfl rfl (g := (mkF m 14 #[rv a1, iv 16] [(.ref b_3), (.ref a1)])) rfl rfl (hb hby d3_14)
 refine own_st st_6 ?_
 have N_6 := Fr.snoc X_6 (Fr.nil n0) g1
 show own_Go _ _ _ _ (T_6.setTop (mkF m 17 #[rv a1, iv 16] []))
 refine o_aloadN X_6 Hq d3_17 rfl rfl (o_iconst X_6 Hq 0 d3_18 rfl ?_)
 have Fa_7 := ((F2.ext E_3).other W_6 (Or.inr (slot_ne (Or.inl (w_ hw 25 rfl)) (Or.inl (w_ hw 23 rfl)) (by decide) (t := .byte) (t' := (.array .byte)) (by decide) (by decide))))
 have Fa_8 := (Fa_5.wr W_6)
 obtain ⟨T_9, h_9, X_9, e_9, W_9, st_9⟩ := putFN X_6 hx hZ hown (w_ hw 24 rfl) Via.refl e_6 Fa_7 Fa_8 (Or.inl (w_ hw 25 rfl)) (w_ hw 5 rfl) (ty := .byte) (v' := (.int (0 : Int32))) (by decide) rfl (by decide) (g := (mkF m 19 #[rv a1, iv 16] [(.int 0), (.ref a1)])) rfl rfl (hb hby d3_19)
 refine own_st st_9 ?_
 have N_9 := Fr.snoc X_9 N_6 g1
 show own_Go _ _ _ _ (T_9.setTop (mkF m 22 #[rv a1, iv 16] []))
 refine o_goto X_9 Hq (pc' := 38) d3_22 ?_
 have Kp_10 : Keep h0 h_9 [a1] := ((((Keep.refl h0 [a1]).ext E_3).wr W_6 (Or.inl (List.mem_of_getElem? (i := 0) rfl))).wr W_9 (Or.inl (List.mem_of_getElem? (i := 0) rfl)))
 have Fa_11 := ((Fa_4.same W_6).other W_9 (Or.inr (slot_ne (Or.inl (w_ hw 23 rfl)) (Or.inl (w_ hw 25 rfl)) (by decide) (t := (.array .byte)) (t' := .byte) (by decide) (by decide))))
 have Fa_12 := (Fa_7.same W_9)
 have Fa_13 := (((F3.ext E_3).other W_6 (Or.inr (slot_ne (Or.inl (w_ hw 37 rfl)) (Or.inl (w_ hw 23 rfl)) (by decide) (t := .int) (t' := (.array .byte)) (by decide) (by decide)))).other W_9 (Or.inr (slot_ne (Or.inl (w_ hw 37 rfl)) (Or.inl (w_ hw 25 rfl)) (by decide) (t := .int) (t' := .byte) (by decide) (by decide))))
 have Fa_14 := ((V_3.other W_6 (Ne.symm (Nat.ne_of_lt (Nat.lt_of_lt_of_le F1.lt (Nat.le_of_eq g_3.symm))))).other W_9 (Ne.symm (Nat.ne_of_lt (Nat.lt_of_lt_of_le F1.lt (Nat.le_of_eq g_3.symm)))))
 have Fa_15 := ((Ex_3.wr W_6).wr W_9)
 exact e_V X_9 e_9 Hq hlk hrt d3_38 ⟨b_3, k_3, rfl, N_9, Kp_10, gg_3, sz_3, Fa_11, Fa_12, Fa_13, Fa_14, Fa_15⟩
theorem pn_2 : plainName "java/lang/StringBuilder" = true := by first | (simp [plainName, overriddenIn]; done) | decide +kernel
abbrev D2 := decode jdk_67_method_1_code
theorem d2_0 : D2 0 = .ok (.aload_n 0, 1) := by decide +kernel
theorem d2_1 : D2 1 = .ok (.bipush 16, 2) := by decide +kernel
theorem d2_3 : D2 3 = .ok (.invokespecial 1, 3) := by decide +kernel
theorem pd_6 : parseMethodDescriptor "(I)V" = some ⟨[.int], none⟩ := by decide +kernel
def own_KI (a0 : Array Value) (Z : State) (own C : String) (index : Nat) (y z : MethodName) (bytes : ByteArray) (maxL : Nat) (ret : Option FieldType) (k : Nat) : Prop := ((Jvm.Cond.methodLink own index y).before a0 Z = true ∧ (∃ ps r, parseMethodDescriptor y.desc = some ⟨ps, r⟩ ∧ k = ps.length) ∧ (y.cls ≠ "java/lang/invoke/MethodHandle" ∧ y.cls ≠ "java/lang/invoke/VarHandle")) ∧ y.name = "<init>" ∧ (Jvm.Cond.instanceMethod y).before a0 Z = true ∧ (Jvm.Cond.initialized y.cls).before a0 Z = true ∧ (Jvm.Cond.code y bytes maxL none).before a0 Z = true
section Sm
variable {p : Program} {l : Launch} {e : Env} {R : Room} {s : State} {m : MethodId} {args : Array Value} {below : List Frame} {meth : Method} {c : Code} {T : State} {locs : List Loc} {cells slots : Nat} {P : Outcome → State → Prop} {pc : Nat} {Ls : Array Slot} {st : List Value}
theorem c_I1v (X : Stand p l e R s m args below meth c T locs cells slots) {cb : ByteArray} (hq : p.tables.exec = Jvm.exec ∧ c.code = cb) {Z : State} {a0 : Array Value} {h : Heap} {own C : String} {index : Nat} {y z : MethodName} {bytes : ByteArray} {maxL ML : Nat} {ret : Option FieldType} {rm : Room} {Q : Option Value → Heap → List Loc → Prop} {a : Addr} {v1 : Value}
  (eT : T.heap = h) (hZ : Z.Warmed39 s.vm) (hown : s.vm.findClass own = some m.cls) (hml : c.maxLocals = ML) (hK : own_KI a0 Z own C index y z bytes maxL ret 1) (hM : own_Met l y bytes maxL none rm #[(.ref a), v1] Z h Q)
  (hd : decode cb pc = .ok (.invokespecial index, 3)) 
  (k : ∀ (T' : State) (L : List Loc), Stand p l e R s m args below meth c T' (locs ++ L) (cells + rm.cells) (slots + rm.slots) → Q none T'.heap L → own_Go p.tables e below P (T'.setTop (mkF m (pc + 3) Ls st))) (W : Nat) (hsz : Ls.size = ML := by rfl) (hW : (st.map fun v => v.category).sum = W := by rfl) (sd : rm.frames + 1 ≤ R.frames ∧ W + (maxL + 11) + rm.locals ≤ R.locals ∧ cells + rm.cells ≤ R.cells ∧ slots + rm.slots ≤ R.slots := by decide) (hv : ∀ v h L, Q v h L → v = none := by intro v h L q; first | exact id q.1 | (obtain ⟨_, q⟩ := q; exact id q.1) | (obtain ⟨_, _, q⟩ := q; exact id q.1) | (obtain ⟨_, _, _, q⟩ := q; exact id q.1)) : own_Go p.tables e below P (T.setTop (mkF m pc Ls (v1 :: (.ref a) :: st))) := by
 obtain ⟨⟨w1, ⟨ps, r, hp, hlen⟩, hy⟩, hn, w2, w3, w4⟩ := hK
 obtain ⟨v, vm1, ⟨T', L0, k0, n0⟩, -, X', ⟨L, hQ, e1, e2, e3⟩, hst⟩ := X.specialBack hq.1 (y := y) hn hown (mvT hZ w1) (mvT hZ w2) (mvT hZ w4) hy (backOf (W := W) (Q := Q) hM hZ w4 w3 sd.1 sd.2.1) (g := mkF m pc Ls (v1 :: (.ref a) :: st)) rfl (by rw [hml]; exact hsz) (Steps.refl _) (a := a) (argsL := [v1]) (rest := st) (lenOf hp hlen) rfl (by show 2 * 0 + _ ≤ _; rw [Nat.mul_zero, Nat.zero_add]; exact Nat.le_of_eq hW) (hb hq.2 hd) (fun _ _ => ⟨rfl, eT, sd.2.2.1, sd.2.2.2⟩)
 dsimp only [Pt.U, Pt.locs, Pt.cells, Pt.slots] at X' e1 e2 e3 hst hQ
 subst e1 e2 e3
 obtain rfl := hv _ _ _ hQ
 exact own_tr hst (k _ _ X' hQ)
end Sm
theorem k2_1 {a0 : Array Value} {Z : State} (hw : HW a0 Z) : own_KI a0 Z "java/lang/StringBuilder" "" 1 y19_ y19_ jdk_68_method_2_code 2 none 1 := ⟨⟨(w_ hw 10 rfl), ⟨_, _, pd_6, rfl⟩, by decide⟩, rfl, (w_ hw 11 rfl), (w_ hw 14 rfl), (w_ hw 15 rfl)⟩
theorem d2_6 : D2 6 = .ok (.return_, 1) := by decide +kernel
def Q_rm2 (Z : State) (a0 : Array Value) (a1 : Addr) (w : Int32) (h0 : Heap) (n0 : Nat) (v : Option Value) (h : Heap) (L : List Loc) : Prop := ∃ b : Addr, ∃ kb : ClassId, v = none ∧ Fr n0 L ∧ Keep h0 h [a1] ∧ n0 ≤ b ∧ h0.size ≤ b ∧ Fld Z h a1 "java/lang/AbstractStringBuilder" "value" "[B" (.ref b) ∧ Fld Z h a1 "java/lang/AbstractStringBuilder" "coder" "B" (.int (0 : Int32)) ∧ Fld Z h a1 "java/lang/AbstractStringBuilder" "count" "I" (.int (0 : Int32)) ∧ Arv Z h b kb .byte (16 : Int32) (own_LI own_z (16 : Int32)) (.int (0 : Int32)) ∧ Exa Z h b "[B"
theorem rm2 (hw : HW a0 Z) (a1 : Addr) (w : Int32) (h0 : Heap) (n0 : Nat) (Z0 : n0 ≤ h0.size) (E1 : Exa Z h0 a1 "java/lang/StringBuilder") (g1 : n0 ≤ a1) (F1 : Fld Z h0 a1 "java/lang/AbstractStringBuilder" "value" "[B" .null) (F2 : Fld Z h0 a1 "java/lang/AbstractStringBuilder" "coder" "B" (.int (0 : Int32))) (F3 : Fld Z h0 a1 "java/lang/AbstractStringBuilder" "count" "I" (.int (0 : Int32))) (S1 : Sta Z h0 "java/lang/String" "COMPACT_STRINGS" "Z" (.int w)) (hw0 : ¬ w = (0 : Int32)) :
  own_Met l y20_ jdk_67_method_1_code 1 none (R_ 2 1 16 25) #[(.ref a1)] Z h0 (Q_rm2 Z a0 a1 w h0 n0) := by
 refine own_bd (own := "java/lang/StringBuilder") rfl (plainFor_of_name pn_2) #[rv a1] ?_
 intro p e s m below meth c s₁ hx hby Hq hml hown hnm hlk hrt hZ X0 e0
 refine o_aloadN X0 Hq d2_0 rfl rfl (o_bipush X0 Hq 16 d2_1 rfl ?_)
 refine c_I1v X0 Hq e0 hZ hown hml (k2_1 hw) (rm3 hw a1 w h0 n0 Z0 E1 g1 F1 F2 F3 S1 hw0) d2_3 ?_ 0
 rintro T_1 L_1 X_1 ⟨b__1, kb__1, -, Nq_1, K_1, gq_1_b, sq_1_b, Fq_1_0, Fq_1_1, Fq_1_2, Fq_1_3, Fq_1_4⟩
 have N_1 := Fr.app (Fr.nil n0) Nq_1
 have szq_1_b : h0.size ≤ b__1 := Nat.le_trans (Keep.refl h0 [a1]).1 sq_1_b
 have Kp_2 : Keep h0 T_1.heap [a1] := ((Keep.refl h0 [a1]).trans K_1 (allS (Or.inl (List.mem_of_getElem? (i := 0) rfl)) all0))
 exact e_V X_1 rfl Hq hlk hrt d2_6 ⟨b__1, kb__1, rfl, N_1, Kp_2, gq_1_b, szq_1_b, Fq_1_0, Fq_1_1, Fq_1_2, Fq_1_3, Fq_1_4⟩
def own_ss (p1 : Int32)  : Int32 := (if p1 < (0 : Int32) then (if (-10 : Int32) < p1 then (2 : Int32) else (if (-100 : Int32) < p1 then (3 : Int32) else (if (-1000 : Int32) < p1 then (4 : Int32) else (if (-10000 : Int32) < p1 then (5 : Int32) else (if (-100000 : Int32) < p1 then (6 : Int32) else (if (-1000000 : Int32) < p1 then (7 : Int32) else (if (-10000000 : Int32) < p1 then (8 : Int32) else (if (-100000000 : Int32) < p1 then (9 : Int32) else (if (-1000000000 : Int32) < p1 then (10 : Int32) else (11 : Int32)))))))))) else (if (-10 : Int32) < (-p1) then (1 : Int32) else (if (-100 : Int32) < (-p1) then (2 : Int32) else (if (-1000 : Int32) < (-p1) then (3 : Int32) else (if (-10000 : Int32) < (-p1) then (4 : Int32) else (if (-100000 : Int32) < (-p1) then (5 : Int32) else (if (-1000000 : Int32) < (-p1) then (6 : Int32) else (if (-10000000 : Int32) < (-p1) then (7 : Int32) else (if (-100000000 : Int32) < (-p1) then (8 : Int32) else (if (-1000000000 : Int32) < (-p1) then (9 : Int32) else (10 : Int32)))))))))))
theorem pn_7 : plainName "java/lang/Integer" = true := by first | (simp [plainName, overriddenIn]; done) | decide +kernel
abbrev D7 := decode jdk_33_method_13_code
theorem d7_0 : D7 0 = .ok (.iconst 1, 1) := by decide +kernel
theorem d7_1 : D7 1 = .ok (.istore_n 1, 1) := by decide +kernel
theorem d7_2 : D7 2 = .ok (.iload_n 0, 1) := by decide +kernel
theorem d7_3 : D7 3 = .ok (.ifCond .lt 8, 3) := by decide +kernel
theorem d7_11 : D7 11 = .ok (.bipush (-10), 2) := by decide +kernel
theorem d7_13 : D7 13 = .ok (.istore_n 2, 1) := by decide +kernel
theorem d7_14 : D7 14 = .ok (.iconst 1, 1) := by decide +kernel
theorem d7_15 : D7 15 = .ok (.istore_n 3, 1) := by decide +kernel
theorem d7_16 : D7 16 = .ok (.iload_n 3, 1) := by decide +kernel
theorem d7_17 : D7 17 = .ok (.bipush 10, 2) := by decide +kernel
theorem d7_19 : D7 19 = .ok (.if_icmp .ge 23, 3) := by decide +kernel
theorem d7_22 : D7 22 = .ok (.iload_n 0, 1) := by decide +kernel
theorem d7_23 : D7 23 = .ok (.iload_n 2, 1) := by decide +kernel
theorem d7_24 : D7 24 = .ok (.if_icmp .le 7, 3) := by decide +kernel
theorem d7_27 : D7 27 = .ok (.iload_n 3, 1) := by decide +kernel
theorem d7_28 : D7 28 = .ok (.iload_n 1, 1) := by decide +kernel
theorem d7_29 : D7 29 = .ok (.iadd, 1) := by decide +kernel
theorem d7_30 : D7 30 = .ok (.ireturn, 1) := by decide +kernel
theorem d7_31 : D7 31 = .ok (.bipush 10, 2) := by decide +kernel
theorem d7_33 : D7 33 = .ok (.iload_n 2, 1) := by decide +kernel
theorem d7_34 : D7 34 = .ok (.imul, 1) := by decide +kernel
theorem d7_35 : D7 35 = .ok (.istore_n 2, 1) := by decide +kernel
theorem d7_36 : D7 36 = .ok (.iinc 3 1, 3) := by decide +kernel
theorem d7_39 : D7 39 = .ok (.goto (-23), 3) := by decide +kernel
theorem d7_42 : D7 42 = .ok (.bipush 10, 2) := by decide +kernel
theorem d7_44 : D7 44 = .ok (.iload_n 1, 1) := by decide +kernel
theorem d7_45 : D7 45 = .ok (.iadd, 1) := by decide +kernel
theorem d7_46 : D7 46 = .ok (.ireturn, 1) := by decide +kernel
theorem d7_6 : D7 6 = .ok (.iconst 0, 1) := by decide +kernel
theorem d7_7 : D7 7 = .ok (.istore_n 1, 1) := by decide +kernel
theorem d7_8 : D7 8 = .ok (.iload_n 0, 1) := by decide +kernel
theorem d7_9 : D7 9 = .ok (.ineg, 1) := by decide +kernel
theorem d7_10 : D7 10 = .ok (.istore_n 0, 1) := by decide +kernel
def Q_rm7 (Z : State) (a0 : Array Value) (p1 : Int32) (h0 : Heap) (n0 : Nat) (v : Option Value) (h : Heap) (L : List Loc) : Prop := v = some (.int (own_ss p1)) ∧ Fr n0 L ∧ h = h0
theorem rm7 (hw : HW a0 Z) (p1 : Int32) (h0 : Heap) (n0 : Nat) (Z0 : n0 ≤ h0.size) :
  own_Met l y21_ jdk_33_method_13_code 4 (some .int) (R_ 0 0 0 0) #[(.int p1)] Z h0 (Q_rm7 Z a0 p1 h0 n0) := by
 refine own_bd (own := "java/lang/Integer") rfl (plainFor_of_name pn_7) #[iv p1, .unset, .unset, .unset] ?_
 intro p e s m below meth c s₁ hx hby Hq hml hown hnm hlk hrt hZ X0 e0
 have hv : own_ss p1 = (if p1 < (0 : Int32) then (if (-10 : Int32) < p1 then (2 : Int32) else (if (-100 : Int32) < p1 then (3 : Int32) else (if (-1000 : Int32) < p1 then (4 : Int32) else (if (-10000 : Int32) < p1 then (5 : Int32) else (if (-100000 : Int32) < p1 then (6 : Int32) else (if (-1000000 : Int32) < p1 then (7 : Int32) else (if (-10000000 : Int32) < p1 then (8 : Int32) else (if (-100000000 : Int32) < p1 then (9 : Int32) else (if (-1000000000 : Int32) < p1 then (10 : Int32) else (11 : Int32)))))))))) else (if (-10 : Int32) < (-p1) then (1 : Int32) else (if (-100 : Int32) < (-p1) then (2 : Int32) else (if (-1000 : Int32) < (-p1) then (3 : Int32) else (if (-10000 : Int32) < (-p1) then (4 : Int32) else (if (-100000 : Int32) < (-p1) then (5 : Int32) else (if (-1000000 : Int32) < (-p1) then (6 : Int32) else (if (-10000000 : Int32) < (-p1) then (7 : Int32) else (if (-100000000 : Int32) < (-p1) then (8 : Int32) else (if (-1000000000 : Int32) < (-p1) then (9 : Int32) else (10 : Int32))))))))))) := rfl
 show own_Go _ _ _ _ (s₁.setTop (mkF m 0 #[iv p1, .unset, .unset, .unset] []))
 refine o_iconst X0 Hq 1 d7_0 rfl (o_istoreN X0 Hq d7_1 (l' := #[iv p1, iv 1, .unset, .unset]) rfl (o_iloadN X0 Hq d7_2 rfl ?_))
 by_cases hc3__1 : p1 < (0 : Int32)
 ·have hv_2 := hv.trans (if_pos hc3__1)
  refine o_ifYes X0 Hq (pc' := 11) d7_3 (tlt hc3__1).1 (o_bipush X0 Hq (-10) d7_11 rfl (o_istoreN X0 Hq d7_13 (l' := #[iv p1, iv 1, iv (-10), .unset]) rfl (o_iconst X0 Hq 1 d7_14 rfl (o_istoreN X0 Hq d7_15 (l' := #[iv p1, iv 1, iv (-10), iv 1]) rfl (o_iloadN X0 Hq d7_16 rfl (o_bipush X0 Hq 10 d7_17 rfl (o_icmpNo X0 Hq d7_19 (by decide) (o_iloadN X0 Hq d7_22 rfl (o_iloadN X0 Hq d7_23 rfl ?_)))))))))
  by_cases hc24__3 : (-10 : Int32) < p1
  ·have hv_4 := hv_2.trans (if_pos hc24__3)
   refine o_icmpNo X0 Hq d7_24 (tlt hc24__3).2.2.2 (o_iloadN X0 Hq d7_27 rfl (o_iloadN X0 Hq d7_28 rfl (o_iadd X0 Hq d7_29 ?_)))
   show own_Go _ _ _ _ (s₁.setTop (mkF m 30 #[iv p1, iv 1, iv (-10), iv 1] [(.int 2)]))
   exact e_I X0 e0 Hq hlk hrt d7_30 ⟨(congrArg (fun z => some (Value.int z)) hv_4.symm), (Fr.nil n0), rfl⟩
  ·have hv_5 := hv_2.trans (if_neg hc24__3)
   refine o_icmpYes X0 Hq (pc' := 31) d7_24 (flt hc24__3).2.2.2 (o_bipush X0 Hq 10 d7_31 rfl (o_iloadN X0 Hq d7_33 rfl (o_imul X0 Hq d7_34 ?_)))
   show own_Go _ _ _ _ (s₁.setTop (mkF m 35 #[iv p1, iv 1, iv (-10), iv 1] [(.int (-100))]))
   refine o_istoreN X0 Hq d7_35 (l' := #[iv p1, iv 1, iv (-100), iv 1]) rfl (o_iinc X0 Hq d7_36 rfl (l' := #[iv p1, iv 1, iv (-100), iv 2]) rfl (o_goto X0 Hq (pc' := 16) d7_39 (o_iloadN X0 Hq d7_16 rfl (o_bipush X0 Hq 10 d7_17 rfl (o_icmpNo X0 Hq d7_19 (by decide) (o_iloadN X0 Hq d7_22 rfl (o_iloadN X0 Hq d7_23 rfl ?_)))))))
   by_cases hc24__6 : (-100 : Int32) < p1
   ·have hv_7 := hv_5.trans (if_pos hc24__6)
    refine o_icmpNo X0 Hq d7_24 (tlt hc24__6).2.2.2 (o_iloadN X0 Hq d7_27 rfl (o_iloadN X0 Hq d7_28 rfl (o_iadd X0 Hq d7_29 ?_)))
    show own_Go _ _ _ _ (s₁.setTop (mkF m 30 #[iv p1, iv 1, iv (-100), iv 2] [(.int 3)]))
    exact e_I X0 e0 Hq hlk hrt d7_30 ⟨(congrArg (fun z => some (Value.int z)) hv_7.symm), (Fr.nil n0), rfl⟩
   ·have hv_8 := hv_5.trans (if_neg hc24__6)
    refine o_icmpYes X0 Hq (pc' := 31) d7_24 (flt hc24__6).2.2.2 (o_bipush X0 Hq 10 d7_31 rfl (o_iloadN X0 Hq d7_33 rfl (o_imul X0 Hq d7_34 ?_)))
    show own_Go _ _ _ _ (s₁.setTop (mkF m 35 #[iv p1, iv 1, iv (-100), iv 2] [(.int (-1000))]))
    refine o_istoreN X0 Hq d7_35 (l' := #[iv p1, iv 1, iv (-1000), iv 2]) rfl (o_iinc X0 Hq d7_36 rfl (l' := #[iv p1, iv 1, iv (-1000), iv 3]) rfl (o_goto X0 Hq (pc' := 16) d7_39 (o_iloadN X0 Hq d7_16 rfl (o_bipush X0 Hq 10 d7_17 rfl (o_icmpNo X0 Hq d7_19 (by decide) (o_iloadN X0 Hq d7_22 rfl (o_iloadN X0 Hq d7_23 rfl ?_)))))))
    by_cases hc24__9 : (-1000 : Int32) < p1
    ·have hv_10 := hv_8.trans (if_pos hc24__9)
     refine o_icmpNo X0 Hq d7_24 (tlt hc24__9).2.2.2 (o_iloadN X0 Hq d7_27 rfl (o_iloadN X0 Hq d7_28 rfl (o_iadd X0 Hq d7_29 ?_)))
     show own_Go _ _ _ _ (s₁.setTop (mkF m 30 #[iv p1, iv 1, iv (-1000), iv 3] [(.int 4)]))
     exact e_I X0 e0 Hq hlk hrt d7_30 ⟨(congrArg (fun z => some (Value.int z)) hv_10.symm), (Fr.nil n0), rfl⟩
    ·have hv_11 := hv_8.trans (if_neg hc24__9)
     refine o_icmpYes X0 Hq (pc' := 31) d7_24 (flt hc24__9).2.2.2 (o_bipush X0 Hq 10 d7_31 rfl (o_iloadN X0 Hq d7_33 rfl (o_imul X0 Hq d7_34 ?_)))
     show own_Go _ _ _ _ (s₁.setTop (mkF m 35 #[iv p1, iv 1, iv (-1000), iv 3] [(.int (-10000))]))
     refine o_istoreN X0 Hq d7_35 (l' := #[iv p1, iv 1, iv (-10000), iv 3]) rfl (o_iinc X0 Hq d7_36 rfl (l' := #[iv p1, iv 1, iv (-10000), iv 4]) rfl (o_goto X0 Hq (pc' := 16) d7_39 (o_iloadN X0 Hq d7_16 rfl (o_bipush X0 Hq 10 d7_17 rfl (o_icmpNo X0 Hq d7_19 (by decide) (o_iloadN X0 Hq d7_22 rfl (o_iloadN X0 Hq d7_23 rfl ?_)))))))
     by_cases hc24__12 : (-10000 : Int32) < p1
     ·have hv_13 := hv_11.trans (if_pos hc24__12)
      refine o_icmpNo X0 Hq d7_24 (tlt hc24__12).2.2.2 (o_iloadN X0 Hq d7_27 rfl (o_iloadN X0 Hq d7_28 rfl (o_iadd X0 Hq d7_29 ?_)))
      show own_Go _ _ _ _ (s₁.setTop (mkF m 30 #[iv p1, iv 1, iv (-10000), iv 4] [(.int 5)]))
      exact e_I X0 e0 Hq hlk hrt d7_30 ⟨(congrArg (fun z => some (Value.int z)) hv_13.symm), (Fr.nil n0), rfl⟩
     ·have hv_14 := hv_11.trans (if_neg hc24__12)
      refine o_icmpYes X0 Hq (pc' := 31) d7_24 (flt hc24__12).2.2.2 (o_bipush X0 Hq 10 d7_31 rfl (o_iloadN X0 Hq d7_33 rfl (o_imul X0 Hq d7_34 ?_)))
      show own_Go _ _ _ _ (s₁.setTop (mkF m 35 #[iv p1, iv 1, iv (-10000), iv 4] [(.int (-100000))]))
      refine o_istoreN X0 Hq d7_35 (l' := #[iv p1, iv 1, iv (-100000), iv 4]) rfl (o_iinc X0 Hq d7_36 rfl (l' := #[iv p1, iv 1, iv (-100000), iv 5]) rfl (o_goto X0 Hq (pc' := 16) d7_39 (o_iloadN X0 Hq d7_16 rfl (o_bipush X0 Hq 10 d7_17 rfl (o_icmpNo X0 Hq d7_19 (by decide) (o_iloadN X0 Hq d7_22 rfl (o_iloadN X0 Hq d7_23 rfl ?_)))))))
      by_cases hc24__15 : (-100000 : Int32) < p1
      ·have hv_16 := hv_14.trans (if_pos hc24__15)
       refine o_icmpNo X0 Hq d7_24 (tlt hc24__15).2.2.2 (o_iloadN X0 Hq d7_27 rfl (o_iloadN X0 Hq d7_28 rfl (o_iadd X0 Hq d7_29 ?_)))
       show own_Go _ _ _ _ (s₁.setTop (mkF m 30 #[iv p1, iv 1, iv (-100000), iv 5] [(.int 6)]))
       exact e_I X0 e0 Hq hlk hrt d7_30 ⟨(congrArg (fun z => some (Value.int z)) hv_16.symm), (Fr.nil n0), rfl⟩
      ·have hv_17 := hv_14.trans (if_neg hc24__15)
       refine o_icmpYes X0 Hq (pc' := 31) d7_24 (flt hc24__15).2.2.2 (o_bipush X0 Hq 10 d7_31 rfl (o_iloadN X0 Hq d7_33 rfl (o_imul X0 Hq d7_34 ?_)))
       show own_Go _ _ _ _ (s₁.setTop (mkF m 35 #[iv p1, iv 1, iv (-100000), iv 5] [(.int (-1000000))]))
       refine o_istoreN X0 Hq d7_35 (l' := #[iv p1, iv 1, iv (-1000000), iv 5]) rfl (o_iinc X0 Hq d7_36 rfl (l' := #[iv p1, iv 1, iv (-1000000), iv 6]) rfl (o_goto X0 Hq (pc' := 16) d7_39 (o_iloadN X0 Hq d7_16 rfl (o_bipush X0 Hq 10 d7_17 rfl (o_icmpNo X0 Hq d7_19 (by decide) (o_iloadN X0 Hq d7_22 rfl (o_iloadN X0 Hq d7_23 rfl ?_)))))))
       by_cases hc24__18 : (-1000000 : Int32) < p1
       ·have hv_19 := hv_17.trans (if_pos hc24__18)
        refine o_icmpNo X0 Hq d7_24 (tlt hc24__18).2.2.2 (o_iloadN X0 Hq d7_27 rfl (o_iloadN X0 Hq d7_28 rfl (o_iadd X0 Hq d7_29 ?_)))
        show own_Go _ _ _ _ (s₁.setTop (mkF m 30 #[iv p1, iv 1, iv (-1000000), iv 6] [(.int 7)]))
        exact e_I X0 e0 Hq hlk hrt d7_30 ⟨(congrArg (fun z => some (Value.int z)) hv_19.symm), (Fr.nil n0), rfl⟩
       ·have hv_20 := hv_17.trans (if_neg hc24__18)
        refine o_icmpYes X0 Hq (pc' := 31) d7_24 (flt hc24__18).2.2.2 (o_bipush X0 Hq 10 d7_31 rfl (o_iloadN X0 Hq d7_33 rfl (o_imul X0 Hq d7_34 ?_)))
        show own_Go _ _ _ _ (s₁.setTop (mkF m 35 #[iv p1, iv 1, iv (-1000000), iv 6] [(.int (-10000000))]))
        refine o_istoreN X0 Hq d7_35 (l' := #[iv p1, iv 1, iv (-10000000), iv 6]) rfl (o_iinc X0 Hq d7_36 rfl (l' := #[iv p1, iv 1, iv (-10000000), iv 7]) rfl (o_goto X0 Hq (pc' := 16) d7_39 (o_iloadN X0 Hq d7_16 rfl (o_bipush X0 Hq 10 d7_17 rfl (o_icmpNo X0 Hq d7_19 (by decide) (o_iloadN X0 Hq d7_22 rfl (o_iloadN X0 Hq d7_23 rfl ?_)))))))
        by_cases hc24__21 : (-10000000 : Int32) < p1
        ·have hv_22 := hv_20.trans (if_pos hc24__21)
         refine o_icmpNo X0 Hq d7_24 (tlt hc24__21).2.2.2 (o_iloadN X0 Hq d7_27 rfl (o_iloadN X0 Hq d7_28 rfl (o_iadd X0 Hq d7_29 ?_)))
         show own_Go _ _ _ _ (s₁.setTop (mkF m 30 #[iv p1, iv 1, iv (-10000000), iv 7] [(.int 8)]))
         exact e_I X0 e0 Hq hlk hrt d7_30 ⟨(congrArg (fun z => some (Value.int z)) hv_22.symm), (Fr.nil n0), rfl⟩
        ·have hv_23 := hv_20.trans (if_neg hc24__21)
         refine o_icmpYes X0 Hq (pc' := 31) d7_24 (flt hc24__21).2.2.2 (o_bipush X0 Hq 10 d7_31 rfl (o_iloadN X0 Hq d7_33 rfl (o_imul X0 Hq d7_34 ?_)))
         show own_Go _ _ _ _ (s₁.setTop (mkF m 35 #[iv p1, iv 1, iv (-10000000), iv 7] [(.int (-100000000))]))
         refine o_istoreN X0 Hq d7_35 (l' := #[iv p1, iv 1, iv (-100000000), iv 7]) rfl (o_iinc X0 Hq d7_36 rfl (l' := #[iv p1, iv 1, iv (-100000000), iv 8]) rfl (o_goto X0 Hq (pc' := 16) d7_39 (o_iloadN X0 Hq d7_16 rfl (o_bipush X0 Hq 10 d7_17 rfl (o_icmpNo X0 Hq d7_19 (by decide) (o_iloadN X0 Hq d7_22 rfl (o_iloadN X0 Hq d7_23 rfl ?_)))))))
         by_cases hc24__24 : (-100000000 : Int32) < p1
         ·have hv_25 := hv_23.trans (if_pos hc24__24)
          refine o_icmpNo X0 Hq d7_24 (tlt hc24__24).2.2.2 (o_iloadN X0 Hq d7_27 rfl (o_iloadN X0 Hq d7_28 rfl (o_iadd X0 Hq d7_29 ?_)))
          show own_Go _ _ _ _ (s₁.setTop (mkF m 30 #[iv p1, iv 1, iv (-100000000), iv 8] [(.int 9)]))
          exact e_I X0 e0 Hq hlk hrt d7_30 ⟨(congrArg (fun z => some (Value.int z)) hv_25.symm), (Fr.nil n0), rfl⟩
         ·have hv_26 := hv_23.trans (if_neg hc24__24)
          refine o_icmpYes X0 Hq (pc' := 31) d7_24 (flt hc24__24).2.2.2 (o_bipush X0 Hq 10 d7_31 rfl (o_iloadN X0 Hq d7_33 rfl (o_imul X0 Hq d7_34 ?_)))
          show own_Go _ _ _ _ (s₁.setTop (mkF m 35 #[iv p1, iv 1, iv (-100000000), iv 8] [(.int (-1000000000))]))
          refine o_istoreN X0 Hq d7_35 (l' := #[iv p1, iv 1, iv (-1000000000), iv 8]) rfl (o_iinc X0 Hq d7_36 rfl (l' := #[iv p1, iv 1, iv (-1000000000), iv 9]) rfl (o_goto X0 Hq (pc' := 16) d7_39 (o_iloadN X0 Hq d7_16 rfl (o_bipush X0 Hq 10 d7_17 rfl (o_icmpNo X0 Hq d7_19 (by decide) (o_iloadN X0 Hq d7_22 rfl (o_iloadN X0 Hq d7_23 rfl ?_)))))))
          by_cases hc24__27 : (-1000000000 : Int32) < p1
          ·have hv_28 := hv_26.trans (if_pos hc24__27)
           refine o_icmpNo X0 Hq d7_24 (tlt hc24__27).2.2.2 (o_iloadN X0 Hq d7_27 rfl (o_iloadN X0 Hq d7_28 rfl (o_iadd X0 Hq d7_29 ?_)))
           show own_Go _ _ _ _ (s₁.setTop (mkF m 30 #[iv p1, iv 1, iv (-1000000000), iv 9] [(.int 10)]))
           exact e_I X0 e0 Hq hlk hrt d7_30 ⟨(congrArg (fun z => some (Value.int z)) hv_28.symm), (Fr.nil n0), rfl⟩
          ·have hv_29 := hv_26.trans (if_neg hc24__27)
           refine o_icmpYes X0 Hq (pc' := 31) d7_24 (flt hc24__27).2.2.2 (o_bipush X0 Hq 10 d7_31 rfl (o_iloadN X0 Hq d7_33 rfl (o_imul X0 Hq d7_34 ?_)))
           show own_Go _ _ _ _ (s₁.setTop (mkF m 35 #[iv p1, iv 1, iv (-1000000000), iv 9] [(.int (-1410065408))]))
           refine o_istoreN X0 Hq d7_35 (l' := #[iv p1, iv 1, iv (-1410065408), iv 9]) rfl (o_iinc X0 Hq d7_36 rfl (l' := #[iv p1, iv 1, iv (-1410065408), iv 10]) rfl (o_goto X0 Hq (pc' := 16) d7_39 (o_iloadN X0 Hq d7_16 rfl (o_bipush X0 Hq 10 d7_17 rfl (o_icmpYes X0 Hq (pc' := 42) d7_19 (by decide) (o_bipush X0 Hq 10 d7_42 rfl (o_iloadN X0 Hq d7_44 rfl (o_iadd X0 Hq d7_45 ?_))))))))
           show own_Go _ _ _ _ (s₁.setTop (mkF m 46 #[iv p1, iv 1, iv (-1410065408), iv 10] [(.int 11)]))
           exact e_I X0 e0 Hq hlk hrt d7_46 ⟨(congrArg (fun z => some (Value.int z)) hv_29.symm), (Fr.nil n0), rfl⟩
 ·have hv_30 := hv.trans (if_neg hc3__1)
  refine o_ifNo X0 Hq d7_3 (flt hc3__1).1 (o_iconst X0 Hq 0 d7_6 rfl (o_istoreN X0 Hq d7_7 (l' := #[iv p1, iv 0, .unset, .unset]) rfl (o_iloadN X0 Hq d7_8 rfl (o_ineg X0 Hq d7_9 (o_istoreN X0 Hq d7_10 (l' := #[iv (-p1), iv 0, .unset, .unset]) rfl (o_bipush X0 Hq (-10) d7_11 rfl (o_istoreN X0 Hq d7_13 (l' := #[iv (-p1), iv 0, iv (-10), .unset]) rfl (o_iconst X0 Hq 1 d7_14 rfl (o_istoreN X0 Hq d7_15 (l' := #[iv (-p1), iv 0, iv (-10), iv 1]) rfl (o_iloadN X0 Hq d7_16 rfl (o_bipush X0 Hq 10 d7_17 rfl (o_icmpNo X0 Hq d7_19 (by decide) (o_iloadN X0 Hq d7_22 rfl (o_iloadN X0 Hq d7_23 rfl ?_))))))))))))))
  by_cases hc24__31 : (-10 : Int32) < (-p1)
  ·have hv_32 := hv_30.trans (if_pos hc24__31)
   refine o_icmpNo X0 Hq d7_24 (tlt hc24__31).2.2.2 (o_iloadN X0 Hq d7_27 rfl (o_iloadN X0 Hq d7_28 rfl (o_iadd X0 Hq d7_29 ?_)))
   show own_Go _ _ _ _ (s₁.setTop (mkF m 30 #[iv (-p1), iv 0, iv (-10), iv 1] [(.int 1)]))
   exact e_I X0 e0 Hq hlk hrt d7_30 ⟨(congrArg (fun z => some (Value.int z)) hv_32.symm), (Fr.nil n0), rfl⟩
  ·have hv_33 := hv_30.trans (if_neg hc24__31)
   refine o_icmpYes X0 Hq (pc' := 31) d7_24 (flt hc24__31).2.2.2 (o_bipush X0 Hq 10 d7_31 rfl (o_iloadN X0 Hq d7_33 rfl (o_imul X0 Hq d7_34 ?_)))
   show own_Go _ _ _ _ (s₁.setTop (mkF m 35 #[iv (-p1), iv 0, iv (-10), iv 1] [(.int (-100))]))
   refine o_istoreN X0 Hq d7_35 (l' := #[iv (-p1), iv 0, iv (-100), iv 1]) rfl (o_iinc X0 Hq d7_36 rfl (l' := #[iv (-p1), iv 0, iv (-100), iv 2]) rfl (o_goto X0 Hq (pc' := 16) d7_39 (o_iloadN X0 Hq d7_16 rfl (o_bipush X0 Hq 10 d7_17 rfl (o_icmpNo X0 Hq d7_19 (by decide) (o_iloadN X0 Hq d7_22 rfl (o_iloadN X0 Hq d7_23 rfl ?_)))))))
   by_cases hc24__34 : (-100 : Int32) < (-p1)
   ·have hv_35 := hv_33.trans (if_pos hc24__34)
    refine o_icmpNo X0 Hq d7_24 (tlt hc24__34).2.2.2 (o_iloadN X0 Hq d7_27 rfl (o_iloadN X0 Hq d7_28 rfl (o_iadd X0 Hq d7_29 ?_)))
    show own_Go _ _ _ _ (s₁.setTop (mkF m 30 #[iv (-p1), iv 0, iv (-100), iv 2] [(.int 2)]))
    exact e_I X0 e0 Hq hlk hrt d7_30 ⟨(congrArg (fun z => some (Value.int z)) hv_35.symm), (Fr.nil n0), rfl⟩
   ·have hv_36 := hv_33.trans (if_neg hc24__34)
    refine o_icmpYes X0 Hq (pc' := 31) d7_24 (flt hc24__34).2.2.2 (o_bipush X0 Hq 10 d7_31 rfl (o_iloadN X0 Hq d7_33 rfl (o_imul X0 Hq d7_34 ?_)))
    show own_Go _ _ _ _ (s₁.setTop (mkF m 35 #[iv (-p1), iv 0, iv (-100), iv 2] [(.int (-1000))]))
    refine o_istoreN X0 Hq d7_35 (l' := #[iv (-p1), iv 0, iv (-1000), iv 2]) rfl (o_iinc X0 Hq d7_36 rfl (l' := #[iv (-p1), iv 0, iv (-1000), iv 3]) rfl (o_goto X0 Hq (pc' := 16) d7_39 (o_iloadN X0 Hq d7_16 rfl (o_bipush X0 Hq 10 d7_17 rfl (o_icmpNo X0 Hq d7_19 (by decide) (o_iloadN X0 Hq d7_22 rfl (o_iloadN X0 Hq d7_23 rfl ?_)))))))
    by_cases hc24__37 : (-1000 : Int32) < (-p1)
    ·have hv_38 := hv_36.trans (if_pos hc24__37)
     refine o_icmpNo X0 Hq d7_24 (tlt hc24__37).2.2.2 (o_iloadN X0 Hq d7_27 rfl (o_iloadN X0 Hq d7_28 rfl (o_iadd X0 Hq d7_29 ?_)))
     show own_Go _ _ _ _ (s₁.setTop (mkF m 30 #[iv (-p1), iv 0, iv (-1000), iv 3] [(.int 3)]))
     exact e_I X0 e0 Hq hlk hrt d7_30 ⟨(congrArg (fun z => some (Value.int z)) hv_38.symm), (Fr.nil n0), rfl⟩
    ·have hv_39 := hv_36.trans (if_neg hc24__37)
     refine o_icmpYes X0 Hq (pc' := 31) d7_24 (flt hc24__37).2.2.2 (o_bipush X0 Hq 10 d7_31 rfl (o_iloadN X0 Hq d7_33 rfl (o_imul X0 Hq d7_34 ?_)))
     show own_Go _ _ _ _ (s₁.setTop (mkF m 35 #[iv (-p1), iv 0, iv (-1000), iv 3] [(.int (-10000))]))
     refine o_istoreN X0 Hq d7_35 (l' := #[iv (-p1), iv 0, iv (-10000), iv 3]) rfl (o_iinc X0 Hq d7_36 rfl (l' := #[iv (-p1), iv 0, iv (-10000), iv 4]) rfl (o_goto X0 Hq (pc' := 16) d7_39 (o_iloadN X0 Hq d7_16 rfl (o_bipush X0 Hq 10 d7_17 rfl (o_icmpNo X0 Hq d7_19 (by decide) (o_iloadN X0 Hq d7_22 rfl (o_iloadN X0 Hq d7_23 rfl ?_)))))))
     by_cases hc24__40 : (-10000 : Int32) < (-p1)
     ·have hv_41 := hv_39.trans (if_pos hc24__40)
      refine o_icmpNo X0 Hq d7_24 (tlt hc24__40).2.2.2 (o_iloadN X0 Hq d7_27 rfl (o_iloadN X0 Hq d7_28 rfl (o_iadd X0 Hq d7_29 ?_)))
      show own_Go _ _ _ _ (s₁.setTop (mkF m 30 #[iv (-p1), iv 0, iv (-10000), iv 4] [(.int 4)]))
      exact e_I X0 e0 Hq hlk hrt d7_30 ⟨(congrArg (fun z => some (Value.int z)) hv_41.symm), (Fr.nil n0), rfl⟩
     ·have hv_42 := hv_39.trans (if_neg hc24__40)
      refine o_icmpYes X0 Hq (pc' := 31) d7_24 (flt hc24__40).2.2.2 (o_bipush X0 Hq 10 d7_31 rfl (o_iloadN X0 Hq d7_33 rfl (o_imul X0 Hq d7_34 ?_)))
      show own_Go _ _ _ _ (s₁.setTop (mkF m 35 #[iv (-p1), iv 0, iv (-10000), iv 4] [(.int (-100000))]))
      refine o_istoreN X0 Hq d7_35 (l' := #[iv (-p1), iv 0, iv (-100000), iv 4]) rfl (o_iinc X0 Hq d7_36 rfl (l' := #[iv (-p1), iv 0, iv (-100000), iv 5]) rfl (o_goto X0 Hq (pc' := 16) d7_39 (o_iloadN X0 Hq d7_16 rfl (o_bipush X0 Hq 10 d7_17 rfl (o_icmpNo X0 Hq d7_19 (by decide) (o_iloadN X0 Hq d7_22 rfl (o_iloadN X0 Hq d7_23 rfl ?_)))))))
      by_cases hc24__43 : (-100000 : Int32) < (-p1)
      ·have hv_44 := hv_42.trans (if_pos hc24__43)
       refine o_icmpNo X0 Hq d7_24 (tlt hc24__43).2.2.2 (o_iloadN X0 Hq d7_27 rfl (o_iloadN X0 Hq d7_28 rfl (o_iadd X0 Hq d7_29 ?_)))
       show own_Go _ _ _ _ (s₁.setTop (mkF m 30 #[iv (-p1), iv 0, iv (-100000), iv 5] [(.int 5)]))
       exact e_I X0 e0 Hq hlk hrt d7_30 ⟨(congrArg (fun z => some (Value.int z)) hv_44.symm), (Fr.nil n0), rfl⟩
      ·have hv_45 := hv_42.trans (if_neg hc24__43)
       refine o_icmpYes X0 Hq (pc' := 31) d7_24 (flt hc24__43).2.2.2 (o_bipush X0 Hq 10 d7_31 rfl (o_iloadN X0 Hq d7_33 rfl (o_imul X0 Hq d7_34 ?_)))
       show own_Go _ _ _ _ (s₁.setTop (mkF m 35 #[iv (-p1), iv 0, iv (-100000), iv 5] [(.int (-1000000))]))
       refine o_istoreN X0 Hq d7_35 (l' := #[iv (-p1), iv 0, iv (-1000000), iv 5]) rfl (o_iinc X0 Hq d7_36 rfl (l' := #[iv (-p1), iv 0, iv (-1000000), iv 6]) rfl (o_goto X0 Hq (pc' := 16) d7_39 (o_iloadN X0 Hq d7_16 rfl (o_bipush X0 Hq 10 d7_17 rfl (o_icmpNo X0 Hq d7_19 (by decide) (o_iloadN X0 Hq d7_22 rfl (o_iloadN X0 Hq d7_23 rfl ?_)))))))
       by_cases hc24__46 : (-1000000 : Int32) < (-p1)
       ·have hv_47 := hv_45.trans (if_pos hc24__46)
        refine o_icmpNo X0 Hq d7_24 (tlt hc24__46).2.2.2 (o_iloadN X0 Hq d7_27 rfl (o_iloadN X0 Hq d7_28 rfl (o_iadd X0 Hq d7_29 ?_)))
        show own_Go _ _ _ _ (s₁.setTop (mkF m 30 #[iv (-p1), iv 0, iv (-1000000), iv 6] [(.int 6)]))
        exact e_I X0 e0 Hq hlk hrt d7_30 ⟨(congrArg (fun z => some (Value.int z)) hv_47.symm), (Fr.nil n0), rfl⟩
       ·have hv_48 := hv_45.trans (if_neg hc24__46)
        refine o_icmpYes X0 Hq (pc' := 31) d7_24 (flt hc24__46).2.2.2 (o_bipush X0 Hq 10 d7_31 rfl (o_iloadN X0 Hq d7_33 rfl (o_imul X0 Hq d7_34 ?_)))
        show own_Go _ _ _ _ (s₁.setTop (mkF m 35 #[iv (-p1), iv 0, iv (-1000000), iv 6] [(.int (-10000000))]))
        refine o_istoreN X0 Hq d7_35 (l' := #[iv (-p1), iv 0, iv (-10000000), iv 6]) rfl (o_iinc X0 Hq d7_36 rfl (l' := #[iv (-p1), iv 0, iv (-10000000), iv 7]) rfl (o_goto X0 Hq (pc' := 16) d7_39 (o_iloadN X0 Hq d7_16 rfl (o_bipush X0 Hq 10 d7_17 rfl (o_icmpNo X0 Hq d7_19 (by decide) (o_iloadN X0 Hq d7_22 rfl (o_iloadN X0 Hq d7_23 rfl ?_)))))))
        by_cases hc24__49 : (-10000000 : Int32) < (-p1)
        ·have hv_50 := hv_48.trans (if_pos hc24__49)
         refine o_icmpNo X0 Hq d7_24 (tlt hc24__49).2.2.2 (o_iloadN X0 Hq d7_27 rfl (o_iloadN X0 Hq d7_28 rfl (o_iadd X0 Hq d7_29 ?_)))
         show own_Go _ _ _ _ (s₁.setTop (mkF m 30 #[iv (-p1), iv 0, iv (-10000000), iv 7] [(.int 7)]))
         exact e_I X0 e0 Hq hlk hrt d7_30 ⟨(congrArg (fun z => some (Value.int z)) hv_50.symm), (Fr.nil n0), rfl⟩
        ·have hv_51 := hv_48.trans (if_neg hc24__49)
         refine o_icmpYes X0 Hq (pc' := 31) d7_24 (flt hc24__49).2.2.2 (o_bipush X0 Hq 10 d7_31 rfl (o_iloadN X0 Hq d7_33 rfl (o_imul X0 Hq d7_34 ?_)))
         show own_Go _ _ _ _ (s₁.setTop (mkF m 35 #[iv (-p1), iv 0, iv (-10000000), iv 7] [(.int (-100000000))]))
         refine o_istoreN X0 Hq d7_35 (l' := #[iv (-p1), iv 0, iv (-100000000), iv 7]) rfl (o_iinc X0 Hq d7_36 rfl (l' := #[iv (-p1), iv 0, iv (-100000000), iv 8]) rfl (o_goto X0 Hq (pc' := 16) d7_39 (o_iloadN X0 Hq d7_16 rfl (o_bipush X0 Hq 10 d7_17 rfl (o_icmpNo X0 Hq d7_19 (by decide) (o_iloadN X0 Hq d7_22 rfl (o_iloadN X0 Hq d7_23 rfl ?_)))))))
         by_cases hc24__52 : (-100000000 : Int32) < (-p1)
         ·have hv_53 := hv_51.trans (if_pos hc24__52)
          refine o_icmpNo X0 Hq d7_24 (tlt hc24__52).2.2.2 (o_iloadN X0 Hq d7_27 rfl (o_iloadN X0 Hq d7_28 rfl (o_iadd X0 Hq d7_29 ?_)))
          show own_Go _ _ _ _ (s₁.setTop (mkF m 30 #[iv (-p1), iv 0, iv (-100000000), iv 8] [(.int 8)]))
          exact e_I X0 e0 Hq hlk hrt d7_30 ⟨(congrArg (fun z => some (Value.int z)) hv_53.symm), (Fr.nil n0), rfl⟩
         ·have hv_54 := hv_51.trans (if_neg hc24__52)
          refine o_icmpYes X0 Hq (pc' := 31) d7_24 (flt hc24__52).2.2.2 (o_bipush X0 Hq 10 d7_31 rfl (o_iloadN X0 Hq d7_33 rfl (o_imul X0 Hq d7_34 ?_)))
          show own_Go _ _ _ _ (s₁.setTop (mkF m 35 #[iv (-p1), iv 0, iv (-100000000), iv 8] [(.int (-1000000000))]))
          refine o_istoreN X0 Hq d7_35 (l' := #[iv (-p1), iv 0, iv (-1000000000), iv 8]) rfl (o_iinc X0 Hq d7_36 rfl (l' := #[iv (-p1), iv 0, iv (-1000000000), iv 9]) rfl (o_goto X0 Hq (pc' := 16) d7_39 (o_iloadN X0 Hq d7_16 rfl (o_bipush X0 Hq 10 d7_17 rfl (o_icmpNo X0 Hq d7_19 (by decide) (o_iloadN X0 Hq d7_22 rfl (o_iloadN X0 Hq d7_23 rfl ?_)))))))
          by_cases hc24__55 : (-1000000000 : Int32) < (-p1)
          ·have hv_56 := hv_54.trans (if_pos hc24__55)
           refine o_icmpNo X0 Hq d7_24 (tlt hc24__55).2.2.2 (o_iloadN X0 Hq d7_27 rfl (o_iloadN X0 Hq d7_28 rfl (o_iadd X0 Hq d7_29 ?_)))
           show own_Go _ _ _ _ (s₁.setTop (mkF m 30 #[iv (-p1), iv 0, iv (-1000000000), iv 9] [(.int 9)]))
           exact e_I X0 e0 Hq hlk hrt d7_30 ⟨(congrArg (fun z => some (Value.int z)) hv_56.symm), (Fr.nil n0), rfl⟩
          ·have hv_57 := hv_54.trans (if_neg hc24__55)
           refine o_icmpYes X0 Hq (pc' := 31) d7_24 (flt hc24__55).2.2.2 (o_bipush X0 Hq 10 d7_31 rfl (o_iloadN X0 Hq d7_33 rfl (o_imul X0 Hq d7_34 ?_)))
           show own_Go _ _ _ _ (s₁.setTop (mkF m 35 #[iv (-p1), iv 0, iv (-1000000000), iv 9] [(.int (-1410065408))]))
           refine o_istoreN X0 Hq d7_35 (l' := #[iv (-p1), iv 0, iv (-1410065408), iv 9]) rfl (o_iinc X0 Hq d7_36 rfl (l' := #[iv (-p1), iv 0, iv (-1410065408), iv 10]) rfl (o_goto X0 Hq (pc' := 16) d7_39 (o_iloadN X0 Hq d7_16 rfl (o_bipush X0 Hq 10 d7_17 rfl (o_icmpYes X0 Hq (pc' := 42) d7_19 (by decide) (o_bipush X0 Hq 10 d7_42 rfl (o_iloadN X0 Hq d7_44 rfl (o_iadd X0 Hq d7_45 ?_))))))))
           show own_Go _ _ _ _ (s₁.setTop (mkF m 46 #[iv (-p1), iv 0, iv (-1410065408), iv 10] [(.int 10)]))
           exact e_I X0 e0 Hq hlk hrt d7_46 ⟨(congrArg (fun z => some (Value.int z)) hv_57.symm), (Fr.nil n0), rfl⟩
theorem own_sseq (p : Int32) : own_ss p = own_size p := by
 apply Int32.toInt_inj.mp
 by_cases s : p < 0
 ·have s' : p.toInt < 0 := by rw [Int32.lt_iff_toInt_lt] at s; exact s
  have ea : own_abs p = -p.toInt := by unfold own_abs; rw [if_pos s']
  rw [own_sizeI, ea, own_ngN s]
  unfold own_ss own_nd
  rw [if_pos s]
  by_cases c1 : -p.toInt < 10
  ·rw [if_pos ((own_lt (A := -10) (B := p.toInt) rfl rfl).1 (by omega)), if_pos c1]; rfl
  rw [if_neg ((own_lt (A := -10) (B := p.toInt) rfl rfl).2 (by omega)), if_neg c1]
  by_cases c2 : -p.toInt < 100
  ·rw [if_pos ((own_lt (A := -100) (B := p.toInt) rfl rfl).1 (by omega)), if_pos c2]; rfl
  rw [if_neg ((own_lt (A := -100) (B := p.toInt) rfl rfl).2 (by omega)), if_neg c2]
  by_cases c3 : -p.toInt < 1000
  ·rw [if_pos ((own_lt (A := -1000) (B := p.toInt) rfl rfl).1 (by omega)), if_pos c3]; rfl
  rw [if_neg ((own_lt (A := -1000) (B := p.toInt) rfl rfl).2 (by omega)), if_neg c3]
  by_cases c4 : -p.toInt < 10000
  ·rw [if_pos ((own_lt (A := -10000) (B := p.toInt) rfl rfl).1 (by omega)), if_pos c4]; rfl
  rw [if_neg ((own_lt (A := -10000) (B := p.toInt) rfl rfl).2 (by omega)), if_neg c4]
  by_cases c5 : -p.toInt < 100000
  ·rw [if_pos ((own_lt (A := -100000) (B := p.toInt) rfl rfl).1 (by omega)), if_pos c5]; rfl
  rw [if_neg ((own_lt (A := -100000) (B := p.toInt) rfl rfl).2 (by omega)), if_neg c5]
  by_cases c6 : -p.toInt < 1000000
  ·rw [if_pos ((own_lt (A := -1000000) (B := p.toInt) rfl rfl).1 (by omega)), if_pos c6]; rfl
  rw [if_neg ((own_lt (A := -1000000) (B := p.toInt) rfl rfl).2 (by omega)), if_neg c6]
  by_cases c7 : -p.toInt < 10000000
  ·rw [if_pos ((own_lt (A := -10000000) (B := p.toInt) rfl rfl).1 (by omega)), if_pos c7]; rfl
  rw [if_neg ((own_lt (A := -10000000) (B := p.toInt) rfl rfl).2 (by omega)), if_neg c7]
  by_cases c8 : -p.toInt < 100000000
  ·rw [if_pos ((own_lt (A := -100000000) (B := p.toInt) rfl rfl).1 (by omega)), if_pos c8]; rfl
  rw [if_neg ((own_lt (A := -100000000) (B := p.toInt) rfl rfl).2 (by omega)), if_neg c8]
  by_cases c9 : -p.toInt < 1000000000
  ·rw [if_pos ((own_lt (A := -1000000000) (B := p.toInt) rfl rfl).1 (by omega)), if_pos c9]; rfl
  rw [if_neg ((own_lt (A := -1000000000) (B := p.toInt) rfl rfl).2 (by omega)), if_neg c9]
  rfl
 ·have s' : ¬ p.toInt < 0 := by rw [Int32.lt_iff_toInt_lt] at s; exact s
  have e : (-p).toInt = -p.toInt := own_neg rfl (by omega)
  have ea : own_abs p = p.toInt := by unfold own_abs; rw [if_neg s']
  rw [own_sizeI, ea, own_ngP s]
  unfold own_ss own_nd
  rw [if_neg s]
  by_cases c1 : p.toInt < 10
  ·rw [if_pos ((own_lt (A := -10) (B := -p.toInt) rfl e).1 (by omega)), if_pos c1]; rfl
  rw [if_neg ((own_lt (A := -10) (B := -p.toInt) rfl e).2 (by omega)), if_neg c1]
  by_cases c2 : p.toInt < 100
  ·rw [if_pos ((own_lt (A := -100) (B := -p.toInt) rfl e).1 (by omega)), if_pos c2]; rfl
  rw [if_neg ((own_lt (A := -100) (B := -p.toInt) rfl e).2 (by omega)), if_neg c2]
  by_cases c3 : p.toInt < 1000
  ·rw [if_pos ((own_lt (A := -1000) (B := -p.toInt) rfl e).1 (by omega)), if_pos c3]; rfl
  rw [if_neg ((own_lt (A := -1000) (B := -p.toInt) rfl e).2 (by omega)), if_neg c3]
  by_cases c4 : p.toInt < 10000
  ·rw [if_pos ((own_lt (A := -10000) (B := -p.toInt) rfl e).1 (by omega)), if_pos c4]; rfl
  rw [if_neg ((own_lt (A := -10000) (B := -p.toInt) rfl e).2 (by omega)), if_neg c4]
  by_cases c5 : p.toInt < 100000
  ·rw [if_pos ((own_lt (A := -100000) (B := -p.toInt) rfl e).1 (by omega)), if_pos c5]; rfl
  rw [if_neg ((own_lt (A := -100000) (B := -p.toInt) rfl e).2 (by omega)), if_neg c5]
  by_cases c6 : p.toInt < 1000000
  ·rw [if_pos ((own_lt (A := -1000000) (B := -p.toInt) rfl e).1 (by omega)), if_pos c6]; rfl
  rw [if_neg ((own_lt (A := -1000000) (B := -p.toInt) rfl e).2 (by omega)), if_neg c6]
  by_cases c7 : p.toInt < 10000000
  ·rw [if_pos ((own_lt (A := -10000000) (B := -p.toInt) rfl e).1 (by omega)), if_pos c7]; rfl
  rw [if_neg ((own_lt (A := -10000000) (B := -p.toInt) rfl e).2 (by omega)), if_neg c7]
  by_cases c8 : p.toInt < 100000000
  ·rw [if_pos ((own_lt (A := -100000000) (B := -p.toInt) rfl e).1 (by omega)), if_pos c8]; rfl
  rw [if_neg ((own_lt (A := -100000000) (B := -p.toInt) rfl e).2 (by omega)), if_neg c8]
  by_cases c9 : p.toInt < 1000000000
  ·rw [if_pos ((own_lt (A := -1000000000) (B := -p.toInt) rfl e).1 (by omega)), if_pos c9]; rfl
  rw [if_neg ((own_lt (A := -1000000000) (B := -p.toInt) rfl e).2 (by omega)), if_neg c9]
  rfl
def Q_rm10 (Z : State) (a0 : Array Value) (p1 n2 : Int32) (a3 aO aT : Addr) (kO kT : ClassId) (vO vT : List Value) (dO dT : Value) (k3 : ClassId) (h0 : Heap) (n0 : Nat) (v : Option Value) (h : Heap) (L : List Loc) : Prop := v = some (.int (0 : Int32)) ∧ Fr n0 L ∧ Keep h0 h [a3] ∧ Arv Z h a3 k3 .byte (16 : Int32) (own_LI (own_pt p1 0) (16 : Int32)) (.int (0 : Int32))
abbrev D10 := decode jdk_33_method_12_code
theorem d10_22 : D10 22 = .ok (.iload_n 0, 1) := by decide +kernel
theorem d10_23 : D10 23 = .ok (.bipush (-100), 2) := by decide +kernel
theorem d10_25 : D10 25 = .ok (.if_icmp .gt 47, 3) := by decide +kernel
theorem d10_72 : D10 72 = .ok (.aload_n 2, 1) := by decide +kernel
theorem d10_73 : D10 73 = .ok (.iinc 5 (-1), 3) := by decide +kernel
theorem d10_76 : D10 76 = .ok (.iload 5, 2) := by decide +kernel
theorem d10_78 : D10 78 = .ok (.getstatic 83, 3) := by decide +kernel
theorem d10_81 : D10 81 = .ok (.iload_n 0, 1) := by decide +kernel
theorem d10_82 : D10 82 = .ok (.ineg, 1) := by decide +kernel
theorem d10_83 : D10 83 = .ok (.baload, 1) := by decide +kernel
theorem d10_84 : D10 84 = .ok (.bastore, 1) := by decide +kernel
theorem d10_85 : D10 85 = .ok (.iload_n 0, 1) := by decide +kernel
theorem d10_86 : D10 86 = .ok (.bipush (-9), 2) := by decide +kernel
theorem d10_88 : D10 88 = .ok (.if_icmp .ge 16, 3) := by decide +kernel
theorem d10_91 : D10 91 = .ok (.aload_n 2, 1) := by decide +kernel
theorem d10_92 : D10 92 = .ok (.iinc 5 (-1), 3) := by decide +kernel
theorem d10_95 : D10 95 = .ok (.iload 5, 2) := by decide +kernel
theorem d10_97 : D10 97 = .ok (.getstatic 87, 3) := by decide +kernel
theorem d10_100 : D10 100 = .ok (.iload_n 0, 1) := by decide +kernel
theorem d10_101 : D10 101 = .ok (.ineg, 1) := by decide +kernel
theorem d10_102 : D10 102 = .ok (.baload, 1) := by decide +kernel
theorem d10_103 : D10 103 = .ok (.bastore, 1) := by decide +kernel
theorem d10_104 : D10 104 = .ok (.iload 6, 2) := by decide +kernel
theorem d10_106 : D10 106 = .ok (.ifCond .eq 12, 3) := by decide +kernel
theorem d10_118 : D10 118 = .ok (.iload 5, 2) := by decide +kernel
theorem d10_120 : D10 120 = .ok (.ireturn, 1) := by decide +kernel
theorem d10_109 : D10 109 = .ok (.aload_n 2, 1) := by decide +kernel
theorem d10_110 : D10 110 = .ok (.iinc 5 (-1), 3) := by decide +kernel
theorem d10_113 : D10 113 = .ok (.iload 5, 2) := by decide +kernel
theorem d10_115 : D10 115 = .ok (.bipush 45, 2) := by decide +kernel
theorem d10_117 : D10 117 = .ok (.bastore, 1) := by decide +kernel
theorem d10_28 : D10 28 = .ok (.iload_n 0, 1) := by decide +kernel
theorem d10_29 : D10 29 = .ok (.bipush 100, 2) := by decide +kernel
theorem d10_31 : D10 31 = .ok (.idiv, 1) := by decide +kernel
theorem d10_32 : D10 32 = .ok (.istore_n 3, 1) := by decide +kernel
theorem d10_33 : D10 33 = .ok (.iload_n 3, 1) := by decide +kernel
theorem d10_34 : D10 34 = .ok (.bipush 100, 2) := by decide +kernel
theorem d10_36 : D10 36 = .ok (.imul, 1) := by decide +kernel
theorem d10_37 : D10 37 = .ok (.iload_n 0, 1) := by decide +kernel
theorem d10_38 : D10 38 = .ok (.isub, 1) := by decide +kernel
theorem d10_39 : D10 39 = .ok (.istore 4, 2) := by decide +kernel
theorem d10_41 : D10 41 = .ok (.iload_n 3, 1) := by decide +kernel
theorem d10_42 : D10 42 = .ok (.istore_n 0, 1) := by decide +kernel
theorem d10_43 : D10 43 = .ok (.aload_n 2, 1) := by decide +kernel
theorem d10_44 : D10 44 = .ok (.iinc 5 (-1), 3) := by decide +kernel
theorem d10_47 : D10 47 = .ok (.iload 5, 2) := by decide +kernel
theorem d10_49 : D10 49 = .ok (.getstatic 83, 3) := by decide +kernel
theorem d10_52 : D10 52 = .ok (.iload 4, 2) := by decide +kernel
theorem d10_54 : D10 54 = .ok (.baload, 1) := by decide +kernel
theorem d10_55 : D10 55 = .ok (.bastore, 1) := by decide +kernel
theorem d10_56 : D10 56 = .ok (.aload_n 2, 1) := by decide +kernel
theorem d10_57 : D10 57 = .ok (.iinc 5 (-1), 3) := by decide +kernel
theorem d10_60 : D10 60 = .ok (.iload 5, 2) := by decide +kernel
theorem d10_62 : D10 62 = .ok (.getstatic 87, 3) := by decide +kernel
theorem d10_65 : D10 65 = .ok (.iload 4, 2) := by decide +kernel
theorem d10_67 : D10 67 = .ok (.baload, 1) := by decide +kernel
theorem d10_68 : D10 68 = .ok (.bastore, 1) := by decide +kernel
theorem d10_69 : D10 69 = .ok (.goto (-47), 3) := by decide +kernel
theorem own_gcl {p : Program} {l : Launch} {e : Env} {s : State} {m : MethodId} {below : List Frame} {meth : Method} {c : Code} {Z : State} {a0 : Array Value} {h0 : Heap} {n0 : Nat} (p1 n2 : Int32) (a3 aO aT : Addr) (kO kT : ClassId) (vO vT : List Value) (dO dT : Value) (k3 : ClassId) (hO : ∀ j : Int32, ¬ j < 0 → j < (100 : Int32) → vO.getD j.toNatClampNeg dO = .int (own_one j)) (hT : ∀ j : Int32, ¬ j < 0 → j < (100 : Int32) → vT.getD j.toNatClampNeg dT = .int (own_ten j)) (nO : aO ≠ a3) (nT : aT ≠ a3) (hn2 : n2 = own_size p1)
  (hx : p.tables.exec = Jvm.exec) (hZ : Z.Warmed39 s.vm) (hw : HW a0 Z) (hby : c.code = jdk_33_method_12_code) (hml : c.maxLocals = 7) (hown : s.vm.findClass "java/lang/Integer" = some m.cls) (hret : meth.sig.returnType = some .int) (hlk : meth.locks = false) :
  ∀ (fuel : Nat) (T : State) (locs : List Loc) (h : Heap) (i : Int32) (cp : Int32) (ngv : Int32) (s3 : Slot) (s4 : Slot) (X : Stand p l e (R_ 0 0 0 0) s m #[(.int p1), (.int n2), (.ref a3)] below meth c T locs 0 0) (eT : T.heap = h) (NF : Fr n0 locs) (Zh : n0 ≤ h.size) (Kh : Keep h0 h [a3]) (SO : Sta Z h "java/lang/Integer" "DigitOnes" "[B" (.ref aO)) (ST : Sta Z h "java/lang/Integer" "DigitTens" "[B" (.ref aT)) (VO : Arv Z h aO kO .byte (100 : Int32) vO dO) (VT : Arv Z h aT kT .byte (100 : Int32) vT dT) (V3 : Arv Z h a3 k3 .byte (16 : Int32) (own_LI (own_pt p1 cp.toInt) (16 : Int32)) (.int (0 : Int32))) (g3 : n0 ≤ a3) (Hi : own_inv p1 i cp) (hg0 : ngv = (0 : Int32) → own_ng p1 = 0) (hg1 : ¬ ngv = (0 : Int32) → own_ng p1 = 1) (ho3 : own_O s3) (ho4 : own_O s4) (hfu : -i.toInt < (fuel : Int)), own_Go p.tables e below (own_P s (Q_rm10 Z a0 p1 n2 a3 aO aT kO kT vO vT dO dT k3 h0 n0) (R_ 0 0 0 0)) (T.setTop (mkF m 22 #[iv i, iv n2, rv a3, s3, s4, iv cp, iv ngv] [])) := by
 intro fuel
 induction fuel with
 | zero => intro T locs h i cp ngv s3 s4 X eT NF Zh Kh SO ST VO VT V3 g3 Hi hg0 hg1 ho3 ho4 hfu; exact (show False by have := Hi.2.2.2.1; omega).elim
 | succ fuel ih =>
  intro T locs h i cp ngv s3 s4 X eT NF Zh Kh SO ST VO VT V3 g3 Hi hg0 hg1 ho3 ho4 hfu
  have Hq := And.intro hx hby
  have hrt := hret
  refine o_iloadN X Hq d10_22 rfl (o_bipush X Hq (-100) d10_23 rfl ?_)
  by_cases hc25__1 : (-100 : Int32) < i
  ·refine o_icmpYes X Hq (pc' := 72) d10_25 (tlt hc25__1).2.2.1 (o_aloadN X Hq d10_72 rfl rfl (o_iinc X Hq d10_73 rfl (l' := #[iv i, iv n2, rv a3, s3, s4, iv (cp + (-1 : Int32)), iv ngv]) rfl (o_iload X Hq d10_76 rfl ?_)))
   obtain ⟨T_2, X_2, e_2, st_2⟩ := getS2 X hx hZ hown (host := "") (Or.inl (w_ hw 55 rfl)) Via.refl eT SO (g := (mkF m 78 #[iv i, iv n2, rv a3, s3, s4, iv (cp + (-1 : Int32)), iv ngv] [(.int (cp + (-1 : Int32))), (.ref a3)])) rfl (hb hby d10_78)
   refine own_st st_2 ?_
   show own_Go _ _ _ _ (T_2.setTop (mkF m 81 #[iv i, iv n2, rv a3, s3, s4, iv (cp + (-1 : Int32)), iv ngv] [(.ref aO), (.int (cp + (-1 : Int32))), (.ref a3)]))
   refine o_iloadN X_2 Hq d10_81 rfl (o_ineg X_2 Hq d10_82 ?_)
   obtain ⟨cl_3, Ar_3, qk_3, Sz_3, Ng_3, Hs_3, Gs_3⟩ := id VO
   refine own_st (X_2.baloadBytes hx (j := (-i)) (v := (.int (own_one (-i)))) (by rw [e_2]; exact Ar_3.1) (State.isArrayOf_alike hZ.alike Ar_3.2.1) Ar_3.2.2 (inb_of Sz_3 ⟨(own_inx (own_rE Hi (own_lt100 hc25__1))).1, (own_inx (own_rE Hi (own_lt100 hc25__1))).2⟩) (Hs_3.at (j := (-i)) (inb_of Sz_3 ⟨(own_inx (own_rE Hi (own_lt100 hc25__1))).1, (own_inx (own_rE Hi (own_lt100 hc25__1))).2⟩) (hO _ (own_inx (own_rE Hi (own_lt100 hc25__1))).1 (own_inx (own_rE Hi (own_lt100 hc25__1))).2)) (g := (mkF m 83 #[iv i, iv n2, rv a3, s3, s4, iv (cp + (-1 : Int32)), iv ngv] [(.int (-i)), (.ref aO), (.int (cp + (-1 : Int32))), (.ref a3)])) rfl rfl (hb hby d10_83)) ?_
   show own_Go _ _ _ _ (T_2.setTop (mkF m 84 #[iv i, iv n2, rv a3, s3, s4, iv (cp + (-1 : Int32)), iv ngv] [(.int (own_one (-i))), (.int (cp + (-1 : Int32))), (.ref a3)]))
   obtain ⟨cl_4, Ar_4, qk_4, Sz_4, Ng_4, Hs_4, Gs_4⟩ := id V3
   obtain ⟨T_5, h_5, X_5, e_5, W_5, st_5⟩ := stB X_2 hx hZ e_2 Ar_4 (j := (cp + (-1 : Int32))) (inb_of Sz_4 ⟨(own_b16 (own_a1 Hi)).1, (own_b16 (own_a1 Hi)).2⟩) (g := (mkF m 84 #[iv i, iv n2, rv a3, s3, s4, iv (cp + (-1 : Int32)), iv ngv] [(.int (own_one (-i))), (.int (cp + (-1 : Int32))), (.ref a3)])) rfl rfl (hb hby d10_84)
   refine own_st st_5 ?_
   have V_5 : Arv Z h_5 a3 k3 .byte (16 : Int32) (own_LI (own_pt p1 (cp + (-1 : Int32)).toInt) (16 : Int32)) (.int (0 : Int32)) := by have q := Arv.set Ar_4 qk_4 Sz_4 Ng_4 Hs_4 Gs_4 (fits_nar_byte _) W_5 (cp + (-1 : Int32)).toNatClampNeg rfl (own_LI_lt (own_b16 (own_a1 Hi)).1 (own_b16 (own_a1 Hi)).2); rw [own_LI_set, own_ptS (own_a1 Hi).1 (own_a1 Hi).2 rfl (own_v1 Hi (own_rE Hi (own_lt100 hc25__1)))] at q; exact q
   have N_5 := Fr.snoc X_5 NF g3
   show own_Go _ _ _ _ (T_5.setTop (mkF m 85 #[iv i, iv n2, rv a3, s3, s4, iv (cp + (-1 : Int32)), iv ngv] []))
   refine o_iloadN X_5 Hq d10_85 rfl (o_bipush X_5 Hq (-9) d10_86 rfl ?_)
   by_cases hc88__6 : i < (-9 : Int32)
   ·refine o_icmpNo X_5 Hq d10_88 (tlt hc88__6).2.1 (o_aloadN X_5 Hq d10_91 rfl rfl (o_iinc X_5 Hq d10_92 rfl (l' := #[iv i, iv n2, rv a3, s3, s4, iv ((cp + (-1 : Int32)) + (-1 : Int32)), iv ngv]) rfl (o_iload X_5 Hq d10_95 rfl ?_)))
    have Fa_7 := (ST.wr W_5)
    obtain ⟨T_8, X_8, e_8, st_8⟩ := getS2 X_5 hx hZ hown (host := "") (Or.inl (w_ hw 194 rfl)) Via.refl e_5 Fa_7 (g := (mkF m 97 #[iv i, iv n2, rv a3, s3, s4, iv ((cp + (-1 : Int32)) + (-1 : Int32)), iv ngv] [(.int ((cp + (-1 : Int32)) + (-1 : Int32))), (.ref a3)])) rfl (hb hby d10_97)
    refine own_st st_8 ?_
    show own_Go _ _ _ _ (T_8.setTop (mkF m 100 #[iv i, iv n2, rv a3, s3, s4, iv ((cp + (-1 : Int32)) + (-1 : Int32)), iv ngv] [(.ref aT), (.int ((cp + (-1 : Int32)) + (-1 : Int32))), (.ref a3)]))
    refine o_iloadN X_8 Hq d10_100 rfl (o_ineg X_8 Hq d10_101 ?_)
    have Fa_9 := (VT.other W_5 nT)
    obtain ⟨cl_10, Ar_10, qk_10, Sz_10, Ng_10, Hs_10, Gs_10⟩ := id Fa_9
    refine own_st (X_8.baloadBytes hx (j := (-i)) (v := (.int (own_ten (-i)))) (by rw [e_8]; exact Ar_10.1) (State.isArrayOf_alike hZ.alike Ar_10.2.1) Ar_10.2.2 (inb_of Sz_10 ⟨(own_inx (own_rE Hi (own_lt100 hc25__1))).1, (own_inx (own_rE Hi (own_lt100 hc25__1))).2⟩) (Hs_10.at (j := (-i)) (inb_of Sz_10 ⟨(own_inx (own_rE Hi (own_lt100 hc25__1))).1, (own_inx (own_rE Hi (own_lt100 hc25__1))).2⟩) (hT _ (own_inx (own_rE Hi (own_lt100 hc25__1))).1 (own_inx (own_rE Hi (own_lt100 hc25__1))).2)) (g := (mkF m 102 #[iv i, iv n2, rv a3, s3, s4, iv ((cp + (-1 : Int32)) + (-1 : Int32)), iv ngv] [(.int (-i)), (.ref aT), (.int ((cp + (-1 : Int32)) + (-1 : Int32))), (.ref a3)])) rfl rfl (hb hby d10_102)) ?_
    show own_Go _ _ _ _ (T_8.setTop (mkF m 103 #[iv i, iv n2, rv a3, s3, s4, iv ((cp + (-1 : Int32)) + (-1 : Int32)), iv ngv] [(.int (own_ten (-i))), (.int ((cp + (-1 : Int32)) + (-1 : Int32))), (.ref a3)]))
    obtain ⟨cl_11, Ar_11, qk_11, Sz_11, Ng_11, Hs_11, Gs_11⟩ := id V_5
    obtain ⟨T_12, h_12, X_12, e_12, W_12, st_12⟩ := stB X_8 hx hZ e_8 Ar_11 (j := ((cp + (-1 : Int32)) + (-1 : Int32))) (inb_of Sz_11 ⟨(own_b16 (own_b1 Hi (own_lt9 hc88__6))).1, (own_b16 (own_b1 Hi (own_lt9 hc88__6))).2⟩) (g := (mkF m 103 #[iv i, iv n2, rv a3, s3, s4, iv ((cp + (-1 : Int32)) + (-1 : Int32)), iv ngv] [(.int (own_ten (-i))), (.int ((cp + (-1 : Int32)) + (-1 : Int32))), (.ref a3)])) rfl rfl (hb hby d10_103)
    refine own_st st_12 ?_
    have V_12 : Arv Z h_12 a3 k3 .byte (16 : Int32) (own_LI (own_pt p1 ((cp + (-1 : Int32)) + (-1 : Int32)).toInt) (16 : Int32)) (.int (0 : Int32)) := by have q := Arv.set Ar_11 qk_11 Sz_11 Ng_11 Hs_11 Gs_11 (fits_nar_byte _) W_12 ((cp + (-1 : Int32)) + (-1 : Int32)).toNatClampNeg rfl (own_LI_lt (own_b16 (own_b1 Hi (own_lt9 hc88__6))).1 (own_b16 (own_b1 Hi (own_lt9 hc88__6))).2); rw [own_LI_set, own_ptS (own_b1 Hi (own_lt9 hc88__6)).1 (own_b1 Hi (own_lt9 hc88__6)).2 rfl (own_w1 Hi (own_rE Hi (own_lt100 hc25__1)))] at q; exact q
    have N_12 := Fr.snoc X_12 N_5 g3
    show own_Go _ _ _ _ (T_12.setTop (mkF m 104 #[iv i, iv n2, rv a3, s3, s4, iv ((cp + (-1 : Int32)) + (-1 : Int32)), iv ngv] []))
    refine o_iload X_12 Hq d10_104 rfl ?_
    by_cases hc106__13 : ngv = (0 : Int32)
    ·refine o_ifYes X_12 Hq (pc' := 118) d10_106 (teq hc106__13).1 (o_iload X_12 Hq d10_118 rfl ?_)
     have z_14 := (own_is0 ((own_c2 Hi hc88__6 (own_lt100 hc25__1)).trans (hg0 hc106__13)))
     have y_14 : Arv Z h_12 a3 k3 .byte (16 : Int32) (own_LI (own_pt p1 0) (16 : Int32)) (.int (0 : Int32)) := by have q := V_12; rw [z_14] at q; exact q
     have Kp_15 : Keep h0 h_12 [a3] := ((Kh.wr W_5 (Or.inl (List.mem_of_getElem? (i := 0) rfl))).wr W_12 (Or.inl (List.mem_of_getElem? (i := 0) rfl)))
     exact e_I X_12 e_12 Hq hlk hrt d10_120 ⟨(congrArg (fun z => some (Value.int z)) z_14), N_12, Kp_15, y_14⟩
    ·refine o_ifNo X_12 Hq d10_106 (feq hc106__13).1 (o_aloadN X_12 Hq d10_109 rfl rfl (o_iinc X_12 Hq d10_110 rfl (l' := #[iv i, iv n2, rv a3, s3, s4, iv (((cp + (-1 : Int32)) + (-1 : Int32)) + (-1 : Int32)), iv ngv]) rfl (o_iload X_12 Hq d10_113 rfl (o_bipush X_12 Hq 45 d10_115 rfl ?_))))
     obtain ⟨cl_16, Ar_16, qk_16, Sz_16, Ng_16, Hs_16, Gs_16⟩ := id V_12
     obtain ⟨T_17, h_17, X_17, e_17, W_17, st_17⟩ := stB X_12 hx hZ e_12 Ar_16 (j := (((cp + (-1 : Int32)) + (-1 : Int32)) + (-1 : Int32))) (inb_of Sz_16 ⟨(own_b16' ((own_c2 Hi hc88__6 (own_lt100 hc25__1)).trans (hg1 hc106__13))).1, (own_b16' ((own_c2 Hi hc88__6 (own_lt100 hc25__1)).trans (hg1 hc106__13))).2⟩) (g := (mkF m 117 #[iv i, iv n2, rv a3, s3, s4, iv (((cp + (-1 : Int32)) + (-1 : Int32)) + (-1 : Int32)), iv ngv] [(.int 45), (.int (((cp + (-1 : Int32)) + (-1 : Int32)) + (-1 : Int32))), (.ref a3)])) rfl rfl (hb hby d10_117)
     refine own_st st_17 ?_
     have V_17 : Arv Z h_17 a3 k3 .byte (16 : Int32) (own_LI (own_pt p1 (((cp + (-1 : Int32)) + (-1 : Int32)) + (-1 : Int32)).toInt) (16 : Int32)) (.int (0 : Int32)) := by have q := Arv.set Ar_16 qk_16 Sz_16 Ng_16 Hs_16 Gs_16 (by decide) W_17 (((cp + (-1 : Int32)) + (-1 : Int32)) + (-1 : Int32)).toNatClampNeg rfl (own_LI_lt (own_b16' ((own_c2 Hi hc88__6 (own_lt100 hc25__1)).trans (hg1 hc106__13))).1 (own_b16' ((own_c2 Hi hc88__6 (own_lt100 hc25__1)).trans (hg1 hc106__13))).2); rw [own_LI_set] at q; exact own_Arv_cg (own_ptM (hg1 hc106__13) ((own_c2 Hi hc88__6 (own_lt100 hc25__1)).trans (hg1 hc106__13))) q
     have N_17 := Fr.snoc X_17 N_12 g3
     show own_Go _ _ _ _ (T_17.setTop (mkF m 118 #[iv i, iv n2, rv a3, s3, s4, iv (((cp + (-1 : Int32)) + (-1 : Int32)) + (-1 : Int32)), iv ngv] []))
     refine o_iload X_17 Hq d10_118 rfl ?_
     have z_18 := (own_is0m ((own_c2 Hi hc88__6 (own_lt100 hc25__1)).trans (hg1 hc106__13)))
     have y_18 : Arv Z h_17 a3 k3 .byte (16 : Int32) (own_LI (own_pt p1 0) (16 : Int32)) (.int (0 : Int32)) := by have q := V_17; rw [z_18] at q; exact q
     have Kp_19 : Keep h0 h_17 [a3] := (((Kh.wr W_5 (Or.inl (List.mem_of_getElem? (i := 0) rfl))).wr W_12 (Or.inl (List.mem_of_getElem? (i := 0) rfl))).wr W_17 (Or.inl (List.mem_of_getElem? (i := 0) rfl)))
     exact e_I X_17 e_17 Hq hlk hrt d10_120 ⟨(congrArg (fun z => some (Value.int z)) z_18), N_17, Kp_19, y_18⟩
   ·refine o_icmpYes X_5 Hq (pc' := 104) d10_88 (flt hc88__6).2.1 (o_iload X_5 Hq d10_104 rfl ?_)
    by_cases hc106__20 : ngv = (0 : Int32)
    ·refine o_ifYes X_5 Hq (pc' := 118) d10_106 (teq hc106__20).1 (o_iload X_5 Hq d10_118 rfl ?_)
     have z_21 := (own_is0 ((own_c1 Hi hc88__6).trans (hg0 hc106__20)))
     have y_21 : Arv Z h_5 a3 k3 .byte (16 : Int32) (own_LI (own_pt p1 0) (16 : Int32)) (.int (0 : Int32)) := by have q := V_5; rw [z_21] at q; exact q
     have Kp_22 : Keep h0 h_5 [a3] := (Kh.wr W_5 (Or.inl (List.mem_of_getElem? (i := 0) rfl)))
     exact e_I X_5 e_5 Hq hlk hrt d10_120 ⟨(congrArg (fun z => some (Value.int z)) z_21), N_5, Kp_22, y_21⟩
    ·refine o_ifNo X_5 Hq d10_106 (feq hc106__20).1 (o_aloadN X_5 Hq d10_109 rfl rfl (o_iinc X_5 Hq d10_110 rfl (l' := #[iv i, iv n2, rv a3, s3, s4, iv ((cp + (-1 : Int32)) + (-1 : Int32)), iv ngv]) rfl (o_iload X_5 Hq d10_113 rfl (o_bipush X_5 Hq 45 d10_115 rfl ?_))))
     obtain ⟨cl_23, Ar_23, qk_23, Sz_23, Ng_23, Hs_23, Gs_23⟩ := id V_5
     obtain ⟨T_24, h_24, X_24, e_24, W_24, st_24⟩ := stB X_5 hx hZ e_5 Ar_23 (j := ((cp + (-1 : Int32)) + (-1 : Int32))) (inb_of Sz_23 ⟨(own_b16' ((own_c1 Hi hc88__6).trans (hg1 hc106__20))).1, (own_b16' ((own_c1 Hi hc88__6).trans (hg1 hc106__20))).2⟩) (g := (mkF m 117 #[iv i, iv n2, rv a3, s3, s4, iv ((cp + (-1 : Int32)) + (-1 : Int32)), iv ngv] [(.int 45), (.int ((cp + (-1 : Int32)) + (-1 : Int32))), (.ref a3)])) rfl rfl (hb hby d10_117)
     refine own_st st_24 ?_
     have V_24 : Arv Z h_24 a3 k3 .byte (16 : Int32) (own_LI (own_pt p1 ((cp + (-1 : Int32)) + (-1 : Int32)).toInt) (16 : Int32)) (.int (0 : Int32)) := by have q := Arv.set Ar_23 qk_23 Sz_23 Ng_23 Hs_23 Gs_23 (by decide) W_24 ((cp + (-1 : Int32)) + (-1 : Int32)).toNatClampNeg rfl (own_LI_lt (own_b16' ((own_c1 Hi hc88__6).trans (hg1 hc106__20))).1 (own_b16' ((own_c1 Hi hc88__6).trans (hg1 hc106__20))).2); rw [own_LI_set] at q; exact own_Arv_cg (own_ptM (hg1 hc106__20) ((own_c1 Hi hc88__6).trans (hg1 hc106__20))) q
     have N_24 := Fr.snoc X_24 N_5 g3
     show own_Go _ _ _ _ (T_24.setTop (mkF m 118 #[iv i, iv n2, rv a3, s3, s4, iv ((cp + (-1 : Int32)) + (-1 : Int32)), iv ngv] []))
     refine o_iload X_24 Hq d10_118 rfl ?_
     have z_25 := (own_is0m ((own_c1 Hi hc88__6).trans (hg1 hc106__20)))
     have y_25 : Arv Z h_24 a3 k3 .byte (16 : Int32) (own_LI (own_pt p1 0) (16 : Int32)) (.int (0 : Int32)) := by have q := V_24; rw [z_25] at q; exact q
     have Kp_26 : Keep h0 h_24 [a3] := ((Kh.wr W_5 (Or.inl (List.mem_of_getElem? (i := 0) rfl))).wr W_24 (Or.inl (List.mem_of_getElem? (i := 0) rfl)))
     exact e_I X_24 e_24 Hq hlk hrt d10_120 ⟨(congrArg (fun z => some (Value.int z)) z_25), N_24, Kp_26, y_25⟩
  ·refine o_icmpNo X Hq d10_25 (flt hc25__1).2.2.1 (o_iloadN X Hq d10_28 rfl (o_bipush X Hq 100 d10_29 rfl (o_idiv X Hq d10_31 (by decide) (o_istoreN X Hq d10_32 (l' := #[iv i, iv n2, rv a3, iv (i / (100 : Int32)), s4, iv cp, iv ngv]) (own_sto ho3 rfl rfl) (o_iloadN X Hq d10_33 rfl (o_bipush X Hq 100 d10_34 rfl (o_imul X Hq d10_36 (o_iloadN X Hq d10_37 rfl (o_isub X Hq d10_38 (o_istore X Hq d10_39 (l' := #[iv i, iv n2, rv a3, iv (i / (100 : Int32)), iv (((i / (100 : Int32)) * (100 : Int32)) - i), iv cp, iv ngv]) (own_sto ho4 rfl rfl) (o_iloadN X Hq d10_41 rfl (o_istoreN X Hq d10_42 (l' := #[iv (i / (100 : Int32)), iv n2, rv a3, iv (i / (100 : Int32)), iv (((i / (100 : Int32)) * (100 : Int32)) - i), iv cp, iv ngv]) rfl (o_aloadN X Hq d10_43 rfl rfl (o_iinc X Hq d10_44 rfl (l' := #[iv (i / (100 : Int32)), iv n2, rv a3, iv (i / (100 : Int32)), iv (((i / (100 : Int32)) * (100 : Int32)) - i), iv (cp + (-1 : Int32)), iv ngv]) rfl (o_iload X Hq d10_47 rfl ?_)))))))))))))))
   obtain ⟨T_27, X_27, e_27, st_27⟩ := getS2 X hx hZ hown (host := "") (Or.inl (w_ hw 55 rfl)) Via.refl eT SO (g := (mkF m 49 #[iv (i / (100 : Int32)), iv n2, rv a3, iv (i / (100 : Int32)), iv (((i / (100 : Int32)) * (100 : Int32)) - i), iv (cp + (-1 : Int32)), iv ngv] [(.int (cp + (-1 : Int32))), (.ref a3)])) rfl (hb hby d10_49)
   refine own_st st_27 ?_
   show own_Go _ _ _ _ (T_27.setTop (mkF m 52 #[iv (i / (100 : Int32)), iv n2, rv a3, iv (i / (100 : Int32)), iv (((i / (100 : Int32)) * (100 : Int32)) - i), iv (cp + (-1 : Int32)), iv ngv] [(.ref aO), (.int (cp + (-1 : Int32))), (.ref a3)]))
   refine o_iload X_27 Hq d10_52 rfl ?_
   obtain ⟨cl_28, Ar_28, qk_28, Sz_28, Ng_28, Hs_28, Gs_28⟩ := id VO
   refine own_st (X_27.baloadBytes hx (j := (((i / (100 : Int32)) * (100 : Int32)) - i)) (v := (.int (own_one (((i / (100 : Int32)) * (100 : Int32)) - i)))) (by rw [e_27]; exact Ar_28.1) (State.isArrayOf_alike hZ.alike Ar_28.2.1) Ar_28.2.2 (inb_of Sz_28 ⟨(own_inx (own_rI Hi)).1, (own_inx (own_rI Hi)).2⟩) (Hs_28.at (j := (((i / (100 : Int32)) * (100 : Int32)) - i)) (inb_of Sz_28 ⟨(own_inx (own_rI Hi)).1, (own_inx (own_rI Hi)).2⟩) (hO _ (own_inx (own_rI Hi)).1 (own_inx (own_rI Hi)).2)) (g := (mkF m 54 #[iv (i / (100 : Int32)), iv n2, rv a3, iv (i / (100 : Int32)), iv (((i / (100 : Int32)) * (100 : Int32)) - i), iv (cp + (-1 : Int32)), iv ngv] [(.int (((i / (100 : Int32)) * (100 : Int32)) - i)), (.ref aO), (.int (cp + (-1 : Int32))), (.ref a3)])) rfl rfl (hb hby d10_54)) ?_
   show own_Go _ _ _ _ (T_27.setTop (mkF m 55 #[iv (i / (100 : Int32)), iv n2, rv a3, iv (i / (100 : Int32)), iv (((i / (100 : Int32)) * (100 : Int32)) - i), iv (cp + (-1 : Int32)), iv ngv] [(.int (own_one (((i / (100 : Int32)) * (100 : Int32)) - i))), (.int (cp + (-1 : Int32))), (.ref a3)]))
   obtain ⟨cl_29, Ar_29, qk_29, Sz_29, Ng_29, Hs_29, Gs_29⟩ := id V3
   obtain ⟨T_30, h_30, X_30, e_30, W_30, st_30⟩ := stB X_27 hx hZ e_27 Ar_29 (j := (cp + (-1 : Int32))) (inb_of Sz_29 ⟨(own_b16 (own_a1 Hi)).1, (own_b16 (own_a1 Hi)).2⟩) (g := (mkF m 55 #[iv (i / (100 : Int32)), iv n2, rv a3, iv (i / (100 : Int32)), iv (((i / (100 : Int32)) * (100 : Int32)) - i), iv (cp + (-1 : Int32)), iv ngv] [(.int (own_one (((i / (100 : Int32)) * (100 : Int32)) - i))), (.int (cp + (-1 : Int32))), (.ref a3)])) rfl rfl (hb hby d10_55)
   refine own_st st_30 ?_
   have V_30 : Arv Z h_30 a3 k3 .byte (16 : Int32) (own_LI (own_pt p1 (cp + (-1 : Int32)).toInt) (16 : Int32)) (.int (0 : Int32)) := by have q := Arv.set Ar_29 qk_29 Sz_29 Ng_29 Hs_29 Gs_29 (fits_nar_byte _) W_30 (cp + (-1 : Int32)).toNatClampNeg rfl (own_LI_lt (own_b16 (own_a1 Hi)).1 (own_b16 (own_a1 Hi)).2); rw [own_LI_set, own_ptS (own_a1 Hi).1 (own_a1 Hi).2 rfl (own_v1 Hi (own_rI Hi))] at q; exact q
   have N_30 := Fr.snoc X_30 NF g3
   show own_Go _ _ _ _ (T_30.setTop (mkF m 56 #[iv (i / (100 : Int32)), iv n2, rv a3, iv (i / (100 : Int32)), iv (((i / (100 : Int32)) * (100 : Int32)) - i), iv (cp + (-1 : Int32)), iv ngv] []))
   refine o_aloadN X_30 Hq d10_56 rfl rfl (o_iinc X_30 Hq d10_57 rfl (l' := #[iv (i / (100 : Int32)), iv n2, rv a3, iv (i / (100 : Int32)), iv (((i / (100 : Int32)) * (100 : Int32)) - i), iv ((cp + (-1 : Int32)) + (-1 : Int32)), iv ngv]) rfl (o_iload X_30 Hq d10_60 rfl ?_))
   have Fa_31 := (ST.wr W_30)
   obtain ⟨T_32, X_32, e_32, st_32⟩ := getS2 X_30 hx hZ hown (host := "") (Or.inl (w_ hw 194 rfl)) Via.refl e_30 Fa_31 (g := (mkF m 62 #[iv (i / (100 : Int32)), iv n2, rv a3, iv (i / (100 : Int32)), iv (((i / (100 : Int32)) * (100 : Int32)) - i), iv ((cp + (-1 : Int32)) + (-1 : Int32)), iv ngv] [(.int ((cp + (-1 : Int32)) + (-1 : Int32))), (.ref a3)])) rfl (hb hby d10_62)
   refine own_st st_32 ?_
   show own_Go _ _ _ _ (T_32.setTop (mkF m 65 #[iv (i / (100 : Int32)), iv n2, rv a3, iv (i / (100 : Int32)), iv (((i / (100 : Int32)) * (100 : Int32)) - i), iv ((cp + (-1 : Int32)) + (-1 : Int32)), iv ngv] [(.ref aT), (.int ((cp + (-1 : Int32)) + (-1 : Int32))), (.ref a3)]))
   refine o_iload X_32 Hq d10_65 rfl ?_
   have Fa_33 := (VT.other W_30 nT)
   obtain ⟨cl_34, Ar_34, qk_34, Sz_34, Ng_34, Hs_34, Gs_34⟩ := id Fa_33
   refine own_st (X_32.baloadBytes hx (j := (((i / (100 : Int32)) * (100 : Int32)) - i)) (v := (.int (own_ten (((i / (100 : Int32)) * (100 : Int32)) - i)))) (by rw [e_32]; exact Ar_34.1) (State.isArrayOf_alike hZ.alike Ar_34.2.1) Ar_34.2.2 (inb_of Sz_34 ⟨(own_inx (own_rI Hi)).1, (own_inx (own_rI Hi)).2⟩) (Hs_34.at (j := (((i / (100 : Int32)) * (100 : Int32)) - i)) (inb_of Sz_34 ⟨(own_inx (own_rI Hi)).1, (own_inx (own_rI Hi)).2⟩) (hT _ (own_inx (own_rI Hi)).1 (own_inx (own_rI Hi)).2)) (g := (mkF m 67 #[iv (i / (100 : Int32)), iv n2, rv a3, iv (i / (100 : Int32)), iv (((i / (100 : Int32)) * (100 : Int32)) - i), iv ((cp + (-1 : Int32)) + (-1 : Int32)), iv ngv] [(.int (((i / (100 : Int32)) * (100 : Int32)) - i)), (.ref aT), (.int ((cp + (-1 : Int32)) + (-1 : Int32))), (.ref a3)])) rfl rfl (hb hby d10_67)) ?_
   show own_Go _ _ _ _ (T_32.setTop (mkF m 68 #[iv (i / (100 : Int32)), iv n2, rv a3, iv (i / (100 : Int32)), iv (((i / (100 : Int32)) * (100 : Int32)) - i), iv ((cp + (-1 : Int32)) + (-1 : Int32)), iv ngv] [(.int (own_ten (((i / (100 : Int32)) * (100 : Int32)) - i))), (.int ((cp + (-1 : Int32)) + (-1 : Int32))), (.ref a3)]))
   obtain ⟨cl_35, Ar_35, qk_35, Sz_35, Ng_35, Hs_35, Gs_35⟩ := id V_30
   obtain ⟨T_36, h_36, X_36, e_36, W_36, st_36⟩ := stB X_32 hx hZ e_32 Ar_35 (j := ((cp + (-1 : Int32)) + (-1 : Int32))) (inb_of Sz_35 ⟨(own_b16 (own_b1 Hi (Int.not_lt.mpr (Int.le_trans (by decide) (own_ge100 hc25__1))))).1, (own_b16 (own_b1 Hi (Int.not_lt.mpr (Int.le_trans (by decide) (own_ge100 hc25__1))))).2⟩) (g := (mkF m 68 #[iv (i / (100 : Int32)), iv n2, rv a3, iv (i / (100 : Int32)), iv (((i / (100 : Int32)) * (100 : Int32)) - i), iv ((cp + (-1 : Int32)) + (-1 : Int32)), iv ngv] [(.int (own_ten (((i / (100 : Int32)) * (100 : Int32)) - i))), (.int ((cp + (-1 : Int32)) + (-1 : Int32))), (.ref a3)])) rfl rfl (hb hby d10_68)
   refine own_st st_36 ?_
   have V_36 : Arv Z h_36 a3 k3 .byte (16 : Int32) (own_LI (own_pt p1 ((cp + (-1 : Int32)) + (-1 : Int32)).toInt) (16 : Int32)) (.int (0 : Int32)) := by have q := Arv.set Ar_35 qk_35 Sz_35 Ng_35 Hs_35 Gs_35 (fits_nar_byte _) W_36 ((cp + (-1 : Int32)) + (-1 : Int32)).toNatClampNeg rfl (own_LI_lt (own_b16 (own_b1 Hi (Int.not_lt.mpr (Int.le_trans (by decide) (own_ge100 hc25__1))))).1 (own_b16 (own_b1 Hi (Int.not_lt.mpr (Int.le_trans (by decide) (own_ge100 hc25__1))))).2); rw [own_LI_set, own_ptS (own_b1 Hi (Int.not_lt.mpr (Int.le_trans (by decide) (own_ge100 hc25__1)))).1 (own_b1 Hi (Int.not_lt.mpr (Int.le_trans (by decide) (own_ge100 hc25__1)))).2 rfl (own_w1 Hi (own_rI Hi))] at q; exact q
   have N_36 := Fr.snoc X_36 N_30 g3
   show own_Go _ _ _ _ (T_36.setTop (mkF m 69 #[iv (i / (100 : Int32)), iv n2, rv a3, iv (i / (100 : Int32)), iv (((i / (100 : Int32)) * (100 : Int32)) - i), iv ((cp + (-1 : Int32)) + (-1 : Int32)), iv ngv] []))
   refine o_goto X_36 Hq (pc' := 22) d10_69 ?_
   have Zs_37 : n0 ≤ h_36.size := (Nat.le_trans (Nat.le_trans Zh (Keep.of_wr W_30).1) (Keep.of_wr W_36).1)
   have Kp_38 : Keep h0 h_36 [a3] := ((Kh.wr W_30 (Or.inl (List.mem_of_getElem? (i := 0) rfl))).wr W_36 (Or.inl (List.mem_of_getElem? (i := 0) rfl)))
   have Fa_39 := ((SO.wr W_30).wr W_36)
   have Fa_40 := (Fa_31.wr W_36)
   have Fa_41 := ((VO.other W_30 nO).other W_36 nO)
   have Fa_42 := (Fa_33.other W_36 nT)
   exact ih T_36 _ h_36 (i / (100 : Int32)) ((cp + (-1 : Int32)) + (-1 : Int32)) ngv (iv (i / (100 : Int32))) (iv (((i / (100 : Int32)) * (100 : Int32)) - i)) X_36 e_36 N_36 Zs_37 Kp_38 Fa_39 Fa_40 Fa_41 Fa_42 V_36 g3 (own_nxt Hi hc25__1) hg0 hg1 (Or.inr ⟨_, rfl, rfl⟩) (Or.inr ⟨_, rfl, rfl⟩) (own_fu Hi hc25__1 hfu)
theorem d10_0 : D10 0 = .ok (.iload_n 1, 1) := by decide +kernel
theorem d10_1 : D10 1 = .ok (.istore 5, 2) := by decide +kernel
theorem d10_3 : D10 3 = .ok (.iload_n 0, 1) := by decide +kernel
theorem d10_4 : D10 4 = .ok (.ifCond .ge 7, 3) := by decide +kernel
theorem d10_7 : D10 7 = .ok (.iconst 1, 1) := by decide +kernel
theorem d10_8 : D10 8 = .ok (.goto 4, 3) := by decide +kernel
theorem d10_12 : D10 12 = .ok (.istore 6, 2) := by decide +kernel
theorem d10_14 : D10 14 = .ok (.iload 6, 2) := by decide +kernel
theorem d10_16 : D10 16 = .ok (.ifCond .ne 6, 3) := by decide +kernel
theorem d10_11 : D10 11 = .ok (.iconst 0, 1) := by decide +kernel
theorem d10_19 : D10 19 = .ok (.iload_n 0, 1) := by decide +kernel
theorem d10_20 : D10 20 = .ok (.ineg, 1) := by decide +kernel
theorem d10_21 : D10 21 = .ok (.istore_n 0, 1) := by decide +kernel
theorem rm10 (hw : HW a0 Z) (p1 n2 : Int32) (a3 aO aT : Addr) (kO kT : ClassId) (vO vT : List Value) (dO dT : Value) (k3 : ClassId) (h0 : Heap) (n0 : Nat) (Z0 : n0 ≤ h0.size) (SO : Sta Z h0 "java/lang/Integer" "DigitOnes" "[B" (.ref aO)) (ST : Sta Z h0 "java/lang/Integer" "DigitTens" "[B" (.ref aT)) (VO : Arv Z h0 aO kO .byte (100 : Int32) vO dO) (VT : Arv Z h0 aT kT .byte (100 : Int32) vT dT) (hO : ∀ j : Int32, ¬ j < 0 → j < (100 : Int32) → vO.getD j.toNatClampNeg dO = .int (own_one j)) (hT : ∀ j : Int32, ¬ j < 0 → j < (100 : Int32) → vT.getD j.toNatClampNeg dT = .int (own_ten j)) (V3 : Arv Z h0 a3 k3 .byte (16 : Int32) (own_LI own_z (16 : Int32)) (.int (0 : Int32))) (g3 : n0 ≤ a3) (nO : aO ≠ a3) (nT : aT ≠ a3) (hn2 : n2 = own_size p1) :
  own_Met l y22_ jdk_33_method_12_code 7 (some .int) (R_ 0 0 0 0) #[(.int p1), (.int n2), (.ref a3)] Z h0 (Q_rm10 Z a0 p1 n2 a3 aO aT kO kT vO vT dO dT k3 h0 n0) := by
 refine own_bd (own := "java/lang/Integer") rfl (plainFor_of_name pn_7) #[iv p1, iv n2, rv a3, .unset, .unset, .unset, .unset] ?_
 intro p e s m below meth c s₁ hx hby Hq hml hown hnm hlk hrt hZ X0 e0
 refine o_iloadN X0 Hq d10_0 rfl (o_istore X0 Hq d10_1 (l' := #[iv p1, iv n2, rv a3, .unset, .unset, iv n2, .unset]) rfl (o_iloadN X0 Hq d10_3 rfl ?_))
 by_cases hc4__1 : p1 < (0 : Int32)
 ·refine o_ifNo X0 Hq d10_4 (tlt hc4__1).2.1 (o_iconst X0 Hq 1 d10_7 rfl (o_goto X0 Hq (pc' := 12) d10_8 (o_istore X0 Hq d10_12 (l' := #[iv p1, iv n2, rv a3, .unset, .unset, iv n2, iv 1]) rfl (o_iload X0 Hq d10_14 rfl (o_ifYes X0 Hq (pc' := 22) d10_16 (by decide) ?_)))))
  have V3x : Arv Z h0 a3 k3 .byte (16 : Int32) (own_LI (own_pt p1 n2.toInt) (16 : Int32)) (.int (0 : Int32)) := own_Arv_cg (by rw [hn2, own_pt0]) V3
  exact own_gcl p1 n2 a3 aO aT kO kT vO vT dO dT k3 hO hT nO nT hn2 hx hZ hw hby hml hown hrt hlk ((-p1.toInt).toNat + 1) s₁ _ h0 p1 n2 (1 : Int32) .unset .unset X0 e0 (Fr.nil n0) Z0 (Keep.refl h0 [a3]) SO ST VO VT V3x g3 (hn2 ▸ own_invN hc4__1) (fun q => absurd q (by decide)) (fun _ => own_ngN hc4__1) (Or.inl rfl) (Or.inl rfl) (by omega)
 ·refine o_ifYes X0 Hq (pc' := 11) d10_4 (flt hc4__1).2.1 (o_iconst X0 Hq 0 d10_11 rfl (o_istore X0 Hq d10_12 (l' := #[iv p1, iv n2, rv a3, .unset, .unset, iv n2, iv 0]) rfl (o_iload X0 Hq d10_14 rfl (o_ifNo X0 Hq d10_16 (by decide) (o_iloadN X0 Hq d10_19 rfl (o_ineg X0 Hq d10_20 (o_istoreN X0 Hq d10_21 (l' := #[iv (-p1), iv n2, rv a3, .unset, .unset, iv n2, iv 0]) rfl ?_)))))))
  have V3x : Arv Z h0 a3 k3 .byte (16 : Int32) (own_LI (own_pt p1 n2.toInt) (16 : Int32)) (.int (0 : Int32)) := own_Arv_cg (by rw [hn2, own_pt0]) V3
  exact own_gcl p1 n2 a3 aO aT kO kT vO vT dO dT k3 hO hT nO nT hn2 hx hZ hw hby hml hown hrt hlk ((-(-p1).toInt).toNat + 1) s₁ _ h0 (-p1) n2 (0 : Int32) .unset .unset X0 e0 (Fr.nil n0) Z0 (Keep.refl h0 [a3]) SO ST VO VT V3x g3 (hn2 ▸ own_invP hc4__1) (fun _ => own_ngP hc4__1) (fun q => absurd rfl q) (Or.inl rfl) (Or.inl rfl) (by omega)
abbrev D9 := decode jdk_68_method_68_code
theorem d9_0 : D9 0 = .ok (.getstatic 18, 3) := by decide +kernel
theorem d9_3 : D9 3 = .ok (.ifCond .eq 14, 3) := by decide +kernel
theorem d9_6 : D9 6 = .ok (.aload_n 0, 1) := by decide +kernel
theorem d9_7 : D9 7 = .ok (.getfield 22, 3) := by decide +kernel
theorem d9_10 : D9 10 = .ok (.ifCond .ne 7, 3) := by decide +kernel
theorem d9_13 : D9 13 = .ok (.iconst 1, 1) := by decide +kernel
theorem d9_14 : D9 14 = .ok (.goto 4, 3) := by decide +kernel
theorem d9_18 : D9 18 = .ok (.ireturn, 1) := by decide +kernel
def Q_rmASBl1 (Z : State) (a0 : Array Value) (a1 : Addr) (w : Int32) (h0 : Heap) (n0 : Nat) (v : Option Value) (h : Heap) (L : List Loc) : Prop := v = some (.int (1 : Int32)) ∧ Fr n0 L ∧ h = h0
theorem rmASBl1 (hw : HW a0 Z) (a1 : Addr) (w : Int32) (h0 : Heap) (n0 : Nat) (Z0 : n0 ≤ h0.size) (Fc : Fld Z h0 a1 "java/lang/AbstractStringBuilder" "coder" "B" (.int (0 : Int32))) (S1 : Sta Z h0 "java/lang/String" "COMPACT_STRINGS" "Z" (.int w)) (hw0 : ¬ w = (0 : Int32)) :
  own_Met l y7_ jdk_68_method_68_code 1 (some .boolean) (R_ 0 0 0 0) #[(.ref a1)] Z h0 (Q_rmASBl1 Z a0 a1 w h0 n0) := by
 refine own_bd (own := "java/lang/AbstractStringBuilder") rfl (plainFor_of_name pn_3) #[rv a1] ?_
 intro p e s m below meth c s₁ hx hby Hq hml hown hnm hlk hrt hZ X0 e0
 obtain ⟨T_1, X_1, e_1, st_1⟩ := getS2 X0 hx hZ hown (host := "") (Or.inl (w_ hw 19 rfl)) Via.refl e0 S1 (g := (mkF m 0 #[rv a1] [])) rfl (hb hby d9_0)
 refine own_st st_1 ?_
 show own_Go _ _ _ _ (T_1.setTop (mkF m 3 #[rv a1] [(.int w)]))
 refine o_ifNo X_1 Hq d9_3 (feq hw0).1 (o_aloadN X_1 Hq d9_6 rfl rfl ?_)
 obtain ⟨T_2, X_2, e_2, st_2⟩ := getF X_1 hx hZ hown (host := "") (Or.inl (w_ hw 24 rfl)) Via.refl e_1 Fc (g := (mkF m 7 #[rv a1] [(.ref a1)])) rfl rfl (hb hby d9_7)
 refine own_st st_2 ?_
 show own_Go _ _ _ _ (T_2.setTop (mkF m 10 #[rv a1] [(.int 0)]))
 refine o_ifNo X_2 Hq d9_10 (by decide) (o_iconst X_2 Hq 1 d9_13 rfl (o_goto X_2 Hq (pc' := 18) d9_14 ?_))
 exact e_Z X_2 e_2 Hq hlk hrt d9_18 ⟨rfl, (Fr.nil n0), rfl⟩
abbrev D8 := decode jdk_68_method_9_code
theorem d8_0 : D8 0 = .ok (.aload_n 0, 1) := by decide +kernel
theorem d8_1 : D8 1 = .ok (.getfield 15, 3) := by decide +kernel
theorem d8_4 : D8 4 = .ok (.arraylength, 1) := by decide +kernel
theorem d8_5 : D8 5 = .ok (.aload_n 0, 1) := by decide +kernel
theorem d8_6 : D8 6 = .ok (.getfield 22, 3) := by decide +kernel
theorem d8_9 : D8 9 = .ok (.ishr, 1) := by decide +kernel
theorem d8_10 : D8 10 = .ok (.istore_n 2, 1) := by decide +kernel
theorem d8_11 : D8 11 = .ok (.iload_n 1, 1) := by decide +kernel
theorem d8_12 : D8 12 = .ok (.iload_n 2, 1) := by decide +kernel
theorem d8_13 : D8 13 = .ok (.isub, 1) := by decide +kernel
theorem d8_14 : D8 14 = .ok (.ifCond .le 24, 3) := by decide +kernel
theorem d8_38 : D8 38 = .ok (.return_, 1) := by decide +kernel
def Q_rmec (Z : State) (a0 : Array Value) (a1 : Addr) (p2 : Int32) (b : Addr) (kb : ClassId) (vs : List Value) (d1 : Value) (h0 : Heap) (n0 : Nat) (v : Option Value) (h : Heap) (L : List Loc) : Prop := v = none ∧ Fr n0 L ∧ h = h0
theorem rmec (hw : HW a0 Z) (a1 : Addr) (p2 : Int32) (b : Addr) (kb : ClassId) (vs : List Value) (d1 : Value) (h0 : Heap) (n0 : Nat) (Z0 : n0 ≤ h0.size) (Fv : Fld Z h0 a1 "java/lang/AbstractStringBuilder" "value" "[B" (.ref b)) (Fc : Fld Z h0 a1 "java/lang/AbstractStringBuilder" "coder" "B" (.int (0 : Int32))) (Vb : Arv Z h0 b kb .byte (16 : Int32) vs d1) (hec : ¬ (0 : Int32) < (p2 - (16 : Int32))) :
  own_Met l y1_ jdk_68_method_9_code 3 none (R_ 0 0 0 0) #[(.ref a1), (.int p2)] Z h0 (Q_rmec Z a0 a1 p2 b kb vs d1 h0 n0) := by
 refine own_bd (own := "java/lang/AbstractStringBuilder") rfl (plainFor_of_name pn_3) #[rv a1, iv p2, .unset] ?_
 intro p e s m below meth c s₁ hx hby Hq hml hown hnm hlk hrt hZ X0 e0
 refine o_aloadN X0 Hq d8_0 rfl rfl ?_
 obtain ⟨T_1, X_1, e_1, st_1⟩ := getF X0 hx hZ hown (host := "") (Or.inl (w_ hw 22 rfl)) Via.refl e0 Fv (g := (mkF m 1 #[rv a1, iv p2, .unset] [(.ref a1)])) rfl rfl (hb hby d8_1)
 refine own_st st_1 ?_
 show own_Go _ _ _ _ (T_1.setTop (mkF m 4 #[rv a1, iv p2, .unset] [(.ref b)]))
 obtain ⟨cl_2, Ar_2, qk_2, Sz_2, Ng_2, Hs_2, Gs_2⟩ := id Vb
 refine own_st (X_1.arraylength hx (by rw [e_1]; exact Ar_2.1) (State.isArrayOf_alike hZ.alike Ar_2.2.1) (g := (mkF m 4 #[rv a1, iv p2, .unset] [(.ref b)])) rfl rfl (hb hby d8_4)) ?_
 rw [len_of Sz_2 Ng_2]
 show own_Go _ _ _ _ (T_1.setTop (mkF m 5 #[rv a1, iv p2, .unset] [(.int 16)]))
 refine o_aloadN X_1 Hq d8_5 rfl rfl ?_
 obtain ⟨T_3, X_3, e_3, st_3⟩ := getF X_1 hx hZ hown (host := "") (Or.inl (w_ hw 24 rfl)) Via.refl e_1 Fc (g := (mkF m 6 #[rv a1, iv p2, .unset] [(.ref a1), (.int 16)])) rfl rfl (hb hby d8_6)
 refine own_st st_3 ?_
 show own_Go _ _ _ _ (T_3.setTop (mkF m 9 #[rv a1, iv p2, .unset] [(.int 0), (.int 16)]))
 refine o_ishr X_3 Hq d8_9 ?_
 show own_Go _ _ _ _ (T_3.setTop (mkF m 10 #[rv a1, iv p2, .unset] [(.int 16)]))
 refine o_istoreN X_3 Hq d8_10 (l' := #[rv a1, iv p2, iv 16]) rfl (o_iloadN X_3 Hq d8_11 rfl (o_iloadN X_3 Hq d8_12 rfl (o_isub X_3 Hq d8_13 (o_ifYes X_3 Hq (pc' := 38) d8_14 (flt hec).2.2.2 ?_))))
 exact e_V X_3 e_3 Hq hlk hrt d8_38 ⟨rfl, (Fr.nil n0), rfl⟩
abbrev D39 := decode jdk_29_method_65_code
theorem d39_0 : D39 0 = .ok (.iload_n 0, 1) := by decide +kernel
theorem d39_1 : D39 1 = .ok (.iload_n 1, 1) := by decide +kernel
theorem d39_2 : D39 2 = .ok (.if_icmp .lt 7, 3) := by decide +kernel
theorem d39_9 : D39 9 = .ok (.iload_n 1, 1) := by decide +kernel
theorem d39_10 : D39 10 = .ok (.ireturn, 1) := by decide +kernel
def Q_rm39 (Z : State) (a0 : Array Value) (h0 : Heap) (n0 : Nat) (v : Option Value) (h : Heap) (L : List Loc) : Prop := v = some (.int (18 : Int32)) ∧ Fr n0 L ∧ h = h0
theorem rm39 (hw : HW a0 Z) (h0 : Heap) (n0 : Nat) (Z0 : n0 ≤ h0.size) :
  own_Met l y23_ jdk_29_method_65_code 2 (some .int) (R_ 0 0 0 0) #[(.int (1 : Int32)), (.int (18 : Int32))] Z h0 (Q_rm39 Z a0  h0 n0) := by
 refine own_bd (own := "java/lang/Math") rfl (Jvm.Free.JP.mathPlain rfl (by decide +kernel)) #[iv 1, iv 18] ?_
 intro p e s m below meth c s₁ hx hby Hq hml hown hnm hlk hrt hZ X0 e0
 refine o_iloadN X0 Hq d39_0 rfl (o_iloadN X0 Hq d39_1 rfl (o_icmpYes X0 Hq (pc' := 9) d39_2 (by decide) (o_iloadN X0 Hq d39_9 rfl ?_)))
 exact e_I X0 e0 Hq hlk hrt d39_10 ⟨rfl, (Fr.nil n0), rfl⟩
theorem pn_38 : plainName "jdk/internal/util/ArraysSupport" = true := by first | (simp [plainName, overriddenIn]; done) | decide +kernel
abbrev D38 := decode jdk_48_method_27_code
theorem d38_0 : D38 0 = .ok (.iload_n 0, 1) := by decide +kernel
theorem d38_1 : D38 1 = .ok (.iload_n 1, 1) := by decide +kernel
theorem d38_2 : D38 2 = .ok (.iload_n 2, 1) := by decide +kernel
theorem d38_3 : D38 3 = .ok (.invokestatic 194, 3) := by decide +kernel
theorem pd_7 : parseMethodDescriptor "(II)I" = some ⟨[.int, .int], some .int⟩ := by decide +kernel
theorem k38_194 {a0 : Array Value} {Z : State} (hw : HW a0 Z) : own_KS a0 Z "jdk/internal/util/ArraysSupport" "" 194 y23_ y23_ jdk_29_method_65_code 2 (some .int) 2 := ⟨⟨(w_ hw 214 rfl), ⟨_, _, pd_7, rfl⟩, by decide⟩, (w_ hw 215 rfl), (w_ hw 144 rfl), (w_ hw 216 rfl)⟩
theorem d38_6 : D38 6 = .ok (.iadd, 1) := by decide +kernel
theorem d38_7 : D38 7 = .ok (.istore_n 3, 1) := by decide +kernel
theorem d38_8 : D38 8 = .ok (.iconst 0, 1) := by decide +kernel
theorem d38_9 : D38 9 = .ok (.iload_n 3, 1) := by decide +kernel
theorem d38_10 : D38 10 = .ok (.if_icmp .ge 11, 3) := by decide +kernel
theorem d38_13 : D38 13 = .ok (.iload_n 3, 1) := by decide +kernel
theorem d38_14 : D38 14 = .ok (.ldc 200, 2) := by decide +kernel
theorem d38_16 : D38 16 = .ok (.if_icmp .gt 5, 3) := by decide +kernel
theorem d38_19 : D38 19 = .ok (.iload_n 3, 1) := by decide +kernel
theorem d38_20 : D38 20 = .ok (.ireturn, 1) := by decide +kernel
def Q_rm38 (Z : State) (a0 : Array Value) (h0 : Heap) (n0 : Nat) (v : Option Value) (h : Heap) (L : List Loc) : Prop := v = some (.int (34 : Int32)) ∧ Fr n0 L ∧ h = h0
theorem rm38 (hw : HW a0 Z) (h0 : Heap) (n0 : Nat) (Z0 : n0 ≤ h0.size) :
  own_Met l y24_ jdk_48_method_27_code 4 (some .int) (R_ 1 0 0 14) #[(.int (16 : Int32)), (.int (1 : Int32)), (.int (18 : Int32))] Z h0 (Q_rm38 Z a0  h0 n0) := by
 refine own_bd (own := "jdk/internal/util/ArraysSupport") rfl (plainFor_of_name pn_38) #[iv 16, iv 1, iv 18, .unset] ?_
 intro p e s m below meth c s₁ hx hby Hq hml hown hnm hlk hrt hZ X0 e0
 refine o_iloadN X0 Hq d38_0 rfl (o_iloadN X0 Hq d38_1 rfl (o_iloadN X0 Hq d38_2 rfl ?_))
 refine c_S2 X0 Hq e0 hZ hown hml (k38_194 hw) (rm39 hw   h0 n0 Z0) d38_3 ?_ 1
 rintro T_1 L_1 _ X_1 ⟨⟨⟩, Nq_1, e_1⟩
 have N_1 := Fr.app (Fr.nil n0) Nq_1
 refine o_iadd X_1 Hq d38_6 ?_
 show own_Go _ _ _ _ (T_1.setTop (mkF m 7 #[iv 16, iv 1, iv 18, .unset] [(.int 34)]))
 refine o_istoreN X_1 Hq d38_7 (l' := #[iv 16, iv 1, iv 18, iv 34]) rfl (o_iconst X_1 Hq 0 d38_8 rfl (o_iloadN X_1 Hq d38_9 rfl (o_icmpNo X_1 Hq d38_10 (by decide) (o_iloadN X_1 Hq d38_13 rfl (o_ldc X_1 Hq hown d38_14 (v_ hZ hw 217 rfl) (o_icmpNo X_1 Hq d38_16 (by decide) (o_iloadN X_1 Hq d38_19 rfl ?_)))))))
 exact e_I X_1 e_1 Hq hlk hrt d38_20 ⟨rfl, N_1, rfl⟩
abbrev D37 := decode jdk_68_method_10_code
theorem d37_0 : D37 0 = .ok (.aload_n 0, 1) := by decide +kernel
theorem d37_1 : D37 1 = .ok (.getfield 15, 3) := by decide +kernel
theorem d37_4 : D37 4 = .ok (.arraylength, 1) := by decide +kernel
theorem d37_5 : D37 5 = .ok (.istore_n 2, 1) := by decide +kernel
theorem d37_6 : D37 6 = .ok (.iload_n 1, 1) := by decide +kernel
theorem d37_7 : D37 7 = .ok (.aload_n 0, 1) := by decide +kernel
theorem d37_8 : D37 8 = .ok (.getfield 22, 3) := by decide +kernel
theorem d37_11 : D37 11 = .ok (.ishl, 1) := by decide +kernel
theorem d37_12 : D37 12 = .ok (.istore_n 3, 1) := by decide +kernel
theorem d37_13 : D37 13 = .ok (.iload_n 3, 1) := by decide +kernel
theorem d37_14 : D37 14 = .ok (.iload_n 2, 1) := by decide +kernel
theorem d37_15 : D37 15 = .ok (.isub, 1) := by decide +kernel
theorem d37_16 : D37 16 = .ok (.istore 4, 2) := by decide +kernel
theorem d37_18 : D37 18 = .ok (.iload_n 2, 1) := by decide +kernel
theorem d37_19 : D37 19 = .ok (.iload 4, 2) := by decide +kernel
theorem d37_21 : D37 21 = .ok (.iload_n 2, 1) := by decide +kernel
theorem d37_22 : D37 22 = .ok (.iconst 2, 1) := by decide +kernel
theorem d37_23 : D37 23 = .ok (.aload_n 0, 1) := by decide +kernel
theorem d37_24 : D37 24 = .ok (.getfield 22, 3) := by decide +kernel
theorem d37_27 : D37 27 = .ok (.ishl, 1) := by decide +kernel
theorem d37_28 : D37 28 = .ok (.iadd, 1) := by decide +kernel
theorem d37_29 : D37 29 = .ok (.invokestatic 114, 3) := by decide +kernel
theorem pd_8 : parseMethodDescriptor "(III)I" = some ⟨[.int, .int, .int], some .int⟩ := by decide +kernel
theorem k37_114 {a0 : Array Value} {Z : State} (hw : HW a0 Z) : own_KS a0 Z "java/lang/AbstractStringBuilder" "" 114 y24_ y24_ jdk_48_method_27_code 4 (some .int) 3 := ⟨⟨(w_ hw 210 rfl), ⟨_, _, pd_8, rfl⟩, by decide⟩, (w_ hw 211 rfl), (w_ hw 212 rfl), (w_ hw 213 rfl)⟩
theorem d37_32 : D37 32 = .ok (.istore 5, 2) := by decide +kernel
theorem d37_34 : D37 34 = .ok (.iload 5, 2) := by decide +kernel
theorem d37_36 : D37 36 = .ok (.ldc 39, 2) := by decide +kernel
theorem d37_38 : D37 38 = .ok (.if_icmp .ne 13, 3) := by decide +kernel
theorem d37_51 : D37 51 = .ok (.iload 5, 2) := by decide +kernel
theorem d37_53 : D37 53 = .ok (.aload_n 0, 1) := by decide +kernel
theorem d37_54 : D37 54 = .ok (.getfield 22, 3) := by decide +kernel
theorem d37_57 : D37 57 = .ok (.ishr, 1) := by decide +kernel
theorem d37_58 : D37 58 = .ok (.ireturn, 1) := by decide +kernel
def Q_rm37 (Z : State) (a0 : Array Value) (a1 b : Addr) (kb : ClassId) (vs : List Value) (d1 : Value) (h0 : Heap) (n0 : Nat) (v : Option Value) (h : Heap) (L : List Loc) : Prop := v = some (.int (34 : Int32)) ∧ Fr n0 L ∧ h = h0
theorem rm37 (hw : HW a0 Z) (a1 b : Addr) (kb : ClassId) (vs : List Value) (d1 : Value) (h0 : Heap) (n0 : Nat) (Z0 : n0 ≤ h0.size) (E1 : Exa Z h0 a1 "java/lang/StringBuilder") (Fv : Fld Z h0 a1 "java/lang/AbstractStringBuilder" "value" "[B" (.ref b)) (Fc : Fld Z h0 a1 "java/lang/AbstractStringBuilder" "coder" "B" (.int (0 : Int32))) (Vb : Arv Z h0 b kb .byte (16 : Int32) vs d1) :
  own_Met l y25_ jdk_68_method_10_code 6 (some .int) (R_ 2 0 0 29) #[(.ref a1), (.int (17 : Int32))] Z h0 (Q_rm37 Z a0 a1 b kb vs d1 h0 n0) := by
 refine own_bd (own := "java/lang/AbstractStringBuilder") rfl (plainFor_of_name pn_3) #[rv a1, iv 17, .unset, .unset, .unset, .unset] ?_
 intro p e s m below meth c s₁ hx hby Hq hml hown hnm hlk hrt hZ X0 e0
 refine o_aloadN X0 Hq d37_0 rfl rfl ?_
 obtain ⟨T_1, X_1, e_1, st_1⟩ := getF X0 hx hZ hown (host := "") (Or.inl (w_ hw 22 rfl)) Via.refl e0 Fv (g := (mkF m 1 #[rv a1, iv 17, .unset, .unset, .unset, .unset] [(.ref a1)])) rfl rfl (hb hby d37_1)
 refine own_st st_1 ?_
 show own_Go _ _ _ _ (T_1.setTop (mkF m 4 #[rv a1, iv 17, .unset, .unset, .unset, .unset] [(.ref b)]))
 obtain ⟨cl_2, Ar_2, qk_2, Sz_2, Ng_2, Hs_2, Gs_2⟩ := id Vb
 refine own_st (X_1.arraylength hx (by rw [e_1]; exact Ar_2.1) (State.isArrayOf_alike hZ.alike Ar_2.2.1) (g := (mkF m 4 #[rv a1, iv 17, .unset, .unset, .unset, .unset] [(.ref b)])) rfl rfl (hb hby d37_4)) ?_
 rw [len_of Sz_2 Ng_2]
 show own_Go _ _ _ _ (T_1.setTop (mkF m 5 #[rv a1, iv 17, .unset, .unset, .unset, .unset] [(.int 16)]))
 refine o_istoreN X_1 Hq d37_5 (l' := #[rv a1, iv 17, iv 16, .unset, .unset, .unset]) rfl (o_iloadN X_1 Hq d37_6 rfl (o_aloadN X_1 Hq d37_7 rfl rfl ?_))
 obtain ⟨T_3, X_3, e_3, st_3⟩ := getF X_1 hx hZ hown (host := "") (Or.inl (w_ hw 24 rfl)) Via.refl e_1 Fc (g := (mkF m 8 #[rv a1, iv 17, iv 16, .unset, .unset, .unset] [(.ref a1), (.int 17)])) rfl rfl (hb hby d37_8)
 refine own_st st_3 ?_
 show own_Go _ _ _ _ (T_3.setTop (mkF m 11 #[rv a1, iv 17, iv 16, .unset, .unset, .unset] [(.int 0), (.int 17)]))
 refine o_ishl X_3 Hq d37_11 ?_
 show own_Go _ _ _ _ (T_3.setTop (mkF m 12 #[rv a1, iv 17, iv 16, .unset, .unset, .unset] [(.int 17)]))
 refine o_istoreN X_3 Hq d37_12 (l' := #[rv a1, iv 17, iv 16, iv 17, .unset, .unset]) rfl (o_iloadN X_3 Hq d37_13 rfl (o_iloadN X_3 Hq d37_14 rfl (o_isub X_3 Hq d37_15 ?_)))
 show own_Go _ _ _ _ (T_3.setTop (mkF m 16 #[rv a1, iv 17, iv 16, iv 17, .unset, .unset] [(.int 1)]))
 refine o_istore X_3 Hq d37_16 (l' := #[rv a1, iv 17, iv 16, iv 17, iv 1, .unset]) rfl (o_iloadN X_3 Hq d37_18 rfl (o_iload X_3 Hq d37_19 rfl (o_iloadN X_3 Hq d37_21 rfl (o_iconst X_3 Hq 2 d37_22 rfl (o_aloadN X_3 Hq d37_23 rfl rfl ?_)))))
 obtain ⟨T_4, X_4, e_4, st_4⟩ := getF X_3 hx hZ hown (host := "") (Or.inl (w_ hw 24 rfl)) Via.refl e_3 Fc (g := (mkF m 24 #[rv a1, iv 17, iv 16, iv 17, iv 1, .unset] [(.ref a1), (.int 2), (.int 16), (.int 1), (.int 16)])) rfl rfl (hb hby d37_24)
 refine own_st st_4 ?_
 show own_Go _ _ _ _ (T_4.setTop (mkF m 27 #[rv a1, iv 17, iv 16, iv 17, iv 1, .unset] [(.int 0), (.int 2), (.int 16), (.int 1), (.int 16)]))
 refine o_ishl X_4 Hq d37_27 ?_
 show own_Go _ _ _ _ (T_4.setTop (mkF m 28 #[rv a1, iv 17, iv 16, iv 17, iv 1, .unset] [(.int 2), (.int 16), (.int 1), (.int 16)]))
 refine o_iadd X_4 Hq d37_28 ?_
 show own_Go _ _ _ _ (T_4.setTop (mkF m 29 #[rv a1, iv 17, iv 16, iv 17, iv 1, .unset] [(.int 18), (.int 1), (.int 16)]))
 refine c_S3 X_4 Hq e_4 hZ hown hml (k37_114 hw) (rm38 hw   h0 n0 Z0) d37_29 ?_ 0
 rintro T_5 L_5 _ X_5 ⟨⟨⟩, Nq_5, e_5⟩
 have N_5 := Fr.app (Fr.nil n0) Nq_5
 refine o_istore X_5 Hq d37_32 (l' := #[rv a1, iv 17, iv 16, iv 17, iv 1, iv 34]) rfl (o_iload X_5 Hq d37_34 rfl (o_ldc X_5 Hq hown d37_36 (v_ hZ hw 218 rfl) (o_icmpYes X_5 Hq (pc' := 51) d37_38 (by decide) (o_iload X_5 Hq d37_51 rfl (o_aloadN X_5 Hq d37_53 rfl rfl ?_)))))
 obtain ⟨T_6, X_6, e_6, st_6⟩ := getF X_5 hx hZ hown (host := "") (Or.inl (w_ hw 24 rfl)) Via.refl e_5 Fc (g := (mkF m 54 #[rv a1, iv 17, iv 16, iv 17, iv 1, iv 34] [(.ref a1), (.int 34)])) rfl rfl (hb hby d37_54)
 refine own_st st_6 ?_
 show own_Go _ _ _ _ (T_6.setTop (mkF m 57 #[rv a1, iv 17, iv 16, iv 17, iv 1, iv 34] [(.int 0), (.int 34)]))
 refine o_ishr X_6 Hq d37_57 ?_
 show own_Go _ _ _ _ (T_6.setTop (mkF m 58 #[rv a1, iv 17, iv 16, iv 17, iv 1, iv 34] [(.int 34)]))
 exact e_I X_6 e_6 Hq hlk hrt d37_58 ⟨rfl, N_5, rfl⟩
abbrev D27 := decode jdk_29_method_69_code
theorem d27_0 : D27 0 = .ok (.iload_n 0, 1) := by decide +kernel
theorem d27_1 : D27 1 = .ok (.iload_n 1, 1) := by decide +kernel
theorem d27_2 : D27 2 = .ok (.if_icmp .gt 7, 3) := by decide +kernel
theorem d27_5 : D27 5 = .ok (.iload_n 0, 1) := by decide +kernel
theorem d27_6 : D27 6 = .ok (.goto 4, 3) := by decide +kernel
theorem d27_10 : D27 10 = .ok (.ireturn, 1) := by decide +kernel
def Q_rmmin34 (Z : State) (a0 : Array Value) (h0 : Heap) (n0 : Nat) (v : Option Value) (h : Heap) (L : List Loc) : Prop := v = some (.int (16 : Int32)) ∧ Fr n0 L ∧ h = h0
theorem rmmin34 (hw : HW a0 Z) (h0 : Heap) (n0 : Nat) (Z0 : n0 ≤ h0.size) :
  own_Met l y3_ jdk_29_method_69_code 2 (some .int) (R_ 0 0 0 0) #[(.int (16 : Int32)), (.int (34 : Int32))] Z h0 (Q_rmmin34 Z a0  h0 n0) := by
 refine own_bd (own := "java/lang/Math") rfl (Jvm.Free.JP.mathPlain rfl (by decide +kernel)) #[iv 16, iv 34] ?_
 intro p e s m below meth c s₁ hx hby Hq hml hown hnm hlk hrt hZ X0 e0
 refine o_iloadN X0 Hq d27_0 rfl (o_iloadN X0 Hq d27_1 rfl (o_icmpNo X0 Hq d27_2 (by decide) (o_iloadN X0 Hq d27_5 rfl (o_goto X0 Hq (pc' := 10) d27_6 ?_))))
 exact e_I X0 e0 Hq hlk hrt d27_10 ⟨rfl, (Fr.nil n0), rfl⟩
theorem pn_40 : plainName "java/util/Arrays" = true := by first | (simp [plainName, overriddenIn]; done) | decide +kernel
abbrev D40 := decode jdk_65_method_121_code
theorem d40_0 : D40 0 = .ok (.iload_n 1, 1) := by decide +kernel
theorem d40_1 : D40 1 = .ok (.aload_n 0, 1) := by decide +kernel
theorem d40_2 : D40 2 = .ok (.arraylength, 1) := by decide +kernel
theorem d40_3 : D40 3 = .ok (.if_icmp .ne 11, 3) := by decide +kernel
theorem d40_14 : D40 14 = .ok (.iload_n 1, 1) := by decide +kernel
theorem d40_15 : D40 15 = .ok (.newarray .byte, 2) := by decide +kernel
theorem d40_17 : D40 17 = .ok (.astore_n 2, 1) := by decide +kernel
theorem d40_18 : D40 18 = .ok (.aload_n 0, 1) := by decide +kernel
theorem d40_19 : D40 19 = .ok (.iconst 0, 1) := by decide +kernel
theorem d40_20 : D40 20 = .ok (.aload_n 2, 1) := by decide +kernel
theorem d40_21 : D40 21 = .ok (.iconst 0, 1) := by decide +kernel
theorem d40_22 : D40 22 = .ok (.aload_n 0, 1) := by decide +kernel
theorem d40_23 : D40 23 = .ok (.arraylength, 1) := by decide +kernel
theorem d40_24 : D40 24 = .ok (.iload_n 1, 1) := by decide +kernel
theorem d40_25 : D40 25 = .ok (.invokestatic 304, 3) := by decide +kernel
theorem k40_304 {a0 : Array Value} {Z : State} (hw : HW a0 Z) : own_KS a0 Z "java/util/Arrays" "" 304 y3_ y3_ jdk_29_method_69_code 2 (some .int) 2 := ⟨⟨(w_ hw 142 rfl), ⟨_, _, pd_7, rfl⟩, by decide⟩, (w_ hw 143 rfl), (w_ hw 144 rfl), (w_ hw 145 rfl)⟩
theorem d40_28 : D40 28 = .ok (.invokestatic 150, 3) := by decide +kernel
theorem d40_31 : D40 31 = .ok (.aload_n 2, 1) := by decide +kernel
theorem d40_32 : D40 32 = .ok (.areturn, 1) := by decide +kernel
section Sm
variable {p : Program} {l : Launch} {e : Env} {R : Room} {s : State} {m : MethodId} {args : Array Value} {below : List Frame} {meth : Method} {c : Code} {T : State} {locs : List Loc} {cells slots : Nat} {P : Outcome → State → Prop} {pc : Nat} {Ls : Array Slot} {st : List Value}
theorem e_R (X : Stand p l e R s m args below meth c T locs cells slots) {h : Heap} (eT : T.heap = h) {cb : ByteArray} (hq : p.tables.exec = Jvm.exec ∧ c.code = cb) (hlk : meth.locks = false) {z : Value} {t : FieldType} {rest : List Value} (ht : t.isReference = true) (hz : z.isRef = true) (hrt : meth.sig.returnType = some t) (hd : decode cb pc = .ok (.areturn, 1)) {Q : Option Value → Heap → List Loc → Prop} (hQ : Q (some z) h locs) (hcs : cells ≤ R.cells ∧ slots ≤ R.slots := by decide) :
  own_Go p.tables e below (own_P s Q R) (T.setTop (mkF m pc Ls (z :: rest))) := own_end X eT (v := (some z)) (fun h => by rw [hrt] at h; cases h) hlk (fun fs hr => own_retA X hq.1 hrt ht hz (hb hq.2 hd) hr) (Q := Q) hQ hcs.1 hcs.2
end Sm
def Q_rm40 (Z : State) (a0 : Array Value) (a1 : Addr) (kb : ClassId) (g : Nat → Int32) (h0 : Heap) (n0 : Nat) (v : Option Value) (h : Heap) (L : List Loc) : Prop := ∃ b2 : Addr, ∃ k2 : ClassId, v = some (.ref b2) ∧ Fr n0 L ∧ Keep h0 h [] ∧ n0 ≤ b2 ∧ h0.size ≤ b2 ∧ Arv Z h b2 k2 .byte (34 : Int32) (own_LI (own_cp own_z g (0 : Int32).toNatClampNeg (16 : Int32).toNatClampNeg) (34 : Int32)) (.int (0 : Int32)) ∧ Exa Z h b2 "[B"
theorem rm40 (hw : HW a0 Z) (a1 : Addr) (kb : ClassId) (g : Nat → Int32) (h0 : Heap) (n0 : Nat) (Z0 : n0 ≤ h0.size) (Vb : Arv Z h0 a1 kb .byte (16 : Int32) (own_LI g (16 : Int32)) (.int (0 : Int32))) :
  own_Met l y26_ jdk_65_method_121_code 3 (some (.array .byte)) (R_ 1 1 34 18) #[(.ref a1), (.int (34 : Int32))] Z h0 (Q_rm40 Z a0 a1 kb g h0 n0) := by
 refine own_bd (own := "java/util/Arrays") rfl (plainFor_of_name pn_40) #[rv a1, iv 34, .unset] ?_
 intro p e s m below meth c s₁ hx hby Hq hml hown hnm hlk hrt hZ X0 e0
 refine o_iloadN X0 Hq d40_0 rfl (o_aloadN X0 Hq d40_1 rfl rfl ?_)
 obtain ⟨cl_1, Ar_1, qk_1, Sz_1, Ng_1, Hs_1, Gs_1⟩ := id Vb
 refine own_st (X0.arraylength hx (by rw [e0]; exact Ar_1.1) (State.isArrayOf_alike hZ.alike Ar_1.2.1) (g := (mkF m 2 #[rv a1, iv 34, .unset] [(.ref a1), (.int 34)])) rfl rfl (hb hby d40_2)) ?_
 rw [len_of Sz_1 Ng_1]
 show own_Go _ _ _ _ (s₁.setTop (mkF m 3 #[rv a1, iv 34, .unset] [(.int 16), (.int 34)]))
 refine o_icmpYes X0 Hq (pc' := 14) d40_3 (by decide) (o_iloadN X0 Hq d40_14 rfl ?_)
 obtain ⟨T_2, h_2, k_2, X_2, e_2, E_2, A_2, Ex_2, st_2⟩ := newPE X0 hx hZ (w_ hw 21 rfl) e0 (g := (mkF m 15 #[rv a1, iv 34, .unset] [(.int 34)])) rfl (hb hby d40_15) rfl (by decide) (cap := 34) (by decide) (by decide) (by decide) (by decide) (ad := "[B") (by decide +kernel)
 obtain ⟨b_2, g_2⟩ : ∃ z, z = h0.size := ⟨_, rfl⟩
 rw [← g_2] at A_2 Ex_2 st_2
 have V_2 : Arv Z h_2 b_2 k_2 .byte (34 : Int32) (own_LI own_z (34 : Int32)) (.int (0 : Int32)) := (Arv.new A_2 (by decide)).pad (own_LI_pad _)
 have gg_2 : n0 ≤ b_2 := Nat.le_trans Z0 (Nat.le_of_eq g_2.symm)
 have sz_2 : h0.size ≤ b_2 := Nat.le_trans (Keep.refl h0 []).1 (Nat.le_of_eq g_2.symm)
 refine own_st st_2 ?_
 show own_Go _ _ _ _ (T_2.setTop (mkF m 17 #[rv a1, iv 34, .unset] [(.ref b_2)]))
 refine o_astoreN X_2 Hq d40_17 rfl (l' := #[rv a1, iv 34, rv b_2]) rfl (o_aloadN X_2 Hq d40_18 rfl rfl (o_iconst X_2 Hq 0 d40_19 rfl (o_aloadN X_2 Hq d40_20 rfl rfl (o_iconst X_2 Hq 0 d40_21 rfl (o_aloadN X_2 Hq d40_22 rfl rfl ?_)))))
 have Fa_3 := (Vb.ext E_2)
 obtain ⟨cl_4, Ar_4, qk_4, Sz_4, Ng_4, Hs_4, Gs_4⟩ := id Fa_3
 refine own_st (X_2.arraylength hx (by rw [e_2]; exact Ar_4.1) (State.isArrayOf_alike hZ.alike Ar_4.2.1) (g := (mkF m 23 #[rv a1, iv 34, rv b_2] [(.ref a1), (.int 0), (.ref b_2), (.int 0), (.ref a1)])) rfl rfl (hb hby d40_23)) ?_
 rw [len_of Sz_4 Ng_4]
 show own_Go _ _ _ _ (T_2.setTop (mkF m 24 #[rv a1, iv 34, rv b_2] [(.int 16), (.int 0), (.ref b_2), (.int 0), (.ref a1)]))
 refine o_iloadN X_2 Hq d40_24 rfl ?_
 have Zs_6 : n0 ≤ h_2.size := (Nat.le_trans Z0 E_2.1)
 refine c_S2 X_2 Hq e_2 hZ hown hml (k40_304 hw) (rmmin34 hw   h_2 n0 Zs_6) d40_25 ?_ 4
 rintro T_5 L_5 _ X_5 ⟨⟨⟩, Nq_5, e_5⟩
 have N_5 := Fr.app (Fr.nil n0) Nq_5
 obtain ⟨T_7, h_7, L_7, X_7, e_7, N_7, K_7, V_7, st_7⟩ := cpA X_5 hx hZ hown (w_ hw 146 rfl) (w_ hw 103 rfl) (w_ hw 101 rfl) (w_ hw 102 rfl) e_5 Fa_3 V_2 (Or.inl ⟨rfl, rfl⟩) (sp := (0 : Int32)) (dp := (0 : Int32)) (nn := (16 : Int32)) (by decide) (by decide) (by decide) (Nat.le_trans (Nat.le_of_eq (Nat.zero_add _)) (by decide)) (by decide) rfl (Nat.le_trans (by decide) (Nat.le_of_eq (own_LI_len _ _).symm)) N_5 gg_2 (g := (mkF m 28 #[rv a1, iv 34, rv b_2] [(.int 16), (.int 0), (.ref b_2), (.int 0), (.ref a1)])) rfl (by rw [hml]; rfl) rfl (hb hby d40_28) (by decide) (W := 0) (z_ rfl) (by decide)
 have Va_7 : Arv Z h_7 b_2 k_2 .byte (34 : Int32) (own_LI (own_cp own_z g (0 : Int32).toNatClampNeg (16 : Int32).toNatClampNeg) (34 : Int32)) (.int (0 : Int32)) := own_Arv_cg (own_cpy _ _ _ _ _ _ (by decide) (by decide)) V_7
 refine own_st st_7 ?_
 show own_Go _ _ _ _ (T_7.setTop (mkF m 31 #[rv a1, iv 34, rv b_2] []))
 refine o_aloadN X_7 Hq d40_31 rfl rfl ?_
 have Kp_8 : Keep h0 h_7 [] := (((Keep.refl h0 []).ext E_2).trans K_7 (allS (Or.inr sz_2) all0))
 have Fa_9 := (Ex_2.keep K_7)
 exact e_R X_7 e_7 Hq hlk rfl rfl hrt d40_32 ⟨b_2, k_2, rfl, N_7, Kp_8, gg_2, sz_2, Va_7, Fa_9⟩
theorem d8_17 : D8 17 = .ok (.aload_n 0, 1) := by decide +kernel
theorem d8_18 : D8 18 = .ok (.aload_n 0, 1) := by decide +kernel
theorem d8_19 : D8 19 = .ok (.getfield 15, 3) := by decide +kernel
theorem d8_22 : D8 22 = .ok (.aload_n 0, 1) := by decide +kernel
theorem d8_23 : D8 23 = .ok (.iload_n 1, 1) := by decide +kernel
theorem d8_24 : D8 24 = .ok (.invokevirtual 104, 3) := by decide +kernel
theorem pd_9 : parseMethodDescriptor "(I)I" = some ⟨[.int], some .int⟩ := by decide +kernel
theorem d8_27 : D8 27 = .ok (.aload_n 0, 1) := by decide +kernel
theorem d8_28 : D8 28 = .ok (.getfield 22, 3) := by decide +kernel
theorem d8_31 : D8 31 = .ok (.ishl, 1) := by decide +kernel
theorem d8_32 : D8 32 = .ok (.invokestatic 108, 3) := by decide +kernel
theorem pd_10 : parseMethodDescriptor "([BI)[B" = some ⟨[(.array .byte), .int], some (.array .byte)⟩ := by decide +kernel
theorem k8_108 {a0 : Array Value} {Z : State} (hw : HW a0 Z) : own_KS a0 Z "java/lang/AbstractStringBuilder" "" 108 y26_ y26_ jdk_65_method_121_code 3 (some (.array .byte)) 2 := ⟨⟨(w_ hw 219 rfl), ⟨_, _, pd_10, rfl⟩, by decide⟩, (w_ hw 220 rfl), (w_ hw 134 rfl), (w_ hw 221 rfl)⟩
theorem d8_35 : D8 35 = .ok (.putfield 15, 3) := by decide +kernel
def Q_rmec17 (Z : State) (a0 : Array Value) (a1 b : Addr) (kb : ClassId) (g : Nat → Int32) (n : Int32) (h0 : Heap) (n0 : Nat) (v : Option Value) (h : Heap) (L : List Loc) : Prop := ∃ b2 : Addr, ∃ k2 : ClassId, v = none ∧ Fr n0 L ∧ Keep h0 h [a1] ∧ n0 ≤ b2 ∧ h0.size ≤ b2 ∧ Fld Z h a1 "java/lang/AbstractStringBuilder" "value" "[B" (.ref b2) ∧ Fld Z h a1 "java/lang/AbstractStringBuilder" "coder" "B" (.int (0 : Int32)) ∧ Fld Z h a1 "java/lang/AbstractStringBuilder" "count" "I" (.int n) ∧ Arv Z h b2 k2 .byte (34 : Int32) (own_LI (own_cp own_z g (0 : Int32).toNatClampNeg (16 : Int32).toNatClampNeg) (34 : Int32)) (.int (0 : Int32)) ∧ Exa Z h b2 "[B"
theorem rmec17 (hw : HW a0 Z) (a1 b : Addr) (kb : ClassId) (g : Nat → Int32) (n : Int32) (h0 : Heap) (n0 : Nat) (Z0 : n0 ≤ h0.size) (E1 : Exa Z h0 a1 "java/lang/StringBuilder") (g1 : n0 ≤ a1) (Fv : Fld Z h0 a1 "java/lang/AbstractStringBuilder" "value" "[B" (.ref b)) (Fc : Fld Z h0 a1 "java/lang/AbstractStringBuilder" "coder" "B" (.int (0 : Int32))) (Fn : Fld Z h0 a1 "java/lang/AbstractStringBuilder" "count" "I" (.int n)) (Vb : Arv Z h0 b kb .byte (16 : Int32) (own_LI g (16 : Int32)) (.int (0 : Int32))) :
  own_Met l y1_ jdk_68_method_9_code 3 none (R_ 3 1 34 48) #[(.ref a1), (.int (17 : Int32))] Z h0 (Q_rmec17 Z a0 a1 b kb g n h0 n0) := by
 refine own_bd (own := "java/lang/AbstractStringBuilder") rfl (plainFor_of_name pn_3) #[rv a1, iv 17, .unset] ?_
 intro p e s m below meth c s₁ hx hby Hq hml hown hnm hlk hrt hZ X0 e0
 refine o_aloadN X0 Hq d8_0 rfl rfl ?_
 obtain ⟨T_1, X_1, e_1, st_1⟩ := getF X0 hx hZ hown (host := "") (Or.inl (w_ hw 22 rfl)) Via.refl e0 Fv (g := (mkF m 1 #[rv a1, iv 17, .unset] [(.ref a1)])) rfl rfl (hb hby d8_1)
 refine own_st st_1 ?_
 show own_Go _ _ _ _ (T_1.setTop (mkF m 4 #[rv a1, iv 17, .unset] [(.ref b)]))
 obtain ⟨cl_2, Ar_2, qk_2, Sz_2, Ng_2, Hs_2, Gs_2⟩ := id Vb
 refine own_st (X_1.arraylength hx (by rw [e_1]; exact Ar_2.1) (State.isArrayOf_alike hZ.alike Ar_2.2.1) (g := (mkF m 4 #[rv a1, iv 17, .unset] [(.ref b)])) rfl rfl (hb hby d8_4)) ?_
 rw [len_of Sz_2 Ng_2]
 show own_Go _ _ _ _ (T_1.setTop (mkF m 5 #[rv a1, iv 17, .unset] [(.int 16)]))
 refine o_aloadN X_1 Hq d8_5 rfl rfl ?_
 obtain ⟨T_3, X_3, e_3, st_3⟩ := getF X_1 hx hZ hown (host := "") (Or.inl (w_ hw 24 rfl)) Via.refl e_1 Fc (g := (mkF m 6 #[rv a1, iv 17, .unset] [(.ref a1), (.int 16)])) rfl rfl (hb hby d8_6)
 refine own_st st_3 ?_
 show own_Go _ _ _ _ (T_3.setTop (mkF m 9 #[rv a1, iv 17, .unset] [(.int 0), (.int 16)]))
 refine o_ishr X_3 Hq d8_9 ?_
 show own_Go _ _ _ _ (T_3.setTop (mkF m 10 #[rv a1, iv 17, .unset] [(.int 16)]))
 refine o_istoreN X_3 Hq d8_10 (l' := #[rv a1, iv 17, iv 16]) rfl (o_iloadN X_3 Hq d8_11 rfl (o_iloadN X_3 Hq d8_12 rfl (o_isub X_3 Hq d8_13 ?_)))
 show own_Go _ _ _ _ (T_3.setTop (mkF m 14 #[rv a1, iv 17, iv 16] [(.int 1)]))
 refine o_ifNo X_3 Hq d8_14 (by decide) (o_aloadN X_3 Hq d8_17 rfl rfl (o_aloadN X_3 Hq d8_18 rfl rfl ?_))
 obtain ⟨T_4, X_4, e_4, st_4⟩ := getF X_3 hx hZ hown (host := "") (Or.inl (w_ hw 22 rfl)) Via.refl e_3 Fv (g := (mkF m 19 #[rv a1, iv 17, iv 16] [(.ref a1), (.ref a1)])) rfl rfl (hb hby d8_19)
 refine own_st st_4 ?_
 show own_Go _ _ _ _ (T_4.setTop (mkF m 22 #[rv a1, iv 17, iv 16] [(.ref b), (.ref a1)]))
 refine o_aloadN X_4 Hq d8_22 rfl rfl (o_iloadN X_4 Hq d8_23 rfl ?_)
 obtain ⟨cq_5, q_5, q_5'⟩ := E1.cell
 obtain ⟨_, _, ⟨T_5, L_5, k_5, n_5⟩, -, X_5, ⟨Lc_5, hQ_5, l_5, y_5, z_5⟩, st_5⟩ := X_4.privateBack hx (y := y25_) hown (v_ hZ hw 205 rfl) (v_ hZ hw 206 rfl) (own_selQ (y := y25_) (v_ hZ hw 208 rfl) (v_ hZ hw 206 rfl) (Cond.privateMethod_at (mvP hZ (w_ hw 207 rfl) (args := #[]))) (by decide)) (Cond.privateMethod_at (mvP hZ (w_ hw 207 rfl) (args := #[]))) (v_ hZ hw 209 rfl) (by decide) (backOf (W := 2) (rm37 hw a1 b kb (own_LI g (16 : Int32)) (.int (0 : Int32)) h0 n0 Z0 E1 Fv Fc Vb) hZ (w_ hw 209 rfl) (w_ hw 14 rfl) (by decide) (by decide)) (g := (mkF m 24 #[rv a1, iv 17, iv 16] [(.int 17), (.ref a1), (.ref b), (.ref a1)])) rfl (by rw [hml]; rfl) (Steps.refl _) (a := a1) (by rw [e_4]; exact q_5) q_5' (argsL := [(.int 17)]) (rest := [(.ref b), (.ref a1)]) (lenOf pd_9 rfl) rfl (z_ rfl) (hb hby d8_24) (fun _ _ => ⟨rfl, e_4, (by decide : 0 + 0 ≤ _), (by decide : 0 + 0 ≤ _)⟩)
 dsimp only [Pt.U, Pt.locs, Pt.cells, Pt.slots] at X_5 l_5 y_5 z_5 st_5 hQ_5
 subst l_5 y_5 z_5
 obtain ⟨rfl, Nq_5, e_5⟩ := hQ_5
 have N_5 := Fr.app (Fr.nil n0) Nq_5
 refine own_tr st_5 ?_
 show own_Go _ _ _ _ (T_5.setTop (mkF m 27 #[rv a1, iv 17, iv 16] [(.int 34), (.ref b), (.ref a1)]))
 refine o_aloadN X_5 Hq d8_27 rfl rfl ?_
 obtain ⟨T_6, X_6, e_6, st_6⟩ := getF X_5 hx hZ hown (host := "") (Or.inl (w_ hw 24 rfl)) Via.refl e_5 Fc (g := (mkF m 28 #[rv a1, iv 17, iv 16] [(.ref a1), (.int 34), (.ref b), (.ref a1)])) rfl rfl (hb hby d8_28)
 refine own_st st_6 ?_
 show own_Go _ _ _ _ (T_6.setTop (mkF m 31 #[rv a1, iv 17, iv 16] [(.int 0), (.int 34), (.ref b), (.ref a1)]))
 refine o_ishl X_6 Hq d8_31 ?_
 show own_Go _ _ _ _ (T_6.setTop (mkF m 32 #[rv a1, iv 17, iv 16] [(.int 34), (.ref b), (.ref a1)]))
 refine c_S2 X_6 Hq e_6 hZ hown hml (k8_108 hw) (rm40 hw b kb g h0 n0 Z0 Vb) d8_32 ?_ 1
 rintro T_7 L_7 _ X_7 ⟨b2__7, k2__7, ⟨⟩, Nq_7, K_7, gq_7_b2, sq_7_b2, Fq_7_0, Fq_7_1⟩
 have N_7 := Fr.app N_5 Nq_7
 have szq_7_b2 : h0.size ≤ b2__7 := Nat.le_trans (Keep.refl h0 [a1]).1 sq_7_b2
 have Fa_8 := (Fv.keep K_7 nin0)
 have Fa_9 := (E1.keep K_7)
 obtain ⟨T_10, h_10, X_10, e_10, W_10, st_10⟩ := putF X_7 hx hZ hown (host := "") (Or.inl (w_ hw 22 rfl)) Via.refl rfl Fa_8 Fa_9 (Or.inl (w_ hw 23 rfl)) (w_ hw 5 rfl) (ty := (.array .byte)) (by decide) rfl rfl (g := (mkF m 35 #[rv a1, iv 17, iv 16] [(.ref b2__7), (.ref a1)])) rfl rfl (hb hby d8_35)
 refine own_st st_10 ?_
 have N_10 := Fr.snoc X_10 N_7 g1
 show own_Go _ _ _ _ (T_10.setTop (mkF m 38 #[rv a1, iv 17, iv 16] []))
 have Kp_11 : Keep h0 h_10 [a1] := (((Keep.refl h0 [a1]).trans K_7 all0).wr W_10 (Or.inl (List.mem_of_getElem? (i := 0) rfl)))
 have Fa_12 := (Fa_8.same W_10)
 have Fa_13 := ((Fc.keep K_7 nin0).other W_10 (Or.inr (slot_ne (Or.inl (w_ hw 25 rfl)) (Or.inl (w_ hw 23 rfl)) (by decide) (t := .byte) (t' := (.array .byte)) (by decide) (by decide))))
 have Fa_14 := ((Fn.keep K_7 nin0).other W_10 (Or.inr (slot_ne (Or.inl (w_ hw 37 rfl)) (Or.inl (w_ hw 23 rfl)) (by decide) (t := .int) (t' := (.array .byte)) (by decide) (by decide))))
 have Fa_15 := (Fq_7_0.other W_10 (Ne.symm (Nat.ne_of_lt (Nat.lt_of_lt_of_le Fv.lt sq_7_b2))))
 have Fa_16 := (Fq_7_1.wr W_10)
 exact e_V X_10 e_10 Hq hlk hrt d8_38 ⟨b2__7, k2__7, rfl, N_10, Kp_11, gq_7_b2, szq_7_b2, Fa_12, Fa_13, Fa_14, Fa_15, Fa_16⟩
abbrev D6 := decode jdk_68_method_32_code
theorem d6_0 : D6 0 = .ok (.aload_n 0, 1) := by decide +kernel
theorem d6_1 : D6 1 = .ok (.getfield 79, 3) := by decide +kernel
theorem d6_4 : D6 4 = .ok (.istore_n 2, 1) := by decide +kernel
theorem d6_5 : D6 5 = .ok (.iload_n 2, 1) := by decide +kernel
theorem d6_6 : D6 6 = .ok (.iload_n 1, 1) := by decide +kernel
theorem d6_7 : D6 7 = .ok (.invokestatic 245, 3) := by decide +kernel
section Sm
variable {p : Program} {l : Launch} {e : Env} {R : Room} {s : State} {m : MethodId} {args : Array Value} {below : List Frame} {meth : Method} {c : Code} {T : State} {locs : List Loc} {cells slots : Nat} {P : Outcome → State → Prop} {pc : Nat} {Ls : Array Slot} {st : List Value}
theorem c_S1 (X : Stand p l e R s m args below meth c T locs cells slots) {cb : ByteArray} (hq : p.tables.exec = Jvm.exec ∧ c.code = cb) {Z : State} {a0 : Array Value} {h : Heap} {own C : String} {index : Nat} {y z : MethodName} {bytes : ByteArray} {maxL ML : Nat} {ret : Option FieldType} {rm : Room} {Q : Option Value → Heap → List Loc → Prop} {v1 : Value}
  (eT : T.heap = h) (hZ : Z.Warmed39 s.vm) (hown : s.vm.findClass own = some m.cls) (hml : c.maxLocals = ML) (hK : own_KS a0 Z own C index y z bytes maxL ret 1) (hM : own_Met l y bytes maxL ret rm #[v1] Z h Q)
  (hd : decode cb pc = .ok (.invokestatic index, 3)) 
  (k : ∀ (T' : State) (L : List Loc) (w : Value), Stand p l e R s m args below meth c T' (locs ++ L) (cells + rm.cells) (slots + rm.slots) → Q (some w) T'.heap L → own_Go p.tables e below P (T'.setTop (mkF m (pc + 3) Ls (w :: st)))) (W : Nat) (hsz : Ls.size = ML := by rfl) (hW : (st.map fun v => v.category).sum = W := by rfl) (sd : rm.frames + 1 ≤ R.frames ∧ W + (maxL + 11) + rm.locals ≤ R.locals ∧ cells + rm.cells ≤ R.cells ∧ slots + rm.slots ≤ R.slots := by decide) (hv : ∀ v h L, Q v h L → ∃ w, v = some w := by intro v h L q; first | exact Exists.intro _ q.1 | (obtain ⟨_, q⟩ := q; exact Exists.intro _ q.1) | (obtain ⟨_, _, q⟩ := q; exact Exists.intro _ q.1) | (obtain ⟨_, _, _, q⟩ := q; exact Exists.intro _ q.1)) : own_Go p.tables e below P (T.setTop (mkF m pc Ls (v1 :: st))) := by
 obtain ⟨⟨w1, ⟨ps, r, hp, hlen⟩, hy⟩, w2, w3, w4⟩ := hK
 obtain ⟨v, vm1, ⟨T', L0, k0, n0⟩, -, X', ⟨L, hQ, e1, e2, e3⟩, hst⟩ := Jvm.LawKit.callS X hq.1 (y := y) hown (mvT hZ w1) (mvT hZ w2) (mvT hZ w3) (mvT hZ w4) hy (backOf (W := W) (Q := Q) hM hZ w4 w3 sd.1 sd.2.1) (g := mkF m pc Ls (v1 :: st)) rfl (by rw [hml]; exact hsz) (argsL := [v1]) (rest := st) (lenOf hp hlen) rfl (by show 2 * 0 + _ ≤ _; rw [Nat.mul_zero, Nat.zero_add]; exact Nat.le_of_eq hW) (hb hq.2 hd) (fun _ _ => ⟨rfl, eT, sd.2.2.1, sd.2.2.2⟩)
 dsimp only [Pt.U, Pt.locs, Pt.cells, Pt.slots] at X' e1 e2 e3 hst hQ
 subst e1 e2 e3
 obtain ⟨w, rfl⟩ := hv _ _ _ hQ
 exact own_st hst (k _ _ _ X' hQ)
end Sm
theorem k6_245 {a0 : Array Value} {Z : State} (hw : HW a0 Z) : own_KS a0 Z "java/lang/AbstractStringBuilder" "" 245 y21_ y21_ jdk_33_method_13_code 4 (some .int) 1 := ⟨⟨(w_ hw 38 rfl), ⟨_, _, pd_9, rfl⟩, by decide⟩, (w_ hw 39 rfl), (w_ hw 40 rfl), (w_ hw 41 rfl)⟩
theorem d6_10 : D6 10 = .ok (.iadd, 1) := by decide +kernel
theorem d6_11 : D6 11 = .ok (.istore_n 3, 1) := by decide +kernel
theorem d6_12 : D6 12 = .ok (.aload_n 0, 1) := by decide +kernel
theorem d6_13 : D6 13 = .ok (.iload_n 3, 1) := by decide +kernel
theorem d6_14 : D6 14 = .ok (.invokevirtual 100, 3) := by decide +kernel
theorem d6_17 : D6 17 = .ok (.aload_n 0, 1) := by decide +kernel
theorem d6_18 : D6 18 = .ok (.invokevirtual 83, 3) := by decide +kernel
theorem k6_83U1 {a0 : Array Value} {Z : State} (hw : HW a0 Z) : own_KU a0 Z "java/lang/AbstractStringBuilder" "java/lang/StringBuilder" 83 y7_ y7_ jdk_68_method_68_code 1 (some .boolean) 0 := ⟨⟨(w_ hw 47 rfl), ⟨_, _, pd_4, rfl⟩, by decide⟩, (w_ hw 48 rfl), (w_ hw 50 rfl), (w_ hw 49 rfl), (w_ hw 14 rfl), (w_ hw 51 rfl)⟩
theorem d6_21 : D6 21 = .ok (.ifCond .eq 16, 3) := by decide +kernel
theorem d6_24 : D6 24 = .ok (.iload_n 1, 1) := by decide +kernel
theorem d6_25 : D6 25 = .ok (.iload_n 3, 1) := by decide +kernel
theorem d6_26 : D6 26 = .ok (.aload_n 0, 1) := by decide +kernel
theorem d6_27 : D6 27 = .ok (.getfield 15, 3) := by decide +kernel
theorem d6_30 : D6 30 = .ok (.invokestatic 248, 3) := by decide +kernel
theorem pd_11 : parseMethodDescriptor "(II[B)I" = some ⟨[.int, .int, (.array .byte)], some .int⟩ := by decide +kernel
theorem k6_248 {a0 : Array Value} {Z : State} (hw : HW a0 Z) : own_KS a0 Z "java/lang/AbstractStringBuilder" "" 248 y22_ y22_ jdk_33_method_12_code 7 (some .int) 3 := ⟨⟨(w_ hw 52 rfl), ⟨_, _, pd_11, rfl⟩, by decide⟩, (w_ hw 53 rfl), (w_ hw 40 rfl), (w_ hw 54 rfl)⟩
theorem d6_33 : D6 33 = .ok (.pop, 1) := by decide +kernel
theorem d6_34 : D6 34 = .ok (.goto 14, 3) := by decide +kernel
theorem d6_48 : D6 48 = .ok (.aload_n 0, 1) := by decide +kernel
theorem d6_49 : D6 49 = .ok (.iload_n 3, 1) := by decide +kernel
theorem d6_50 : D6 50 = .ok (.putfield 79, 3) := by decide +kernel
theorem d6_53 : D6 53 = .ok (.aload_n 0, 1) := by decide +kernel
theorem d6_54 : D6 54 = .ok (.areturn, 1) := by decide +kernel
def Q_rmaa (Z : State) (a0 : Array Value) (a1 : Addr) (p1 : Int32) (b : Addr) (kb : ClassId) (aO aT : Addr) (kO kT : ClassId) (vO vT : List Value) (dO dT : Value) (w : Int32) (h0 : Heap) (n0 : Nat) (v : Option Value) (h : Heap) (L : List Loc) : Prop := v = some (.ref a1) ∧ Fr n0 L ∧ Keep h0 h [a1, b] ∧ Fld Z h a1 "java/lang/AbstractStringBuilder" "value" "[B" (.ref b) ∧ Fld Z h a1 "java/lang/AbstractStringBuilder" "coder" "B" (.int (0 : Int32)) ∧ Fld Z h a1 "java/lang/AbstractStringBuilder" "count" "I" (.int (own_size p1)) ∧ Arv Z h b kb .byte (16 : Int32) (own_LI (own_pt p1 0) (16 : Int32)) (.int (0 : Int32))
theorem rmaa (hw : HW a0 Z) (a1 : Addr) (p1 : Int32) (b : Addr) (kb : ClassId) (aO aT : Addr) (kO kT : ClassId) (vO vT : List Value) (dO dT : Value) (w : Int32) (h0 : Heap) (n0 : Nat) (Z0 : n0 ≤ h0.size) (E1 : Exa Z h0 a1 "java/lang/StringBuilder") (g1 : n0 ≤ a1) (Fv : Fld Z h0 a1 "java/lang/AbstractStringBuilder" "value" "[B" (.ref b)) (Fc : Fld Z h0 a1 "java/lang/AbstractStringBuilder" "coder" "B" (.int (0 : Int32))) (gb : n0 ≤ b) (nb : b ≠ a1) (Fn : Fld Z h0 a1 "java/lang/AbstractStringBuilder" "count" "I" (.int (0 : Int32))) (Vb : Arv Z h0 b kb .byte (16 : Int32) (own_LI own_z (16 : Int32)) (.int (0 : Int32))) (SO : Sta Z h0 "java/lang/Integer" "DigitOnes" "[B" (.ref aO)) (ST : Sta Z h0 "java/lang/Integer" "DigitTens" "[B" (.ref aT)) (VO : Arv Z h0 aO kO .byte (100 : Int32) vO dO) (VT : Arv Z h0 aT kT .byte (100 : Int32) vT dT) (hO : ∀ j : Int32, ¬ j < 0 → j < (100 : Int32) → vO.getD j.toNatClampNeg dO = .int (own_one j)) (hT : ∀ j : Int32, ¬ j < 0 → j < (100 : Int32) → vT.getD j.toNatClampNeg dT = .int (own_ten j)) (nO1 : aO ≠ a1) (nO2 : aO ≠ b) (nT1 : aT ≠ a1) (nT2 : aT ≠ b) (S1 : Sta Z h0 "java/lang/String" "COMPACT_STRINGS" "Z" (.int w)) (hw0 : ¬ w = (0 : Int32)) :
  own_Met l y27_ jdk_68_method_32_code 4 (some (.object "java/lang/AbstractStringBuilder")) (R_ 1 0 0 18) #[(.ref a1), (.int p1)] Z h0 (Q_rmaa Z a0 a1 p1 b kb aO aT kO kT vO vT dO dT w h0 n0) := by
 refine own_bd (own := "java/lang/AbstractStringBuilder") rfl (plainFor_of_name pn_3) #[rv a1, iv p1, .unset, .unset] ?_
 intro p e s m below meth c s₁ hx hby Hq hml hown hnm hlk hrt hZ X0 e0
 refine o_aloadN X0 Hq d6_0 rfl rfl ?_
 obtain ⟨T_1, X_1, e_1, st_1⟩ := getF X0 hx hZ hown (host := "") (Or.inl (w_ hw 36 rfl)) Via.refl e0 Fn (g := (mkF m 1 #[rv a1, iv p1, .unset, .unset] [(.ref a1)])) rfl rfl (hb hby d6_1)
 refine own_st st_1 ?_
 show own_Go _ _ _ _ (T_1.setTop (mkF m 4 #[rv a1, iv p1, .unset, .unset] [(.int 0)]))
 refine o_istoreN X_1 Hq d6_4 (l' := #[rv a1, iv p1, iv 0, .unset]) rfl (o_iloadN X_1 Hq d6_5 rfl (o_iloadN X_1 Hq d6_6 rfl ?_))
 refine c_S1 X_1 Hq e_1 hZ hown hml (k6_245 hw) (rm7 hw p1  h0 n0 Z0) d6_7 ?_ 1
 rintro T_2 L_2 _ X_2 ⟨⟨⟩, Nq_2, e_2⟩
 have N_2 := Fr.app (Fr.nil n0) Nq_2
 refine o_iadd X_2 Hq d6_10 ?_
 rw [Int32.zero_add, own_sseq]
 refine o_istoreN X_2 Hq d6_11 (l' := #[rv a1, iv p1, iv 0, iv (own_size p1)]) rfl (o_aloadN X_2 Hq d6_12 rfl rfl (o_iloadN X_2 Hq d6_13 rfl ?_))
 obtain ⟨cq_3, q_3, q_3'⟩ := E1.cell
 obtain ⟨_, _, ⟨T_3, L_3, k_3, n_3⟩, -, X_3, ⟨Lc_3, hQ_3, l_3, y_3, z_3⟩, st_3⟩ := X_2.privateBack hx (y := y1_) hown (v_ hZ hw 42 rfl) (v_ hZ hw 43 rfl) (own_selQ (y := y1_) (v_ hZ hw 45 rfl) (v_ hZ hw 43 rfl) (Cond.privateMethod_at (mvP hZ (w_ hw 44 rfl) (args := #[]))) (by decide)) (Cond.privateMethod_at (mvP hZ (w_ hw 44 rfl) (args := #[]))) (v_ hZ hw 46 rfl) (by decide) (backOf (W := 0) (rmec hw a1 (own_size p1) b kb (own_LI own_z (16 : Int32)) (.int (0 : Int32)) h0 n0 Z0 Fv Fc Vb (own_ec (by have := own_sizeb p1; omega))) hZ (w_ hw 46 rfl) (w_ hw 14 rfl) (by decide) (by decide)) (g := (mkF m 14 #[rv a1, iv p1, iv 0, iv (own_size p1)] [(.int (own_size p1)), (.ref a1)])) rfl (by rw [hml]; rfl) (Steps.refl _) (a := a1) (by rw [e_2]; exact q_3) q_3' (argsL := [(.int (own_size p1))]) (rest := []) (lenOf pd_6 rfl) rfl (z_ rfl) (hb hby d6_14) (fun _ _ => ⟨rfl, e_2, (by decide : 0 + 0 ≤ _), (by decide : 0 + 0 ≤ _)⟩)
 dsimp only [Pt.U, Pt.locs, Pt.cells, Pt.slots] at X_3 l_3 y_3 z_3 st_3 hQ_3
 subst l_3 y_3 z_3
 obtain ⟨rfl, Nq_3, e_3⟩ := hQ_3
 have N_3 := Fr.app N_2 Nq_3
 refine own_tr st_3 ?_
 show own_Go _ _ _ _ (T_3.setTop (mkF m 17 #[rv a1, iv p1, iv 0, iv (own_size p1)] []))
 refine o_aloadN X_3 Hq d6_17 rfl rfl ?_
 refine c_U0 X_3 Hq e_3 hZ hown hml (k6_83U1 hw) (rmASBl1 hw a1 w h0 n0 Z0 Fc S1 hw0) E1 d6_18 ?_ 0
 rintro T_4 L_4 _ X_4 ⟨⟨⟩, Nq_4, e_4⟩
 have N_4 := Fr.app N_3 Nq_4
 refine o_ifNo X_4 Hq d6_21 (by decide) (o_iloadN X_4 Hq d6_24 rfl (o_iloadN X_4 Hq d6_25 rfl (o_aloadN X_4 Hq d6_26 rfl rfl ?_)))
 obtain ⟨T_5, X_5, e_5, st_5⟩ := getF X_4 hx hZ hown (host := "") (Or.inl (w_ hw 22 rfl)) Via.refl e_4 Fv (g := (mkF m 27 #[rv a1, iv p1, iv 0, iv (own_size p1)] [(.ref a1), (.int (own_size p1)), (.int p1)])) rfl rfl (hb hby d6_27)
 refine own_st st_5 ?_
 show own_Go _ _ _ _ (T_5.setTop (mkF m 30 #[rv a1, iv p1, iv 0, iv (own_size p1)] [(.ref b), (.int (own_size p1)), (.int p1)]))
 refine c_S3 X_5 Hq e_5 hZ hown hml (k6_248 hw) (rm10 hw p1 (own_size p1) b aO aT kO kT vO vT dO dT kb h0 n0 Z0 SO ST VO VT hO hT Vb gb nO2 nT2 rfl) d6_30 ?_ 0
 rintro T_6 L_6 _ X_6 ⟨⟨⟩, Nq_6, K_6, Fq_6_0⟩
 have N_6 := Fr.app N_4 Nq_6
 refine o_pop X_6 Hq d6_33 rfl (o_goto X_6 Hq (pc' := 48) d6_34 (o_aloadN X_6 Hq d6_48 rfl rfl (o_iloadN X_6 Hq d6_49 rfl ?_)))
 have Fa_7 := (Fn.keep K_6 (ninS (Ne.symm nb) nin0))
 have Fa_8 := (E1.keep K_6)
 obtain ⟨T_9, h_9, X_9, e_9, W_9, st_9⟩ := putF X_6 hx hZ hown (host := "") (Or.inl (w_ hw 36 rfl)) Via.refl rfl Fa_7 Fa_8 (Or.inl (w_ hw 37 rfl)) (w_ hw 5 rfl) (ty := .int) (by decide) rfl rfl (g := (mkF m 50 #[rv a1, iv p1, iv 0, iv (own_size p1)] [(.int (own_size p1)), (.ref a1)])) rfl rfl (hb hby d6_50)
 refine own_st st_9 ?_
 have N_9 := Fr.snoc X_9 N_6 g1
 show own_Go _ _ _ _ (T_9.setTop (mkF m 53 #[rv a1, iv p1, iv 0, iv (own_size p1)] []))
 refine o_aloadN X_9 Hq d6_53 rfl rfl ?_
 have Kp_10 : Keep h0 h_9 [a1, b] := (((Keep.refl h0 [a1, b]).trans K_6 (allS (Or.inl (List.mem_of_getElem? (i := 1) rfl)) all0)).wr W_9 (Or.inl (List.mem_of_getElem? (i := 0) rfl)))
 have Fa_11 := ((Fv.keep K_6 (ninS (Ne.symm nb) nin0)).other W_9 (Or.inr (slot_ne (Or.inl (w_ hw 23 rfl)) (Or.inl (w_ hw 37 rfl)) (by decide) (t := (.array .byte)) (t' := .int) (by decide) (by decide))))
 have Fa_12 := ((Fc.keep K_6 (ninS (Ne.symm nb) nin0)).other W_9 (Or.inr (slot_ne (Or.inl (w_ hw 25 rfl)) (Or.inl (w_ hw 37 rfl)) (by decide) (t := .byte) (t' := .int) (by decide) (by decide))))
 have Fa_13 := (Fa_7.same W_9)
 have Fa_14 := (Fq_6_0.other W_9 nb)
 exact e_R X_9 e_9 Hq hlk rfl rfl hrt d6_54 ⟨rfl, N_9, Kp_10, Fa_11, Fa_12, Fa_13, Fa_14⟩
abbrev D5 := decode jdk_67_method_15_code
theorem d5_0 : D5 0 = .ok (.aload_n 0, 1) := by decide +kernel
theorem d5_1 : D5 1 = .ok (.iload_n 1, 1) := by decide +kernel
theorem d5_2 : D5 2 = .ok (.invokespecial 53, 3) := by decide +kernel
theorem pd_12 : parseMethodDescriptor "(I)Ljava/lang/AbstractStringBuilder;" = some ⟨[.int], some (.object "java/lang/AbstractStringBuilder")⟩ := by decide +kernel
theorem d5_5 : D5 5 = .ok (.pop, 1) := by decide +kernel
theorem d5_6 : D5 6 = .ok (.aload_n 0, 1) := by decide +kernel
theorem d5_7 : D5 7 = .ok (.areturn, 1) := by decide +kernel
def Q_rmba (Z : State) (a0 : Array Value) (a1 : Addr) (p1 : Int32) (b : Addr) (kb : ClassId) (aO aT : Addr) (kO kT : ClassId) (vO vT : List Value) (dO dT : Value) (w : Int32) (h0 : Heap) (n0 : Nat) (v : Option Value) (h : Heap) (L : List Loc) : Prop := v = some (.ref a1) ∧ Fr n0 L ∧ Keep h0 h [a1, b] ∧ Fld Z h a1 "java/lang/AbstractStringBuilder" "value" "[B" (.ref b) ∧ Fld Z h a1 "java/lang/AbstractStringBuilder" "coder" "B" (.int (0 : Int32)) ∧ Fld Z h a1 "java/lang/AbstractStringBuilder" "count" "I" (.int (own_size p1)) ∧ Arv Z h b kb .byte (16 : Int32) (own_LI (own_pt p1 0) (16 : Int32)) (.int (0 : Int32))
theorem rmba (hw : HW a0 Z) (a1 : Addr) (p1 : Int32) (b : Addr) (kb : ClassId) (aO aT : Addr) (kO kT : ClassId) (vO vT : List Value) (dO dT : Value) (w : Int32) (h0 : Heap) (n0 : Nat) (Z0 : n0 ≤ h0.size) (E1 : Exa Z h0 a1 "java/lang/StringBuilder") (g1 : n0 ≤ a1) (Fv : Fld Z h0 a1 "java/lang/AbstractStringBuilder" "value" "[B" (.ref b)) (Fc : Fld Z h0 a1 "java/lang/AbstractStringBuilder" "coder" "B" (.int (0 : Int32))) (gb : n0 ≤ b) (nb : b ≠ a1) (Fn : Fld Z h0 a1 "java/lang/AbstractStringBuilder" "count" "I" (.int (0 : Int32))) (Vb : Arv Z h0 b kb .byte (16 : Int32) (own_LI own_z (16 : Int32)) (.int (0 : Int32))) (SO : Sta Z h0 "java/lang/Integer" "DigitOnes" "[B" (.ref aO)) (ST : Sta Z h0 "java/lang/Integer" "DigitTens" "[B" (.ref aT)) (VO : Arv Z h0 aO kO .byte (100 : Int32) vO dO) (VT : Arv Z h0 aT kT .byte (100 : Int32) vT dT) (hO : ∀ j : Int32, ¬ j < 0 → j < (100 : Int32) → vO.getD j.toNatClampNeg dO = .int (own_one j)) (hT : ∀ j : Int32, ¬ j < 0 → j < (100 : Int32) → vT.getD j.toNatClampNeg dT = .int (own_ten j)) (nO1 : aO ≠ a1) (nO2 : aO ≠ b) (nT1 : aT ≠ a1) (nT2 : aT ≠ b) (S1 : Sta Z h0 "java/lang/String" "COMPACT_STRINGS" "Z" (.int w)) (hw0 : ¬ w = (0 : Int32)) :
  own_Met l y28_ jdk_67_method_15_code 2 (some (.object "java/lang/StringBuilder")) (R_ 2 0 0 33) #[(.ref a1), (.int p1)] Z h0 (Q_rmba Z a0 a1 p1 b kb aO aT kO kT vO vT dO dT w h0 n0) := by
 refine own_bd (own := "java/lang/StringBuilder") rfl (plainFor_of_name pn_2) #[rv a1, iv p1] ?_
 intro p e s m below meth c s₁ hx hby Hq hml hown hnm hlk hrt hZ X0 e0
 refine o_aloadN X0 Hq d5_0 rfl rfl (o_iloadN X0 Hq d5_1 rfl ?_)
 obtain ⟨_, _, ⟨T_1, L_1, k_1, n_1⟩, -, X_1, ⟨Lc_1, hQ_1, l_1, y_1, z_1⟩, st_1⟩ := superBack X0 hx hZ (y := y27_) hown (w_ hw 31 rfl) (own_same (y := y27_) (w_ hw 32 rfl) (w_ hw 45 rfl) rfl (by decide)) (w_ hw 32 rfl) (w_ hw 33 rfl) (by decide) (backOf (W := 0) (rmaa hw a1 p1 b kb aO aT kO kT vO vT dO dT w h0 n0 Z0 E1 g1 Fv Fc gb nb Fn Vb SO ST VO VT hO hT nO1 nO2 nT1 nT2 S1 hw0) hZ (w_ hw 35 rfl) (w_ hw 14 rfl) (by decide) (by decide)) e0 (a := a1) (Ins.self E1) (g := (mkF m 2 #[rv a1, iv p1] [(.int p1), (.ref a1)])) rfl (by rw [hml]; rfl) (w_ hw 35 rfl) (argsL := [(.int p1)]) (rest := []) (lenOf pd_12 rfl) rfl (z_ rfl) (hb hby d5_2) (fun _ _ => ⟨rfl, e0, (by decide : 0 + 0 ≤ _), (by decide : 0 + 0 ≤ _)⟩)
 dsimp only [Pt.U, Pt.locs, Pt.cells, Pt.slots] at X_1 l_1 y_1 z_1 st_1 hQ_1
 subst l_1 y_1 z_1
 obtain ⟨rfl, Nq_1, K_1, Fq_1_0, Fq_1_1, Fq_1_2, Fq_1_3⟩ := hQ_1
 have N_1 := Fr.app (Fr.nil n0) Nq_1
 refine own_tr st_1 ?_
 show own_Go _ _ _ _ (T_1.setTop (mkF m 5 #[rv a1, iv p1] [(.ref a1)]))
 refine o_pop X_1 Hq d5_5 rfl (o_aloadN X_1 Hq d5_6 rfl rfl ?_)
 have Kp_2 : Keep h0 T_1.heap [a1, b] := ((Keep.refl h0 [a1, b]).trans K_1 (allS (Or.inl (List.mem_of_getElem? (i := 0) rfl)) (allS (Or.inl (List.mem_of_getElem? (i := 1) rfl)) all0)))
 exact e_R X_1 rfl Hq hlk rfl rfl hrt d5_7 ⟨rfl, N_1, Kp_2, Fq_1_0, Fq_1_1, Fq_1_2, Fq_1_3⟩
abbrev D16 := decode jdk_68_method_71_code
theorem d16_0 : D16 0 = .ok (.getstatic 18, 3) := by decide +kernel
theorem d16_3 : D16 3 = .ok (.ifCond .eq 18, 3) := by decide +kernel
theorem d16_6 : D16 6 = .ok (.aload_n 0, 1) := by decide +kernel
theorem d16_7 : D16 7 = .ok (.getfield 22, 3) := by decide +kernel
theorem d16_10 : D16 10 = .ok (.aload_n 1, 1) := by decide +kernel
theorem d16_11 : D16 11 = .ok (.invokevirtual 40, 3) := by decide +kernel
theorem k16_40U1 {a0 : Array Value} {Z : State} (hw : HW a0 Z) : own_KU a0 Z "java/lang/AbstractStringBuilder" "java/lang/String" 40 y2_ y2_ jdk_42_method_152_code 1 (some .byte) 0 := ⟨⟨(w_ hw 94 rfl), ⟨_, _, pd_3, rfl⟩, by decide⟩, (w_ hw 78 rfl), (w_ hw 80 rfl), (w_ hw 79 rfl), (w_ hw 20 rfl), (w_ hw 81 rfl)⟩
theorem d16_14 : D16 14 = .ok (.if_icmp .eq 7, 3) := by decide +kernel
theorem d16_21 : D16 21 = .ok (.return_, 1) := by decide +kernel
def Q_rm16 (Z : State) (a0 : Array Value) (a1 a2 : Addr) (w : Int32) (h0 : Heap) (n0 : Nat) (v : Option Value) (h : Heap) (L : List Loc) : Prop := v = none ∧ Fr n0 L ∧ h = h0
theorem rm16 (hw : HW a0 Z) (a1 a2 : Addr) (w : Int32) (h0 : Heap) (n0 : Nat) (Z0 : n0 ≤ h0.size) (Fc : Fld Z h0 a1 "java/lang/AbstractStringBuilder" "coder" "B" (.int (0 : Int32))) (E2 : Exa Z h0 a2 "java/lang/String") (Fc2 : Fld Z h0 a2 "java/lang/String" "coder" "B" (.int (0 : Int32))) (S1 : Sta Z h0 "java/lang/String" "COMPACT_STRINGS" "Z" (.int w)) (hw0 : ¬ w = (0 : Int32)) :
  own_Met l y29_ jdk_68_method_71_code 2 none (R_ 1 0 0 13) #[(.ref a1), (.ref a2)] Z h0 (Q_rm16 Z a0 a1 a2 w h0 n0) := by
 refine own_bd (own := "java/lang/AbstractStringBuilder") rfl (plainFor_of_name pn_3) #[rv a1, rv a2] ?_
 intro p e s m below meth c s₁ hx hby Hq hml hown hnm hlk hrt hZ X0 e0
 obtain ⟨T_1, X_1, e_1, st_1⟩ := getS2 X0 hx hZ hown (host := "") (Or.inl (w_ hw 19 rfl)) Via.refl e0 S1 (g := (mkF m 0 #[rv a1, rv a2] [])) rfl (hb hby d16_0)
 refine own_st st_1 ?_
 show own_Go _ _ _ _ (T_1.setTop (mkF m 3 #[rv a1, rv a2] [(.int w)]))
 refine o_ifNo X_1 Hq d16_3 (feq hw0).1 (o_aloadN X_1 Hq d16_6 rfl rfl ?_)
 obtain ⟨T_2, X_2, e_2, st_2⟩ := getF X_1 hx hZ hown (host := "") (Or.inl (w_ hw 24 rfl)) Via.refl e_1 Fc (g := (mkF m 7 #[rv a1, rv a2] [(.ref a1)])) rfl rfl (hb hby d16_7)
 refine own_st st_2 ?_
 show own_Go _ _ _ _ (T_2.setTop (mkF m 10 #[rv a1, rv a2] [(.int 0)]))
 refine o_aloadN X_2 Hq d16_10 rfl rfl ?_
 refine c_U0 X_2 Hq e_2 hZ hown hml (k16_40U1 hw) (rm14 hw a2 w h0 n0 Z0 Fc2 S1 hw0) E2 d16_11 ?_ 1
 rintro T_3 L_3 _ X_3 ⟨⟨⟩, Nq_3, e_3⟩
 have N_3 := Fr.app (Fr.nil n0) Nq_3
 refine o_icmpYes X_3 Hq (pc' := 21) d16_14 (by decide) ?_
 exact e_V X_3 e_3 Hq hlk hrt d16_21 ⟨rfl, N_3, rfl⟩
abbrev D17 := decode jdk_42_method_147_code
theorem d17_0 : D17 0 = .ok (.aload_n 0, 1) := by decide +kernel
theorem d17_1 : D17 1 = .ok (.invokevirtual 335, 3) := by decide +kernel
theorem k17_335U1 {a0 : Array Value} {Z : State} (hw : HW a0 Z) : own_KU a0 Z "java/lang/String" "java/lang/String" 335 y2_ y2_ jdk_42_method_152_code 1 (some .byte) 0 := ⟨⟨(w_ hw 77 rfl), ⟨_, _, pd_3, rfl⟩, by decide⟩, (w_ hw 78 rfl), (w_ hw 80 rfl), (w_ hw 79 rfl), (w_ hw 20 rfl), (w_ hw 81 rfl)⟩
theorem d17_4 : D17 4 = .ok (.iload_n 3, 1) := by decide +kernel
theorem d17_5 : D17 5 = .ok (.if_icmp .ne 23, 3) := by decide +kernel
theorem d17_8 : D17 8 = .ok (.aload_n 0, 1) := by decide +kernel
theorem d17_9 : D17 9 = .ok (.getfield 9, 3) := by decide +kernel
theorem d17_12 : D17 12 = .ok (.iconst 0, 1) := by decide +kernel
theorem d17_13 : D17 13 = .ok (.aload_n 1, 1) := by decide +kernel
theorem d17_14 : D17 14 = .ok (.iload_n 2, 1) := by decide +kernel
theorem d17_15 : D17 15 = .ok (.iload_n 3, 1) := by decide +kernel
theorem d17_16 : D17 16 = .ok (.ishl, 1) := by decide +kernel
theorem d17_17 : D17 17 = .ok (.aload_n 0, 1) := by decide +kernel
theorem d17_18 : D17 18 = .ok (.getfield 9, 3) := by decide +kernel
theorem d17_21 : D17 21 = .ok (.arraylength, 1) := by decide +kernel
theorem d17_22 : D17 22 = .ok (.invokestatic 212, 3) := by decide +kernel
theorem d17_25 : D17 25 = .ok (.goto 18, 3) := by decide +kernel
theorem d17_43 : D17 43 = .ok (.return_, 1) := by decide +kernel
def Q_rm17 (Z : State) (a0 : Array Value) (a1 a2 : Addr) (p3 : Int32) (b3 : Addr) (k3 kb : ClassId) (t : Int32) (f3 : Nat → Int32) (K : Int32) (g : Nat → Int32) (w : Int32) (h0 : Heap) (n0 : Nat) (v : Option Value) (h : Heap) (L : List Loc) : Prop := v = none ∧ Fr n0 L ∧ Keep h0 h [a2] ∧ Arv Z h a2 kb .byte K (own_LI (own_cp g f3 p3.toNatClampNeg t.toNatClampNeg) K) (.int (0 : Int32))
theorem rm17 (hw : HW a0 Z) (a1 a2 : Addr) (p3 : Int32) (b3 : Addr) (k3 kb : ClassId) (t : Int32) (f3 : Nat → Int32) (K : Int32) (g : Nat → Int32) (w : Int32) (h0 : Heap) (n0 : Nat) (Z0 : n0 ≤ h0.size) (E2 : Exa Z h0 a1 "java/lang/String") (Fv2 : Fld Z h0 a1 "java/lang/String" "value" "[B" (.ref b3)) (Fc2 : Fld Z h0 a1 "java/lang/String" "coder" "B" (.int (0 : Int32))) (V3 : Arv Z h0 b3 k3 .byte t (own_LI f3 t) (.int (0 : Int32))) (Vb : Arv Z h0 a2 kb .byte K (own_LI g K) (.int (0 : Int32))) (gb : n0 ≤ a2) (hn0 : ¬ p3 < 0) (ht0 : ¬ t < 0) (hnt : p3.toNatClampNeg + t.toNatClampNeg ≤ K.toNatClampNeg) (S1 : Sta Z h0 "java/lang/String" "COMPACT_STRINGS" "Z" (.int w)) (hw0 : ¬ w = (0 : Int32)) :
  own_Met l y30_ jdk_42_method_147_code 4 none (R_ 1 0 0 18) #[(.ref a1), (.ref a2), (.int p3), (.int (0 : Int32))] Z h0 (Q_rm17 Z a0 a1 a2 p3 b3 k3 kb t f3 K g w h0 n0) := by
 refine own_bd (own := "java/lang/String") rfl (plainFor_of_name pn_33) #[rv a1, rv a2, iv p3, iv 0] ?_
 intro p e s m below meth c s₁ hx hby Hq hml hown hnm hlk hrt hZ X0 e0
 refine o_aloadN X0 Hq d17_0 rfl rfl ?_
 refine c_U0 X0 Hq e0 hZ hown hml (k17_335U1 hw) (rm14 hw a1 w h0 n0 Z0 Fc2 S1 hw0) E2 d17_1 ?_ 0
 rintro T_1 L_1 _ X_1 ⟨⟨⟩, Nq_1, e_1⟩
 have N_1 := Fr.app (Fr.nil n0) Nq_1
 refine o_iloadN X_1 Hq d17_4 rfl (o_icmpNo X_1 Hq d17_5 (by decide) (o_aloadN X_1 Hq d17_8 rfl rfl ?_))
 obtain ⟨T_2, X_2, e_2, st_2⟩ := getF X_1 hx hZ hown (host := "") (Or.inl (w_ hw 76 rfl)) Via.refl e_1 Fv2 (g := (mkF m 9 #[rv a1, rv a2, iv p3, iv 0] [(.ref a1)])) rfl rfl (hb hby d17_9)
 refine own_st st_2 ?_
 show own_Go _ _ _ _ (T_2.setTop (mkF m 12 #[rv a1, rv a2, iv p3, iv 0] [(.ref b3)]))
 refine o_iconst X_2 Hq 0 d17_12 rfl (o_aloadN X_2 Hq d17_13 rfl rfl (o_iloadN X_2 Hq d17_14 rfl (o_iloadN X_2 Hq d17_15 rfl (o_ishl X_2 Hq d17_16 ?_))))
 rw [own_shl0]
 refine o_aloadN X_2 Hq d17_17 rfl rfl ?_
 obtain ⟨T_3, X_3, e_3, st_3⟩ := getF X_2 hx hZ hown (host := "") (Or.inl (w_ hw 76 rfl)) Via.refl e_2 Fv2 (g := (mkF m 18 #[rv a1, rv a2, iv p3, iv 0] [(.ref a1), (.int p3), (.ref a2), (.int 0), (.ref b3)])) rfl rfl (hb hby d17_18)
 refine own_st st_3 ?_
 show own_Go _ _ _ _ (T_3.setTop (mkF m 21 #[rv a1, rv a2, iv p3, iv 0] [(.ref b3), (.int p3), (.ref a2), (.int 0), (.ref b3)]))
 obtain ⟨cl_4, Ar_4, qk_4, Sz_4, Ng_4, Hs_4, Gs_4⟩ := id V3
 refine own_st (X_3.arraylength hx (by rw [e_3]; exact Ar_4.1) (State.isArrayOf_alike hZ.alike Ar_4.2.1) (g := (mkF m 21 #[rv a1, rv a2, iv p3, iv 0] [(.ref b3), (.int p3), (.ref a2), (.int 0), (.ref b3)])) rfl rfl (hb hby d17_21)) ?_
 rw [len_of Sz_4 Ng_4]
 show own_Go _ _ _ _ (T_3.setTop (mkF m 22 #[rv a1, rv a2, iv p3, iv 0] [(.int t), (.int p3), (.ref a2), (.int 0), (.ref b3)]))
 obtain ⟨T_5, h_5, L_5, X_5, e_5, N_5, K_5, V_5, st_5⟩ := cpA X_3 hx hZ hown (w_ hw 100 rfl) (w_ hw 103 rfl) (w_ hw 101 rfl) (w_ hw 102 rfl) e_3 V3 Vb (Or.inl ⟨rfl, rfl⟩) (sp := (0 : Int32)) (dp := p3) (nn := t) (by decide) hn0 ht0 (Nat.le_trans (Nat.le_of_eq (Nat.zero_add _)) (Nat.le_refl _)) hnt rfl (Nat.le_trans hnt (Nat.le_of_eq (own_LI_len _ _).symm)) N_1 gb (g := (mkF m 22 #[rv a1, rv a2, iv p3, iv 0] [(.int t), (.int p3), (.ref a2), (.int 0), (.ref b3)])) rfl (by rw [hml]; rfl) rfl (hb hby d17_22) (by decide) (W := 0) (z_ rfl) (by decide)
 have Va_5 : Arv Z h_5 a2 kb .byte K (own_LI (own_cp g f3 p3.toNatClampNeg t.toNatClampNeg) K) (.int (0 : Int32)) := own_Arv_cg (own_cpy _ _ _ _ _ _ (Nat.le_refl _) hnt) V_5
 refine own_st st_5 ?_
 show own_Go _ _ _ _ (T_5.setTop (mkF m 25 #[rv a1, rv a2, iv p3, iv 0] []))
 refine o_goto X_5 Hq (pc' := 43) d17_25 ?_
 have Kp_6 : Keep h0 h_5 [a2] := ((Keep.refl h0 [a2]).trans K_5 (allS (Or.inl (List.mem_of_getElem? (i := 0) rfl)) all0))
 exact e_V X_5 e_5 Hq hlk hrt d17_43 ⟨rfl, N_5, Kp_6, Va_5⟩
abbrev D15 := decode jdk_68_method_73_code
theorem d15_0 : D15 0 = .ok (.aload_n 0, 1) := by decide +kernel
theorem d15_1 : D15 1 = .ok (.aload_n 2, 1) := by decide +kernel
theorem d15_2 : D15 2 = .ok (.invokevirtual 397, 3) := by decide +kernel
theorem pd_13 : parseMethodDescriptor "(Ljava/lang/String;)V" = some ⟨[(.object "java/lang/String")], none⟩ := by decide +kernel
theorem d15_5 : D15 5 = .ok (.aload_n 2, 1) := by decide +kernel
theorem d15_6 : D15 6 = .ok (.aload_n 0, 1) := by decide +kernel
theorem d15_7 : D15 7 = .ok (.getfield 15, 3) := by decide +kernel
theorem d15_10 : D15 10 = .ok (.iload_n 1, 1) := by decide +kernel
theorem d15_11 : D15 11 = .ok (.aload_n 0, 1) := by decide +kernel
theorem d15_12 : D15 12 = .ok (.getfield 22, 3) := by decide +kernel
theorem d15_15 : D15 15 = .ok (.invokevirtual 399, 3) := by decide +kernel
theorem pd_14 : parseMethodDescriptor "([BIB)V" = some ⟨[(.array .byte), .int, .byte], none⟩ := by decide +kernel
section Sm
variable {p : Program} {l : Launch} {e : Env} {R : Room} {s : State} {m : MethodId} {args : Array Value} {below : List Frame} {meth : Method} {c : Code} {T : State} {locs : List Loc} {cells slots : Nat} {P : Outcome → State → Prop} {pc : Nat} {Ls : Array Slot} {st : List Value}
theorem c_U3v (X : Stand p l e R s m args below meth c T locs cells slots) {cb : ByteArray} (hq : p.tables.exec = Jvm.exec ∧ c.code = cb) {Z : State} {a0 : Array Value} {h : Heap} {own C : String} {index : Nat} {y z : MethodName} {bytes : ByteArray} {maxL ML : Nat} {ret : Option FieldType} {rm : Room} {Q : Option Value → Heap → List Loc → Prop} {a : Addr} {v1 v2 v3 : Value}
  (eT : T.heap = h) (hZ : Z.Warmed39 s.vm) (hown : s.vm.findClass own = some m.cls) (hml : c.maxLocals = ML) (hK : own_KU a0 Z own C index y z bytes maxL ret 3) (hM : own_Met l y bytes maxL ret rm #[(.ref a), v1, v2, v3] Z h Q) (E : Exa Z h a C)
  (hd : decode cb pc = .ok (.invokevirtual index, 3)) 
  (k : ∀ (T' : State) (L : List Loc), Stand p l e R s m args below meth c T' (locs ++ L) (cells + rm.cells) (slots + rm.slots) → Q none T'.heap L → own_Go p.tables e below P (T'.setTop (mkF m (pc + 3) Ls st))) (W : Nat) (hsz : Ls.size = ML := by rfl) (hW : (st.map fun v => v.category).sum = W := by rfl) (sd : rm.frames + 1 ≤ R.frames ∧ W + (maxL + 11) + rm.locals ≤ R.locals ∧ cells + rm.cells ≤ R.cells ∧ slots + rm.slots ≤ R.slots := by decide) (hv : ∀ v h L, Q v h L → v = none := by intro v h L q; first | exact id q.1 | (obtain ⟨_, q⟩ := q; exact id q.1) | (obtain ⟨_, _, q⟩ := q; exact id q.1) | (obtain ⟨_, _, _, q⟩ := q; exact id q.1)) : own_Go p.tables e below P (T.setTop (mkF m pc Ls (v3 :: v2 :: v1 :: (.ref a) :: st))) := by
 obtain ⟨⟨w1, ⟨ps, r, hp, hlen⟩, hy⟩, w2, w5, w6, w3, w4⟩ := hK
 obtain ⟨cB, kB, q1, -, q3⟩ := isOf hZ eT E
 have nf : NotFace s y := notFace_of_selects (args := #[]) (mvT hZ w5)
 obtain ⟨v, vm1, ⟨T', L0, k0, n0⟩, -, X', ⟨L, hQ, e1, e2, e3⟩, hst⟩ := X.virtualBack hq.1 (y := y) (z := y) hown (mvT hZ w1) (mvT hZ w2) nf (mvT hZ w5) (mvT hZ w6) hy (backOf (W := W) (Q := Q) hM hZ w4 w3 sd.1 sd.2.1) q1 q3 (g := mkF m pc Ls (v3 :: v2 :: v1 :: (.ref a) :: st)) rfl (by rw [hml]; exact hsz) (Steps.refl _) (argsL := [v1, v2, v3]) (rest := st) (lenOf hp hlen) rfl (by show 2 * 0 + _ ≤ _; rw [Nat.mul_zero, Nat.zero_add]; exact Nat.le_of_eq hW) (hb hq.2 hd) (fun _ _ => ⟨rfl, eT, sd.2.2.1, sd.2.2.2⟩)
 dsimp only [Pt.U, Pt.locs, Pt.cells, Pt.slots] at X' e1 e2 e3 hst hQ
 subst e1 e2 e3
 obtain rfl := hv _ _ _ hQ
 exact own_tr hst (k _ _ X' hQ)
end Sm
theorem k15_399U1 {a0 : Array Value} {Z : State} (hw : HW a0 Z) : own_KU a0 Z "java/lang/AbstractStringBuilder" "java/lang/String" 399 y30_ y30_ jdk_42_method_147_code 4 none 3 := ⟨⟨(w_ hw 95 rfl), ⟨_, _, pd_14, rfl⟩, by decide⟩, (w_ hw 96 rfl), (w_ hw 98 rfl), (w_ hw 97 rfl), (w_ hw 20 rfl), (w_ hw 99 rfl)⟩
theorem d15_18 : D15 18 = .ok (.return_, 1) := by decide +kernel
def Q_rm15 (Z : State) (a0 : Array Value) (a1 : Addr) (p2 : Int32) (a2 b : Addr) (kb : ClassId) (b3 : Addr) (k3 : ClassId) (t : Int32) (f3 : Nat → Int32) (K : Int32) (g : Nat → Int32) (w : Int32) (h0 : Heap) (n0 : Nat) (v : Option Value) (h : Heap) (L : List Loc) : Prop := v = none ∧ Fr n0 L ∧ Keep h0 h [b] ∧ Arv Z h b kb .byte K (own_LI (own_cp g f3 p2.toNatClampNeg t.toNatClampNeg) K) (.int (0 : Int32))
theorem rm15 (hw : HW a0 Z) (a1 : Addr) (p2 : Int32) (a2 b : Addr) (kb : ClassId) (b3 : Addr) (k3 : ClassId) (t : Int32) (f3 : Nat → Int32) (K : Int32) (g : Nat → Int32) (w : Int32) (h0 : Heap) (n0 : Nat) (Z0 : n0 ≤ h0.size) (E1 : Exa Z h0 a1 "java/lang/StringBuilder") (Fv : Fld Z h0 a1 "java/lang/AbstractStringBuilder" "value" "[B" (.ref b)) (Fc : Fld Z h0 a1 "java/lang/AbstractStringBuilder" "coder" "B" (.int (0 : Int32))) (E2 : Exa Z h0 a2 "java/lang/String") (Fv2 : Fld Z h0 a2 "java/lang/String" "value" "[B" (.ref b3)) (Fc2 : Fld Z h0 a2 "java/lang/String" "coder" "B" (.int (0 : Int32))) (V3 : Arv Z h0 b3 k3 .byte t (own_LI f3 t) (.int (0 : Int32))) (Vb : Arv Z h0 b kb .byte K (own_LI g K) (.int (0 : Int32))) (gb : n0 ≤ b) (hn0 : ¬ p2 < 0) (ht0 : ¬ t < 0) (hnt : p2.toNatClampNeg + t.toNatClampNeg ≤ K.toNatClampNeg) (S1 : Sta Z h0 "java/lang/String" "COMPACT_STRINGS" "Z" (.int w)) (hw0 : ¬ w = (0 : Int32)) :
  own_Met l y8_ jdk_68_method_73_code 3 none (R_ 2 0 0 33) #[(.ref a1), (.int p2), (.ref a2)] Z h0 (Q_rm15 Z a0 a1 p2 a2 b kb b3 k3 t f3 K g w h0 n0) := by
 refine own_bd (own := "java/lang/AbstractStringBuilder") rfl (plainFor_of_name pn_3) #[rv a1, iv p2, rv a2] ?_
 intro p e s m below meth c s₁ hx hby Hq hml hown hnm hlk hrt hZ X0 e0
 refine o_aloadN X0 Hq d15_0 rfl rfl (o_aloadN X0 Hq d15_1 rfl rfl ?_)
 obtain ⟨cq_1, q_1, q_1'⟩ := E1.cell
 obtain ⟨_, _, ⟨T_1, L_1, k_1, n_1⟩, -, X_1, ⟨Lc_1, hQ_1, l_1, y_1, z_1⟩, st_1⟩ := X0.privateBack hx (y := y29_) hown (v_ hZ hw 89 rfl) (v_ hZ hw 90 rfl) (own_selQ (y := y29_) (v_ hZ hw 92 rfl) (v_ hZ hw 90 rfl) (Cond.privateMethod_at (mvP hZ (w_ hw 91 rfl) (args := #[]))) (by decide)) (Cond.privateMethod_at (mvP hZ (w_ hw 91 rfl) (args := #[]))) (v_ hZ hw 93 rfl) (by decide) (backOf (W := 0) (rm16 hw a1 a2 w h0 n0 Z0 Fc E2 Fc2 S1 hw0) hZ (w_ hw 93 rfl) (w_ hw 14 rfl) (by decide) (by decide)) (g := (mkF m 2 #[rv a1, iv p2, rv a2] [(.ref a2), (.ref a1)])) rfl (by rw [hml]; rfl) (Steps.refl _) (a := a1) (by rw [e0]; exact q_1) q_1' (argsL := [(.ref a2)]) (rest := []) (lenOf pd_13 rfl) rfl (z_ rfl) (hb hby d15_2) (fun _ _ => ⟨rfl, e0, (by decide : 0 + 0 ≤ _), (by decide : 0 + 0 ≤ _)⟩)
 dsimp only [Pt.U, Pt.locs, Pt.cells, Pt.slots] at X_1 l_1 y_1 z_1 st_1 hQ_1
 subst l_1 y_1 z_1
 obtain ⟨rfl, Nq_1, e_1⟩ := hQ_1
 have N_1 := Fr.app (Fr.nil n0) Nq_1
 refine own_tr st_1 ?_
 show own_Go _ _ _ _ (T_1.setTop (mkF m 5 #[rv a1, iv p2, rv a2] []))
 refine o_aloadN X_1 Hq d15_5 rfl rfl (o_aloadN X_1 Hq d15_6 rfl rfl ?_)
 obtain ⟨T_2, X_2, e_2, st_2⟩ := getF X_1 hx hZ hown (host := "") (Or.inl (w_ hw 22 rfl)) Via.refl e_1 Fv (g := (mkF m 7 #[rv a1, iv p2, rv a2] [(.ref a1), (.ref a2)])) rfl rfl (hb hby d15_7)
 refine own_st st_2 ?_
 show own_Go _ _ _ _ (T_2.setTop (mkF m 10 #[rv a1, iv p2, rv a2] [(.ref b), (.ref a2)]))
 refine o_iloadN X_2 Hq d15_10 rfl (o_aloadN X_2 Hq d15_11 rfl rfl ?_)
 obtain ⟨T_3, X_3, e_3, st_3⟩ := getF X_2 hx hZ hown (host := "") (Or.inl (w_ hw 24 rfl)) Via.refl e_2 Fc (g := (mkF m 12 #[rv a1, iv p2, rv a2] [(.ref a1), (.int p2), (.ref b), (.ref a2)])) rfl rfl (hb hby d15_12)
 refine own_st st_3 ?_
 show own_Go _ _ _ _ (T_3.setTop (mkF m 15 #[rv a1, iv p2, rv a2] [(.int 0), (.int p2), (.ref b), (.ref a2)]))
 refine c_U3v X_3 Hq e_3 hZ hown hml (k15_399U1 hw) (rm17 hw a2 b p2 b3 k3 kb t f3 K g w h0 n0 Z0 E2 Fv2 Fc2 V3 Vb gb hn0 ht0 hnt S1 hw0) E2 d15_15 ?_ 0
 rintro T_4 L_4 X_4 ⟨-, Nq_4, K_4, Fq_4_0⟩
 have N_4 := Fr.app N_1 Nq_4
 have Kp_5 : Keep h0 T_4.heap [b] := ((Keep.refl h0 [b]).trans K_4 (allS (Or.inl (List.mem_of_getElem? (i := 0) rfl)) all0))
 exact e_V X_4 rfl Hq hlk hrt d15_18 ⟨rfl, N_4, Kp_5, Fq_4_0⟩
abbrev D12 := decode jdk_68_method_22_code
theorem d12_0 : D12 0 = .ok (.aload_n 1, 1) := by decide +kernel
theorem d12_1 : D12 1 = .ok (.ifnonnull 8, 3) := by decide +kernel
theorem d12_9 : D12 9 = .ok (.aload_n 1, 1) := by decide +kernel
theorem d12_10 : D12 10 = .ok (.invokevirtual 32, 3) := by decide +kernel
theorem pd_15 : parseMethodDescriptor "()I" = some ⟨[], some .int⟩ := by decide +kernel
theorem k12_32U1 {a0 : Array Value} {Z : State} (hw : HW a0 Z) : own_KU a0 Z "java/lang/AbstractStringBuilder" "java/lang/String" 32 y5_ y5_ jdk_42_method_54_code 1 (some .int) 0 := ⟨⟨(w_ hw 71 rfl), ⟨_, _, pd_15, rfl⟩, by decide⟩, (w_ hw 72 rfl), (w_ hw 74 rfl), (w_ hw 73 rfl), (w_ hw 20 rfl), (w_ hw 75 rfl)⟩
theorem d12_13 : D12 13 = .ok (.istore_n 2, 1) := by decide +kernel
theorem d12_14 : D12 14 = .ok (.aload_n 0, 1) := by decide +kernel
theorem d12_15 : D12 15 = .ok (.aload_n 0, 1) := by decide +kernel
theorem d12_16 : D12 16 = .ok (.getfield 79, 3) := by decide +kernel
theorem d12_19 : D12 19 = .ok (.iload_n 2, 1) := by decide +kernel
theorem d12_20 : D12 20 = .ok (.iadd, 1) := by decide +kernel
theorem d12_21 : D12 21 = .ok (.invokevirtual 100, 3) := by decide +kernel
theorem d12_24 : D12 24 = .ok (.aload_n 0, 1) := by decide +kernel
theorem d12_25 : D12 25 = .ok (.aload_n 0, 1) := by decide +kernel
theorem d12_26 : D12 26 = .ok (.getfield 79, 3) := by decide +kernel
theorem d12_29 : D12 29 = .ok (.aload_n 1, 1) := by decide +kernel
theorem d12_30 : D12 30 = .ok (.invokevirtual 208, 3) := by decide +kernel
theorem pd_16 : parseMethodDescriptor "(ILjava/lang/String;)V" = some ⟨[.int, (.object "java/lang/String")], none⟩ := by decide +kernel
theorem d12_33 : D12 33 = .ok (.aload_n 0, 1) := by decide +kernel
theorem d12_34 : D12 34 = .ok (.dup, 1) := by decide +kernel
theorem d12_35 : D12 35 = .ok (.getfield 79, 3) := by decide +kernel
theorem d12_38 : D12 38 = .ok (.iload_n 2, 1) := by decide +kernel
theorem d12_39 : D12 39 = .ok (.iadd, 1) := by decide +kernel
theorem d12_40 : D12 40 = .ok (.putfield 79, 3) := by decide +kernel
theorem d12_43 : D12 43 = .ok (.aload_n 0, 1) := by decide +kernel
theorem d12_44 : D12 44 = .ok (.areturn, 1) := by decide +kernel
def Q_rmas0 (Z : State) (a0 : Array Value) (a1 a2 b : Addr) (kb : ClassId) (b3 : Addr) (k3 : ClassId) (t : Int32) (f3 : Nat → Int32) (g : Nat → Int32) (n cc w : Int32) (h0 : Heap) (n0 : Nat) (v : Option Value) (h : Heap) (L : List Loc) : Prop := v = some (.ref a1) ∧ Fr n0 L ∧ Keep h0 h [a1, b] ∧ Fld Z h a1 "java/lang/AbstractStringBuilder" "value" "[B" (.ref b) ∧ Fld Z h a1 "java/lang/AbstractStringBuilder" "coder" "B" (.int (0 : Int32)) ∧ Fld Z h a1 "java/lang/AbstractStringBuilder" "count" "I" (.int cc) ∧ Arv Z h b kb .byte (16 : Int32) (own_LI (own_cp g f3 n.toNatClampNeg t.toNatClampNeg) (16 : Int32)) (.int (0 : Int32))
theorem rmas0 (hw : HW a0 Z) (a1 a2 b : Addr) (kb : ClassId) (b3 : Addr) (k3 : ClassId) (t : Int32) (f3 : Nat → Int32) (g : Nat → Int32) (n cc w : Int32) (h0 : Heap) (n0 : Nat) (Z0 : n0 ≤ h0.size) (E1 : Exa Z h0 a1 "java/lang/StringBuilder") (g1 : n0 ≤ a1) (Fv : Fld Z h0 a1 "java/lang/AbstractStringBuilder" "value" "[B" (.ref b)) (Fc : Fld Z h0 a1 "java/lang/AbstractStringBuilder" "coder" "B" (.int (0 : Int32))) (gb : n0 ≤ b) (nb : b ≠ a1) (Fn : Fld Z h0 a1 "java/lang/AbstractStringBuilder" "count" "I" (.int n)) (Vb : Arv Z h0 b kb .byte (16 : Int32) (own_LI g (16 : Int32)) (.int (0 : Int32))) (E2 : Exa Z h0 a2 "java/lang/String") (Fv2 : Fld Z h0 a2 "java/lang/String" "value" "[B" (.ref b3)) (Fc2 : Fld Z h0 a2 "java/lang/String" "coder" "B" (.int (0 : Int32))) (V3 : Arv Z h0 b3 k3 .byte t (own_LI f3 t) (.int (0 : Int32))) (n21 : a2 ≠ a1) (n2b : a2 ≠ b) (n31 : b3 ≠ a1) (n3b : b3 ≠ b) (hn0 : ¬ n < 0) (ht0 : ¬ t < 0) (hnt : n.toNatClampNeg + t.toNatClampNeg ≤ (16 : Int32).toNatClampNeg) (hc : n + t = cc) (hec : ¬ (0 : Int32) < (cc - (16 : Int32))) (S1 : Sta Z h0 "java/lang/String" "COMPACT_STRINGS" "Z" (.int w)) (hw0 : ¬ w = (0 : Int32)) :
  own_Met l y4_ jdk_68_method_22_code 3 (some (.object "java/lang/AbstractStringBuilder")) (R_ 3 0 0 47) #[(.ref a1), (.ref a2)] Z h0 (Q_rmas0 Z a0 a1 a2 b kb b3 k3 t f3 g n cc w h0 n0) := by
 refine own_bd (own := "java/lang/AbstractStringBuilder") rfl (plainFor_of_name pn_3) #[rv a1, rv a2, .unset] ?_
 intro p e s m below meth c s₁ hx hby Hq hml hown hnm hlk hrt hZ X0 e0
 refine o_aloadN X0 Hq d12_0 rfl rfl (o_ifnonnullYes X0 Hq (pc' := 9) d12_1 (o_aloadN X0 Hq d12_9 rfl rfl ?_))
 refine c_U0 X0 Hq e0 hZ hown hml (k12_32U1 hw) (rmlenN hw a2 b3 k3 t (own_LI f3 t) (.int (0 : Int32)) w h0 n0 Z0 E2 Fv2 Fc2 V3 S1 hw0) E2 d12_10 ?_ 0
 rintro T_1 L_1 _ X_1 ⟨⟨⟩, Nq_1, e_1⟩
 have N_1 := Fr.app (Fr.nil n0) Nq_1
 refine o_istoreN X_1 Hq d12_13 (l' := #[rv a1, rv a2, iv t]) rfl (o_aloadN X_1 Hq d12_14 rfl rfl (o_aloadN X_1 Hq d12_15 rfl rfl ?_))
 obtain ⟨T_2, X_2, e_2, st_2⟩ := getF X_1 hx hZ hown (host := "") (Or.inl (w_ hw 36 rfl)) Via.refl e_1 Fn (g := (mkF m 16 #[rv a1, rv a2, iv t] [(.ref a1), (.ref a1)])) rfl rfl (hb hby d12_16)
 refine own_st st_2 ?_
 show own_Go _ _ _ _ (T_2.setTop (mkF m 19 #[rv a1, rv a2, iv t] [(.int n), (.ref a1)]))
 refine o_iloadN X_2 Hq d12_19 rfl (o_iadd X_2 Hq d12_20 ?_)
 rw [hc]
 obtain ⟨cq_3, q_3, q_3'⟩ := E1.cell
 obtain ⟨_, _, ⟨T_3, L_3, k_3, n_3⟩, -, X_3, ⟨Lc_3, hQ_3, l_3, y_3, z_3⟩, st_3⟩ := X_2.privateBack hx (y := y1_) hown (v_ hZ hw 42 rfl) (v_ hZ hw 43 rfl) (own_selQ (y := y1_) (v_ hZ hw 45 rfl) (v_ hZ hw 43 rfl) (Cond.privateMethod_at (mvP hZ (w_ hw 44 rfl) (args := #[]))) (by decide)) (Cond.privateMethod_at (mvP hZ (w_ hw 44 rfl) (args := #[]))) (v_ hZ hw 46 rfl) (by decide) (backOf (W := 0) (rmec hw a1 cc b kb (own_LI g (16 : Int32)) (.int (0 : Int32)) h0 n0 Z0 Fv Fc Vb hec) hZ (w_ hw 46 rfl) (w_ hw 14 rfl) (by decide) (by decide)) (g := (mkF m 21 #[rv a1, rv a2, iv t] [(.int cc), (.ref a1)])) rfl (by rw [hml]; rfl) (Steps.refl _) (a := a1) (by rw [e_2]; exact q_3) q_3' (argsL := [(.int cc)]) (rest := []) (lenOf pd_6 rfl) rfl (z_ rfl) (hb hby d12_21) (fun _ _ => ⟨rfl, e_2, (by decide : 0 + 0 ≤ _), (by decide : 0 + 0 ≤ _)⟩)
 dsimp only [Pt.U, Pt.locs, Pt.cells, Pt.slots] at X_3 l_3 y_3 z_3 st_3 hQ_3
 subst l_3 y_3 z_3
 obtain ⟨rfl, Nq_3, e_3⟩ := hQ_3
 have N_3 := Fr.app N_1 Nq_3
 refine own_tr st_3 ?_
 show own_Go _ _ _ _ (T_3.setTop (mkF m 24 #[rv a1, rv a2, iv t] []))
 refine o_aloadN X_3 Hq d12_24 rfl rfl (o_aloadN X_3 Hq d12_25 rfl rfl ?_)
 obtain ⟨T_4, X_4, e_4, st_4⟩ := getF X_3 hx hZ hown (host := "") (Or.inl (w_ hw 36 rfl)) Via.refl e_3 Fn (g := (mkF m 26 #[rv a1, rv a2, iv t] [(.ref a1), (.ref a1)])) rfl rfl (hb hby d12_26)
 refine own_st st_4 ?_
 show own_Go _ _ _ _ (T_4.setTop (mkF m 29 #[rv a1, rv a2, iv t] [(.int n), (.ref a1)]))
 refine o_aloadN X_4 Hq d12_29 rfl rfl ?_
 obtain ⟨cq_5, q_5, q_5'⟩ := E1.cell
 obtain ⟨_, _, ⟨T_5, L_5, k_5, n_5⟩, -, X_5, ⟨Lc_5, hQ_5, l_5, y_5, z_5⟩, st_5⟩ := X_4.privateBack hx (y := y8_) hown (v_ hZ hw 84 rfl) (v_ hZ hw 85 rfl) (own_selQ (y := y8_) (v_ hZ hw 87 rfl) (v_ hZ hw 85 rfl) (Cond.privateMethod_at (mvP hZ (w_ hw 86 rfl) (args := #[]))) (by decide)) (Cond.privateMethod_at (mvP hZ (w_ hw 86 rfl) (args := #[]))) (v_ hZ hw 88 rfl) (by decide) (backOf (W := 0) (rm15 hw a1 n a2 b kb b3 k3 t f3 (16 : Int32) g w h0 n0 Z0 E1 Fv Fc E2 Fv2 Fc2 V3 Vb gb hn0 ht0 hnt S1 hw0) hZ (w_ hw 88 rfl) (w_ hw 14 rfl) (by decide) (by decide)) (g := (mkF m 30 #[rv a1, rv a2, iv t] [(.ref a2), (.int n), (.ref a1)])) rfl (by rw [hml]; rfl) (Steps.refl _) (a := a1) (by rw [e_4]; exact q_5) q_5' (argsL := [(.int n), (.ref a2)]) (rest := []) (lenOf pd_16 rfl) rfl (z_ rfl) (hb hby d12_30) (fun _ _ => ⟨rfl, e_4, (by decide : 0 + 0 ≤ _), (by decide : 0 + 0 ≤ _)⟩)
 dsimp only [Pt.U, Pt.locs, Pt.cells, Pt.slots] at X_5 l_5 y_5 z_5 st_5 hQ_5
 subst l_5 y_5 z_5
 obtain ⟨rfl, Nq_5, K_5, Fq_5_0⟩ := hQ_5
 have N_5 := Fr.app N_3 Nq_5
 refine own_tr st_5 ?_
 show own_Go _ _ _ _ (T_5.setTop (mkF m 33 #[rv a1, rv a2, iv t] []))
 refine o_aloadN X_5 Hq d12_33 rfl rfl (o_dup X_5 Hq d12_34 rfl ?_)
 have Fa_6 := (Fn.keep K_5 (ninS (Ne.symm nb) nin0))
 obtain ⟨T_7, X_7, e_7, st_7⟩ := getF X_5 hx hZ hown (host := "") (Or.inl (w_ hw 36 rfl)) Via.refl rfl Fa_6 (g := (mkF m 35 #[rv a1, rv a2, iv t] [(.ref a1), (.ref a1)])) rfl rfl (hb hby d12_35)
 refine own_st st_7 ?_
 show own_Go _ _ _ _ (T_7.setTop (mkF m 38 #[rv a1, rv a2, iv t] [(.int n), (.ref a1)]))
 refine o_iloadN X_7 Hq d12_38 rfl (o_iadd X_7 Hq d12_39 ?_)
 rw [hc]
 have Fa_8 := (E1.keep K_5)
 obtain ⟨T_9, h_9, X_9, e_9, W_9, st_9⟩ := putF X_7 hx hZ hown (host := "") (Or.inl (w_ hw 36 rfl)) Via.refl e_7 Fa_6 Fa_8 (Or.inl (w_ hw 37 rfl)) (w_ hw 5 rfl) (ty := .int) (by decide) rfl rfl (g := (mkF m 40 #[rv a1, rv a2, iv t] [(.int cc), (.ref a1)])) rfl rfl (hb hby d12_40)
 refine own_st st_9 ?_
 have N_9 := Fr.snoc X_9 N_5 g1
 show own_Go _ _ _ _ (T_9.setTop (mkF m 43 #[rv a1, rv a2, iv t] []))
 refine o_aloadN X_9 Hq d12_43 rfl rfl ?_
 have Kp_10 : Keep h0 h_9 [a1, b] := (((Keep.refl h0 [a1, b]).trans K_5 (allS (Or.inl (List.mem_of_getElem? (i := 1) rfl)) all0)).wr W_9 (Or.inl (List.mem_of_getElem? (i := 0) rfl)))
 have Fa_11 := ((Fv.keep K_5 (ninS (Ne.symm nb) nin0)).other W_9 (Or.inr (slot_ne (Or.inl (w_ hw 23 rfl)) (Or.inl (w_ hw 37 rfl)) (by decide) (t := (.array .byte)) (t' := .int) (by decide) (by decide))))
 have Fa_12 := ((Fc.keep K_5 (ninS (Ne.symm nb) nin0)).other W_9 (Or.inr (slot_ne (Or.inl (w_ hw 25 rfl)) (Or.inl (w_ hw 37 rfl)) (by decide) (t := .byte) (t' := .int) (by decide) (by decide))))
 have Fa_13 := (Fa_6.same W_9)
 have Fa_14 := (Fq_5_0.other W_9 nb)
 exact e_R X_9 e_9 Hq hlk rfl rfl hrt d12_44 ⟨rfl, N_9, Kp_10, Fa_11, Fa_12, Fa_13, Fa_14⟩
abbrev D11 := decode jdk_67_method_7_code
theorem d11_0 : D11 0 = .ok (.aload_n 0, 1) := by decide +kernel
theorem d11_1 : D11 1 = .ok (.aload_n 1, 1) := by decide +kernel
theorem d11_2 : D11 2 = .ok (.invokespecial 29, 3) := by decide +kernel
theorem pd_17 : parseMethodDescriptor "(Ljava/lang/String;)Ljava/lang/AbstractStringBuilder;" = some ⟨[(.object "java/lang/String")], some (.object "java/lang/AbstractStringBuilder")⟩ := by decide +kernel
theorem d11_5 : D11 5 = .ok (.pop, 1) := by decide +kernel
theorem d11_6 : D11 6 = .ok (.aload_n 0, 1) := by decide +kernel
theorem d11_7 : D11 7 = .ok (.areturn, 1) := by decide +kernel
def Q_rmbs0 (Z : State) (a0 : Array Value) (a1 a2 b : Addr) (kb : ClassId) (b3 : Addr) (k3 : ClassId) (t : Int32) (f3 : Nat → Int32) (g : Nat → Int32) (n cc w : Int32) (h0 : Heap) (n0 : Nat) (v : Option Value) (h : Heap) (L : List Loc) : Prop := v = some (.ref a1) ∧ Fr n0 L ∧ Keep h0 h [a1, b] ∧ Fld Z h a1 "java/lang/AbstractStringBuilder" "value" "[B" (.ref b) ∧ Fld Z h a1 "java/lang/AbstractStringBuilder" "coder" "B" (.int (0 : Int32)) ∧ Fld Z h a1 "java/lang/AbstractStringBuilder" "count" "I" (.int cc) ∧ Arv Z h b kb .byte (16 : Int32) (own_LI (own_cp g f3 n.toNatClampNeg t.toNatClampNeg) (16 : Int32)) (.int (0 : Int32))
theorem rmbs0 (hw : HW a0 Z) (a1 a2 b : Addr) (kb : ClassId) (b3 : Addr) (k3 : ClassId) (t : Int32) (f3 : Nat → Int32) (g : Nat → Int32) (n cc w : Int32) (h0 : Heap) (n0 : Nat) (Z0 : n0 ≤ h0.size) (E1 : Exa Z h0 a1 "java/lang/StringBuilder") (g1 : n0 ≤ a1) (Fv : Fld Z h0 a1 "java/lang/AbstractStringBuilder" "value" "[B" (.ref b)) (Fc : Fld Z h0 a1 "java/lang/AbstractStringBuilder" "coder" "B" (.int (0 : Int32))) (gb : n0 ≤ b) (nb : b ≠ a1) (Fn : Fld Z h0 a1 "java/lang/AbstractStringBuilder" "count" "I" (.int n)) (Vb : Arv Z h0 b kb .byte (16 : Int32) (own_LI g (16 : Int32)) (.int (0 : Int32))) (E2 : Exa Z h0 a2 "java/lang/String") (Fv2 : Fld Z h0 a2 "java/lang/String" "value" "[B" (.ref b3)) (Fc2 : Fld Z h0 a2 "java/lang/String" "coder" "B" (.int (0 : Int32))) (V3 : Arv Z h0 b3 k3 .byte t (own_LI f3 t) (.int (0 : Int32))) (n21 : a2 ≠ a1) (n2b : a2 ≠ b) (n31 : b3 ≠ a1) (n3b : b3 ≠ b) (hn0 : ¬ n < 0) (ht0 : ¬ t < 0) (hnt : n.toNatClampNeg + t.toNatClampNeg ≤ (16 : Int32).toNatClampNeg) (hc : n + t = cc) (hec : ¬ (0 : Int32) < (cc - (16 : Int32))) (S1 : Sta Z h0 "java/lang/String" "COMPACT_STRINGS" "Z" (.int w)) (hw0 : ¬ w = (0 : Int32)) :
  own_Met l y10_ jdk_67_method_7_code 2 (some (.object "java/lang/StringBuilder")) (R_ 4 0 0 61) #[(.ref a1), (.ref a2)] Z h0 (Q_rmbs0 Z a0 a1 a2 b kb b3 k3 t f3 g n cc w h0 n0) := by
 refine own_bd (own := "java/lang/StringBuilder") rfl (plainFor_of_name pn_2) #[rv a1, rv a2] ?_
 intro p e s m below meth c s₁ hx hby Hq hml hown hnm hlk hrt hZ X0 e0
 refine o_aloadN X0 Hq d11_0 rfl rfl (o_aloadN X0 Hq d11_1 rfl rfl ?_)
 obtain ⟨_, _, ⟨T_1, L_1, k_1, n_1⟩, -, X_1, ⟨Lc_1, hQ_1, l_1, y_1, z_1⟩, st_1⟩ := superBack X0 hx hZ (y := y4_) hown (w_ hw 67 rfl) (own_same (y := y4_) (w_ hw 68 rfl) (w_ hw 45 rfl) rfl (by decide)) (w_ hw 68 rfl) (w_ hw 33 rfl) (by decide) (backOf (W := 0) (rmas0 hw a1 a2 b kb b3 k3 t f3 g n cc w h0 n0 Z0 E1 g1 Fv Fc gb nb Fn Vb E2 Fv2 Fc2 V3 n21 n2b n31 n3b hn0 ht0 hnt hc hec S1 hw0) hZ (w_ hw 70 rfl) (w_ hw 14 rfl) (by decide) (by decide)) e0 (a := a1) (Ins.self E1) (g := (mkF m 2 #[rv a1, rv a2] [(.ref a2), (.ref a1)])) rfl (by rw [hml]; rfl) (w_ hw 70 rfl) (argsL := [(.ref a2)]) (rest := []) (lenOf pd_17 rfl) rfl (z_ rfl) (hb hby d11_2) (fun _ _ => ⟨rfl, e0, (by decide : 0 + 0 ≤ _), (by decide : 0 + 0 ≤ _)⟩)
 dsimp only [Pt.U, Pt.locs, Pt.cells, Pt.slots] at X_1 l_1 y_1 z_1 st_1 hQ_1
 subst l_1 y_1 z_1
 obtain ⟨rfl, Nq_1, K_1, Fq_1_0, Fq_1_1, Fq_1_2, Fq_1_3⟩ := hQ_1
 have N_1 := Fr.app (Fr.nil n0) Nq_1
 refine own_tr st_1 ?_
 show own_Go _ _ _ _ (T_1.setTop (mkF m 5 #[rv a1, rv a2] [(.ref a1)]))
 refine o_pop X_1 Hq d11_5 rfl (o_aloadN X_1 Hq d11_6 rfl rfl ?_)
 have Kp_2 : Keep h0 T_1.heap [a1, b] := ((Keep.refl h0 [a1, b]).trans K_1 (allS (Or.inl (List.mem_of_getElem? (i := 0) rfl)) (allS (Or.inl (List.mem_of_getElem? (i := 1) rfl)) all0)))
 exact e_R X_1 rfl Hq hlk rfl rfl hrt d11_7 ⟨rfl, N_1, Kp_2, Fq_1_0, Fq_1_1, Fq_1_2, Fq_1_3⟩
def Q_rmas1 (Z : State) (a0 : Array Value) (a1 a2 b : Addr) (kb : ClassId) (b3 : Addr) (k3 : ClassId) (t : Int32) (f3 : Nat → Int32) (g : Nat → Int32) (n w : Int32) (h0 : Heap) (n0 : Nat) (v : Option Value) (h : Heap) (L : List Loc) : Prop := ∃ b2 : Addr, ∃ k2 : ClassId, v = some (.ref a1) ∧ Fr n0 L ∧ Keep h0 h [a1] ∧ n0 ≤ b2 ∧ h0.size ≤ b2 ∧ Fld Z h a1 "java/lang/AbstractStringBuilder" "value" "[B" (.ref b2) ∧ Fld Z h a1 "java/lang/AbstractStringBuilder" "coder" "B" (.int (0 : Int32)) ∧ Fld Z h a1 "java/lang/AbstractStringBuilder" "count" "I" (.int (17 : Int32)) ∧ Arv Z h b2 k2 .byte (34 : Int32) (own_LI (own_cp (own_cp own_z g (0 : Int32).toNatClampNeg (16 : Int32).toNatClampNeg) f3 n.toNatClampNeg t.toNatClampNeg) (34 : Int32)) (.int (0 : Int32)) ∧ Exa Z h b2 "[B"
theorem rmas1 (hw : HW a0 Z) (a1 a2 b : Addr) (kb : ClassId) (b3 : Addr) (k3 : ClassId) (t : Int32) (f3 : Nat → Int32) (g : Nat → Int32) (n w : Int32) (h0 : Heap) (n0 : Nat) (Z0 : n0 ≤ h0.size) (E1 : Exa Z h0 a1 "java/lang/StringBuilder") (g1 : n0 ≤ a1) (Fv : Fld Z h0 a1 "java/lang/AbstractStringBuilder" "value" "[B" (.ref b)) (Fc : Fld Z h0 a1 "java/lang/AbstractStringBuilder" "coder" "B" (.int (0 : Int32))) (gb : n0 ≤ b) (nb : b ≠ a1) (Fn : Fld Z h0 a1 "java/lang/AbstractStringBuilder" "count" "I" (.int n)) (Vb : Arv Z h0 b kb .byte (16 : Int32) (own_LI g (16 : Int32)) (.int (0 : Int32))) (E2 : Exa Z h0 a2 "java/lang/String") (Fv2 : Fld Z h0 a2 "java/lang/String" "value" "[B" (.ref b3)) (Fc2 : Fld Z h0 a2 "java/lang/String" "coder" "B" (.int (0 : Int32))) (V3 : Arv Z h0 b3 k3 .byte t (own_LI f3 t) (.int (0 : Int32))) (n21 : a2 ≠ a1) (n2b : a2 ≠ b) (n31 : b3 ≠ a1) (n3b : b3 ≠ b) (hn0 : ¬ n < 0) (ht0 : ¬ t < 0) (hnt : n.toNatClampNeg + t.toNatClampNeg ≤ (34 : Int32).toNatClampNeg) (hc : n + t = (17 : Int32)) (S1 : Sta Z h0 "java/lang/String" "COMPACT_STRINGS" "Z" (.int w)) (hw0 : ¬ w = (0 : Int32)) :
  own_Met l y4_ jdk_68_method_22_code 3 (some (.object "java/lang/AbstractStringBuilder")) (R_ 4 1 34 62) #[(.ref a1), (.ref a2)] Z h0 (Q_rmas1 Z a0 a1 a2 b kb b3 k3 t f3 g n w h0 n0) := by
 refine own_bd (own := "java/lang/AbstractStringBuilder") rfl (plainFor_of_name pn_3) #[rv a1, rv a2, .unset] ?_
 intro p e s m below meth c s₁ hx hby Hq hml hown hnm hlk hrt hZ X0 e0
 refine o_aloadN X0 Hq d12_0 rfl rfl (o_ifnonnullYes X0 Hq (pc' := 9) d12_1 (o_aloadN X0 Hq d12_9 rfl rfl ?_))
 refine c_U0 X0 Hq e0 hZ hown hml (k12_32U1 hw) (rmlenN hw a2 b3 k3 t (own_LI f3 t) (.int (0 : Int32)) w h0 n0 Z0 E2 Fv2 Fc2 V3 S1 hw0) E2 d12_10 ?_ 0
 rintro T_1 L_1 _ X_1 ⟨⟨⟩, Nq_1, e_1⟩
 have N_1 := Fr.app (Fr.nil n0) Nq_1
 refine o_istoreN X_1 Hq d12_13 (l' := #[rv a1, rv a2, iv t]) rfl (o_aloadN X_1 Hq d12_14 rfl rfl (o_aloadN X_1 Hq d12_15 rfl rfl ?_))
 obtain ⟨T_2, X_2, e_2, st_2⟩ := getF X_1 hx hZ hown (host := "") (Or.inl (w_ hw 36 rfl)) Via.refl e_1 Fn (g := (mkF m 16 #[rv a1, rv a2, iv t] [(.ref a1), (.ref a1)])) rfl rfl (hb hby d12_16)
 refine own_st st_2 ?_
 show own_Go _ _ _ _ (T_2.setTop (mkF m 19 #[rv a1, rv a2, iv t] [(.int n), (.ref a1)]))
 refine o_iloadN X_2 Hq d12_19 rfl (o_iadd X_2 Hq d12_20 ?_)
 rw [hc]
 obtain ⟨cq_3, q_3, q_3'⟩ := E1.cell
 obtain ⟨_, _, ⟨T_3, L_3, k_3, n_3⟩, -, X_3, ⟨Lc_3, hQ_3, l_3, y_3, z_3⟩, st_3⟩ := X_2.privateBack hx (y := y1_) hown (v_ hZ hw 42 rfl) (v_ hZ hw 43 rfl) (own_selQ (y := y1_) (v_ hZ hw 45 rfl) (v_ hZ hw 43 rfl) (Cond.privateMethod_at (mvP hZ (w_ hw 44 rfl) (args := #[]))) (by decide)) (Cond.privateMethod_at (mvP hZ (w_ hw 44 rfl) (args := #[]))) (v_ hZ hw 46 rfl) (by decide) (backOf (W := 0) (rmec17 hw a1 b kb g n h0 n0 Z0 E1 g1 Fv Fc Fn Vb) hZ (w_ hw 46 rfl) (w_ hw 14 rfl) (by decide) (by decide)) (g := (mkF m 21 #[rv a1, rv a2, iv t] [(.int 17), (.ref a1)])) rfl (by rw [hml]; rfl) (Steps.refl _) (a := a1) (by rw [e_2]; exact q_3) q_3' (argsL := [(.int 17)]) (rest := []) (lenOf pd_6 rfl) rfl (z_ rfl) (hb hby d12_21) (fun _ _ => ⟨rfl, e_2, (by decide : 0 + 1 ≤ _), (by decide : 0 + 34 ≤ _)⟩)
 dsimp only [Pt.U, Pt.locs, Pt.cells, Pt.slots] at X_3 l_3 y_3 z_3 st_3 hQ_3
 subst l_3 y_3 z_3
 obtain ⟨b2__3, k2__3, rfl, Nq_3, K_3, gq_3_b2, sq_3_b2, Fq_3_0, Fq_3_1, Fq_3_2, Fq_3_3, Fq_3_4⟩ := hQ_3
 have N_3 := Fr.app N_1 Nq_3
 have szq_3_b2 : h0.size ≤ b2__3 := Nat.le_trans (Keep.refl h0 [a1]).1 sq_3_b2
 refine own_tr st_3 ?_
 show own_Go _ _ _ _ (T_3.setTop (mkF m 24 #[rv a1, rv a2, iv t] []))
 refine o_aloadN X_3 Hq d12_24 rfl rfl (o_aloadN X_3 Hq d12_25 rfl rfl ?_)
 obtain ⟨T_4, X_4, e_4, st_4⟩ := getF X_3 hx hZ hown (host := "") (Or.inl (w_ hw 36 rfl)) Via.refl rfl Fq_3_2 (g := (mkF m 26 #[rv a1, rv a2, iv t] [(.ref a1), (.ref a1)])) rfl rfl (hb hby d12_26)
 refine own_st st_4 ?_
 show own_Go _ _ _ _ (T_4.setTop (mkF m 29 #[rv a1, rv a2, iv t] [(.int n), (.ref a1)]))
 refine o_aloadN X_4 Hq d12_29 rfl rfl ?_
 have Fa_6 := (E1.keep K_3)
 have Fa_7 := (E2.keep K_3)
 have Fa_8 := (Fv2.keep K_3 (ninS n21 nin0))
 have Fa_9 := (Fc2.keep K_3 (ninS n21 nin0))
 have Fa_10 := (V3.keep K_3 (ninS n31 nin0))
 have Fa_11 := (own_Sta_keep S1 K_3 (nsS (E1.nostat) ns0))
 have Zs_12 : n0 ≤ T_3.heap.size := (Nat.le_trans Z0 K_3.1)
 obtain ⟨cq_5, q_5, q_5'⟩ := Fa_6.cell
 obtain ⟨_, _, ⟨T_5, L_5, k_5, n_5⟩, -, X_5, ⟨Lc_5, hQ_5, l_5, y_5, z_5⟩, st_5⟩ := X_4.privateBack hx (y := y8_) hown (v_ hZ hw 84 rfl) (v_ hZ hw 85 rfl) (own_selQ (y := y8_) (v_ hZ hw 87 rfl) (v_ hZ hw 85 rfl) (Cond.privateMethod_at (mvP hZ (w_ hw 86 rfl) (args := #[]))) (by decide)) (Cond.privateMethod_at (mvP hZ (w_ hw 86 rfl) (args := #[]))) (v_ hZ hw 88 rfl) (by decide) (backOf (W := 0) (rm15 hw a1 n a2 b2__3 k2__3 b3 k3 t f3 (34 : Int32) (own_cp own_z g (0 : Int32).toNatClampNeg (16 : Int32).toNatClampNeg) w T_3.heap n0 Zs_12 Fa_6 Fq_3_0 Fq_3_1 Fa_7 Fa_8 Fa_9 Fa_10 Fq_3_3 gq_3_b2 hn0 ht0 hnt Fa_11 hw0) hZ (w_ hw 88 rfl) (w_ hw 14 rfl) (by decide) (by decide)) (g := (mkF m 30 #[rv a1, rv a2, iv t] [(.ref a2), (.int n), (.ref a1)])) rfl (by rw [hml]; rfl) (Steps.refl _) (a := a1) (by rw [e_4]; exact q_5) q_5' (argsL := [(.int n), (.ref a2)]) (rest := []) (lenOf pd_16 rfl) rfl (z_ rfl) (hb hby d12_30) (fun _ _ => ⟨rfl, e_4, (by decide : 1 + 0 ≤ _), (by decide : 34 + 0 ≤ _)⟩)
 dsimp only [Pt.U, Pt.locs, Pt.cells, Pt.slots] at X_5 l_5 y_5 z_5 st_5 hQ_5
 subst l_5 y_5 z_5
 obtain ⟨rfl, Nq_5, K_5, Fq_5_0⟩ := hQ_5
 have N_5 := Fr.app N_3 Nq_5
 refine own_tr st_5 ?_
 show own_Go _ _ _ _ (T_5.setTop (mkF m 33 #[rv a1, rv a2, iv t] []))
 refine o_aloadN X_5 Hq d12_33 rfl rfl (o_dup X_5 Hq d12_34 rfl ?_)
 have Fa_13 := (Fq_3_2.keep K_5 (ninS (Nat.ne_of_lt (Nat.lt_of_lt_of_le Fv.lt sq_3_b2)) nin0))
 obtain ⟨T_14, X_14, e_14, st_14⟩ := getF X_5 hx hZ hown (host := "") (Or.inl (w_ hw 36 rfl)) Via.refl rfl Fa_13 (g := (mkF m 35 #[rv a1, rv a2, iv t] [(.ref a1), (.ref a1)])) rfl rfl (hb hby d12_35)
 refine own_st st_14 ?_
 show own_Go _ _ _ _ (T_14.setTop (mkF m 38 #[rv a1, rv a2, iv t] [(.int n), (.ref a1)]))
 refine o_iloadN X_14 Hq d12_38 rfl (o_iadd X_14 Hq d12_39 ?_)
 rw [hc]
 have Fa_15 := (Fa_6.keep K_5)
 obtain ⟨T_16, h_16, X_16, e_16, W_16, st_16⟩ := putF X_14 hx hZ hown (host := "") (Or.inl (w_ hw 36 rfl)) Via.refl e_14 Fa_13 Fa_15 (Or.inl (w_ hw 37 rfl)) (w_ hw 5 rfl) (ty := .int) (by decide) rfl rfl (g := (mkF m 40 #[rv a1, rv a2, iv t] [(.int 17), (.ref a1)])) rfl rfl (hb hby d12_40)
 refine own_st st_16 ?_
 have N_16 := Fr.snoc X_16 N_5 g1
 show own_Go _ _ _ _ (T_16.setTop (mkF m 43 #[rv a1, rv a2, iv t] []))
 refine o_aloadN X_16 Hq d12_43 rfl rfl ?_
 have Kp_17 : Keep h0 h_16 [a1] := ((((Keep.refl h0 [a1]).trans K_3 (allS (Or.inl (List.mem_of_getElem? (i := 0) rfl)) all0)).trans K_5 (allS (Or.inr szq_3_b2) all0)).wr W_16 (Or.inl (List.mem_of_getElem? (i := 0) rfl)))
 have Fa_18 := ((Fq_3_0.keep K_5 (ninS (Nat.ne_of_lt (Nat.lt_of_lt_of_le Fv.lt sq_3_b2)) nin0)).other W_16 (Or.inr (slot_ne (Or.inl (w_ hw 23 rfl)) (Or.inl (w_ hw 37 rfl)) (by decide) (t := (.array .byte)) (t' := .int) (by decide) (by decide))))
 have Fa_19 := ((Fq_3_1.keep K_5 (ninS (Nat.ne_of_lt (Nat.lt_of_lt_of_le Fv.lt sq_3_b2)) nin0)).other W_16 (Or.inr (slot_ne (Or.inl (w_ hw 25 rfl)) (Or.inl (w_ hw 37 rfl)) (by decide) (t := .byte) (t' := .int) (by decide) (by decide))))
 have Fa_20 := (Fa_13.same W_16)
 have Fa_21 := (Fq_5_0.other W_16 (Ne.symm (Nat.ne_of_lt (Nat.lt_of_lt_of_le Fv.lt sq_3_b2))))
 have Fa_22 := ((Fq_3_4.keep K_5).wr W_16)
 exact e_R X_16 e_16 Hq hlk rfl rfl hrt d12_44 ⟨b2__3, k2__3, rfl, N_16, Kp_17, gq_3_b2, szq_3_b2, Fa_18, Fa_19, Fa_20, Fa_21, Fa_22⟩
def Q_rmbs1 (Z : State) (a0 : Array Value) (a1 a2 b : Addr) (kb : ClassId) (b3 : Addr) (k3 : ClassId) (t : Int32) (f3 : Nat → Int32) (g : Nat → Int32) (n w : Int32) (h0 : Heap) (n0 : Nat) (v : Option Value) (h : Heap) (L : List Loc) : Prop := ∃ b2 : Addr, ∃ k2 : ClassId, v = some (.ref a1) ∧ Fr n0 L ∧ Keep h0 h [a1] ∧ n0 ≤ b2 ∧ h0.size ≤ b2 ∧ Fld Z h a1 "java/lang/AbstractStringBuilder" "value" "[B" (.ref b2) ∧ Fld Z h a1 "java/lang/AbstractStringBuilder" "coder" "B" (.int (0 : Int32)) ∧ Fld Z h a1 "java/lang/AbstractStringBuilder" "count" "I" (.int (17 : Int32)) ∧ Arv Z h b2 k2 .byte (34 : Int32) (own_LI (own_cp (own_cp own_z g (0 : Int32).toNatClampNeg (16 : Int32).toNatClampNeg) f3 n.toNatClampNeg t.toNatClampNeg) (34 : Int32)) (.int (0 : Int32)) ∧ Exa Z h b2 "[B"
theorem rmbs1 (hw : HW a0 Z) (a1 a2 b : Addr) (kb : ClassId) (b3 : Addr) (k3 : ClassId) (t : Int32) (f3 : Nat → Int32) (g : Nat → Int32) (n w : Int32) (h0 : Heap) (n0 : Nat) (Z0 : n0 ≤ h0.size) (E1 : Exa Z h0 a1 "java/lang/StringBuilder") (g1 : n0 ≤ a1) (Fv : Fld Z h0 a1 "java/lang/AbstractStringBuilder" "value" "[B" (.ref b)) (Fc : Fld Z h0 a1 "java/lang/AbstractStringBuilder" "coder" "B" (.int (0 : Int32))) (gb : n0 ≤ b) (nb : b ≠ a1) (Fn : Fld Z h0 a1 "java/lang/AbstractStringBuilder" "count" "I" (.int n)) (Vb : Arv Z h0 b kb .byte (16 : Int32) (own_LI g (16 : Int32)) (.int (0 : Int32))) (E2 : Exa Z h0 a2 "java/lang/String") (Fv2 : Fld Z h0 a2 "java/lang/String" "value" "[B" (.ref b3)) (Fc2 : Fld Z h0 a2 "java/lang/String" "coder" "B" (.int (0 : Int32))) (V3 : Arv Z h0 b3 k3 .byte t (own_LI f3 t) (.int (0 : Int32))) (n21 : a2 ≠ a1) (n2b : a2 ≠ b) (n31 : b3 ≠ a1) (n3b : b3 ≠ b) (hn0 : ¬ n < 0) (ht0 : ¬ t < 0) (hnt : n.toNatClampNeg + t.toNatClampNeg ≤ (34 : Int32).toNatClampNeg) (hc : n + t = (17 : Int32)) (S1 : Sta Z h0 "java/lang/String" "COMPACT_STRINGS" "Z" (.int w)) (hw0 : ¬ w = (0 : Int32)) :
  own_Met l y10_ jdk_67_method_7_code 2 (some (.object "java/lang/StringBuilder")) (R_ 5 1 34 76) #[(.ref a1), (.ref a2)] Z h0 (Q_rmbs1 Z a0 a1 a2 b kb b3 k3 t f3 g n w h0 n0) := by
 refine own_bd (own := "java/lang/StringBuilder") rfl (plainFor_of_name pn_2) #[rv a1, rv a2] ?_
 intro p e s m below meth c s₁ hx hby Hq hml hown hnm hlk hrt hZ X0 e0
 refine o_aloadN X0 Hq d11_0 rfl rfl (o_aloadN X0 Hq d11_1 rfl rfl ?_)
 obtain ⟨_, _, ⟨T_1, L_1, k_1, n_1⟩, -, X_1, ⟨Lc_1, hQ_1, l_1, y_1, z_1⟩, st_1⟩ := superBack X0 hx hZ (y := y4_) hown (w_ hw 67 rfl) (own_same (y := y4_) (w_ hw 68 rfl) (w_ hw 45 rfl) rfl (by decide)) (w_ hw 68 rfl) (w_ hw 33 rfl) (by decide) (backOf (W := 0) (rmas1 hw a1 a2 b kb b3 k3 t f3 g n w h0 n0 Z0 E1 g1 Fv Fc gb nb Fn Vb E2 Fv2 Fc2 V3 n21 n2b n31 n3b hn0 ht0 hnt hc S1 hw0) hZ (w_ hw 70 rfl) (w_ hw 14 rfl) (by decide) (by decide)) e0 (a := a1) (Ins.self E1) (g := (mkF m 2 #[rv a1, rv a2] [(.ref a2), (.ref a1)])) rfl (by rw [hml]; rfl) (w_ hw 70 rfl) (argsL := [(.ref a2)]) (rest := []) (lenOf pd_17 rfl) rfl (z_ rfl) (hb hby d11_2) (fun _ _ => ⟨rfl, e0, (by decide : 0 + 1 ≤ _), (by decide : 0 + 34 ≤ _)⟩)
 dsimp only [Pt.U, Pt.locs, Pt.cells, Pt.slots] at X_1 l_1 y_1 z_1 st_1 hQ_1
 subst l_1 y_1 z_1
 obtain ⟨b2__1, k2__1, rfl, Nq_1, K_1, gq_1_b2, sq_1_b2, Fq_1_0, Fq_1_1, Fq_1_2, Fq_1_3, Fq_1_4⟩ := hQ_1
 have N_1 := Fr.app (Fr.nil n0) Nq_1
 have szq_1_b2 : h0.size ≤ b2__1 := Nat.le_trans (Keep.refl h0 [a1]).1 sq_1_b2
 refine own_tr st_1 ?_
 show own_Go _ _ _ _ (T_1.setTop (mkF m 5 #[rv a1, rv a2] [(.ref a1)]))
 refine o_pop X_1 Hq d11_5 rfl (o_aloadN X_1 Hq d11_6 rfl rfl ?_)
 have Kp_2 : Keep h0 T_1.heap [a1] := ((Keep.refl h0 [a1]).trans K_1 (allS (Or.inl (List.mem_of_getElem? (i := 0) rfl)) all0))
 exact e_R X_1 rfl Hq hlk rfl rfl hrt d11_7 ⟨b2__1, k2__1, rfl, N_1, Kp_2, gq_1_b2, szq_1_b2, Fq_1_0, Fq_1_1, Fq_1_2, Fq_1_3, Fq_1_4⟩
abbrev D21 := decode jdk_68_method_64_code
theorem d21_0 : D21 0 = .ok (.aload_n 0, 1) := by decide +kernel
theorem d21_1 : D21 1 = .ok (.getfield 15, 3) := by decide +kernel
theorem d21_4 : D21 4 = .ok (.areturn, 1) := by decide +kernel
def Q_rm21 (Z : State) (a0 : Array Value) (a1 b : Addr) (h0 : Heap) (n0 : Nat) (v : Option Value) (h : Heap) (L : List Loc) : Prop := v = some (.ref b) ∧ Fr n0 L ∧ h = h0
theorem rm21 (hw : HW a0 Z) (a1 b : Addr) (h0 : Heap) (n0 : Nat) (Z0 : n0 ≤ h0.size) (Fv : Fld Z h0 a1 "java/lang/AbstractStringBuilder" "value" "[B" (.ref b)) :
  own_Met l y31_ jdk_68_method_64_code 1 (some (.array .byte)) (R_ 0 0 0 0) #[(.ref a1)] Z h0 (Q_rm21 Z a0 a1 b h0 n0) := by
 refine own_bd (own := "java/lang/AbstractStringBuilder") rfl (plainFor_of_name pn_3) #[rv a1] ?_
 intro p e s m below meth c s₁ hx hby Hq hml hown hnm hlk hrt hZ X0 e0
 refine o_aloadN X0 Hq d21_0 rfl rfl ?_
 obtain ⟨T_1, X_1, e_1, st_1⟩ := getF X0 hx hZ hown (host := "") (Or.inl (w_ hw 22 rfl)) Via.refl e0 Fv (g := (mkF m 1 #[rv a1] [(.ref a1)])) rfl rfl (hb hby d21_1)
 refine own_st st_1 ?_
 show own_Go _ _ _ _ (T_1.setTop (mkF m 4 #[rv a1] [(.ref b)]))
 exact e_R X_1 e_1 Hq hlk rfl rfl hrt d21_4 ⟨rfl, (Fr.nil n0), rfl⟩
abbrev D23 := decode jdk_68_method_6_code
theorem d23_0 : D23 0 = .ok (.aload_n 0, 1) := by decide +kernel
theorem d23_1 : D23 1 = .ok (.getfield 79, 3) := by decide +kernel
theorem d23_4 : D23 4 = .ok (.ireturn, 1) := by decide +kernel
def Q_rm23 (Z : State) (a0 : Array Value) (a1 : Addr) (x : Int32) (h0 : Heap) (n0 : Nat) (v : Option Value) (h : Heap) (L : List Loc) : Prop := v = some (.int x) ∧ Fr n0 L ∧ h = h0
theorem rm23 (hw : HW a0 Z) (a1 : Addr) (x : Int32) (h0 : Heap) (n0 : Nat) (Z0 : n0 ≤ h0.size) (E1 : Exa Z h0 a1 "java/lang/StringBuilder") (Fn : Fld Z h0 a1 "java/lang/AbstractStringBuilder" "count" "I" (.int x)) :
  own_Met l y11_ jdk_68_method_6_code 1 (some .int) (R_ 0 0 0 0) #[(.ref a1)] Z h0 (Q_rm23 Z a0 a1 x h0 n0) := by
 refine own_bd (own := "java/lang/AbstractStringBuilder") rfl (plainFor_of_name pn_3) #[rv a1] ?_
 intro p e s m below meth c s₁ hx hby Hq hml hown hnm hlk hrt hZ X0 e0
 refine o_aloadN X0 Hq d23_0 rfl rfl ?_
 obtain ⟨T_1, X_1, e_1, st_1⟩ := getF X0 hx hZ hown (host := "") (Or.inl (w_ hw 36 rfl)) Via.refl e0 Fn (g := (mkF m 1 #[rv a1] [(.ref a1)])) rfl rfl (hb hby d23_1)
 refine own_st st_1 ?_
 show own_Go _ _ _ _ (T_1.setTop (mkF m 4 #[rv a1] [(.int x)]))
 exact e_I X_1 e_1 Hq hlk hrt d23_4 ⟨rfl, (Fr.nil n0), rfl⟩
abbrev D22 := decode jdk_67_method_93_code
theorem d22_0 : D22 0 = .ok (.aload_n 0, 1) := by decide +kernel
theorem d22_1 : D22 1 = .ok (.invokespecial 343, 3) := by decide +kernel
theorem d22_4 : D22 4 = .ok (.ireturn, 1) := by decide +kernel
def Q_rm22 (Z : State) (a0 : Array Value) (a1 : Addr) (x : Int32) (h0 : Heap) (n0 : Nat) (v : Option Value) (h : Heap) (L : List Loc) : Prop := v = some (.int x) ∧ Fr n0 L ∧ h = h0
theorem rm22 (hw : HW a0 Z) (a1 : Addr) (x : Int32) (h0 : Heap) (n0 : Nat) (Z0 : n0 ≤ h0.size) (E1 : Exa Z h0 a1 "java/lang/StringBuilder") (Fn : Fld Z h0 a1 "java/lang/AbstractStringBuilder" "count" "I" (.int x)) :
  own_Met l (⟨"java/lang/StringBuilder", "length", "()I"⟩ : MethodName) jdk_67_method_93_code 1 (some .int) (R_ 1 0 0 12) #[(.ref a1)] Z h0 (Q_rm22 Z a0 a1 x h0 n0) := by
 refine own_bd (own := "java/lang/StringBuilder") rfl (plainFor_of_name pn_2) #[rv a1] ?_
 intro p e s m below meth c s₁ hx hby Hq hml hown hnm hlk hrt hZ X0 e0
 refine o_aloadN X0 Hq d22_0 rfl rfl ?_
 obtain ⟨_, _, ⟨T_1, L_1, k_1, n_1⟩, -, X_1, ⟨Lc_1, hQ_1, l_1, y_1, z_1⟩, st_1⟩ := superBack X0 hx hZ (y := y11_) hown (w_ hw 129 rfl) (own_same (y := y11_) (w_ hw 125 rfl) (w_ hw 45 rfl) rfl (by decide)) (w_ hw 125 rfl) (w_ hw 33 rfl) (by decide) (backOf (W := 0) (rm23 hw a1 x h0 n0 Z0 E1 Fn) hZ (w_ hw 130 rfl) (w_ hw 14 rfl) (by decide) (by decide)) e0 (a := a1) (Ins.self E1) (g := (mkF m 1 #[rv a1] [(.ref a1)])) rfl (by rw [hml]; rfl) (w_ hw 130 rfl) (argsL := []) (rest := []) (lenOf pd_15 rfl) rfl (z_ rfl) (hb hby d22_1) (fun _ _ => ⟨rfl, e0, (by decide : 0 + 0 ≤ _), (by decide : 0 + 0 ≤ _)⟩)
 dsimp only [Pt.U, Pt.locs, Pt.cells, Pt.slots] at X_1 l_1 y_1 z_1 st_1 hQ_1
 subst l_1 y_1 z_1
 obtain ⟨rfl, Nq_1, e_1⟩ := hQ_1
 have N_1 := Fr.app (Fr.nil n0) Nq_1
 refine own_tr st_1 ?_
 show own_Go _ _ _ _ (T_1.setTop (mkF m 4 #[rv a1] [(.int x)]))
 exact e_I X_1 e_1 Hq hlk hrt d22_4 ⟨rfl, N_1, rfl⟩
abbrev D26 := decode jdk_65_method_131_code
theorem d26_0 : D26 0 = .ok (.iload_n 1, 1) := by decide +kernel
theorem d26_1 : D26 1 = .ok (.iload_n 0, 1) := by decide +kernel
theorem d26_2 : D26 2 = .ok (.if_icmp .ge 35, 3) := by decide +kernel
theorem d26_37 : D26 37 = .ok (.return_, 1) := by decide +kernel
def Q_rm26 (Z : State) (a0 : Array Value) (p2 : Int32) (h0 : Heap) (n0 : Nat) (v : Option Value) (h : Heap) (L : List Loc) : Prop := v = none ∧ Fr n0 L ∧ h = h0
theorem rm26 (hw : HW a0 Z) (p2 : Int32) (h0 : Heap) (n0 : Nat) (Z0 : n0 ≤ h0.size) (hN0 : ¬ p2 < 0) :
  own_Met l y32_ jdk_65_method_131_code 2 none (R_ 0 0 0 0) #[(.int (0 : Int32)), (.int p2)] Z h0 (Q_rm26 Z a0 p2 h0 n0) := by
 refine own_bd (own := "java/util/Arrays") rfl (plainFor_of_name pn_40) #[iv 0, iv p2] ?_
 intro p e s m below meth c s₁ hx hby Hq hml hown hnm hlk hrt hZ X0 e0
 refine o_iloadN X0 Hq d26_0 rfl (o_iloadN X0 Hq d26_1 rfl (o_icmpYes X0 Hq (pc' := 37) d26_2 (flt hN0).2.1 ?_))
 exact e_V X0 e0 Hq hlk hrt d26_37 ⟨rfl, (Fr.nil n0), rfl⟩
theorem d27_9 : D27 9 = .ok (.iload_n 1, 1) := by decide +kernel
def Q_rmmin (Z : State) (a0 : Array Value) (p1 p2 : Int32) (h0 : Heap) (n0 : Nat) (v : Option Value) (h : Heap) (L : List Loc) : Prop := v = some (.int p2) ∧ Fr n0 L ∧ h = h0
theorem rmmin (hw : HW a0 Z) (p1 p2 : Int32) (h0 : Heap) (n0 : Nat) (Z0 : n0 ≤ h0.size) (hNK : p2 < p1) :
  own_Met l y3_ jdk_29_method_69_code 2 (some .int) (R_ 0 0 0 0) #[(.int p1), (.int p2)] Z h0 (Q_rmmin Z a0 p1 p2 h0 n0) := by
 refine own_bd (own := "java/lang/Math") rfl (Jvm.Free.JP.mathPlain rfl (by decide +kernel)) #[iv p1, iv p2] ?_
 intro p e s m below meth c s₁ hx hby Hq hml hown hnm hlk hrt hZ X0 e0
 refine o_iloadN X0 Hq d27_0 rfl (o_iloadN X0 Hq d27_1 rfl (o_icmpYes X0 Hq (pc' := 9) d27_2 (tlt hNK).2.2.1 (o_iloadN X0 Hq d27_9 rfl ?_)))
 exact e_I X0 e0 Hq hlk hrt d27_10 ⟨rfl, (Fr.nil n0), rfl⟩
abbrev D25 := decode jdk_65_method_133_code
theorem d25_0 : D25 0 = .ok (.iload_n 1, 1) := by decide +kernel
theorem d25_1 : D25 1 = .ok (.iload_n 2, 1) := by decide +kernel
theorem d25_2 : D25 2 = .ok (.invokestatic 343, 3) := by decide +kernel
theorem k25_343 {a0 : Array Value} {Z : State} (hw : HW a0 Z) : own_KS a0 Z "java/util/Arrays" "" 343 y32_ y32_ jdk_65_method_131_code 2 none 2 := ⟨⟨(w_ hw 139 rfl), ⟨_, _, pd_2, rfl⟩, by decide⟩, (w_ hw 140 rfl), (w_ hw 134 rfl), (w_ hw 141 rfl)⟩
theorem d25_5 : D25 5 = .ok (.iload_n 2, 1) := by decide +kernel
theorem d25_6 : D25 6 = .ok (.iload_n 1, 1) := by decide +kernel
theorem d25_7 : D25 7 = .ok (.isub, 1) := by decide +kernel
theorem d25_8 : D25 8 = .ok (.istore_n 3, 1) := by decide +kernel
theorem d25_9 : D25 9 = .ok (.iload_n 3, 1) := by decide +kernel
theorem d25_10 : D25 10 = .ok (.newarray .byte, 2) := by decide +kernel
theorem d25_12 : D25 12 = .ok (.astore 4, 2) := by decide +kernel
theorem d25_14 : D25 14 = .ok (.aload_n 0, 1) := by decide +kernel
theorem d25_15 : D25 15 = .ok (.iload_n 1, 1) := by decide +kernel
theorem d25_16 : D25 16 = .ok (.aload 4, 2) := by decide +kernel
theorem d25_18 : D25 18 = .ok (.iconst 0, 1) := by decide +kernel
theorem d25_19 : D25 19 = .ok (.aload_n 0, 1) := by decide +kernel
theorem d25_20 : D25 20 = .ok (.arraylength, 1) := by decide +kernel
theorem d25_21 : D25 21 = .ok (.iload_n 1, 1) := by decide +kernel
theorem d25_22 : D25 22 = .ok (.isub, 1) := by decide +kernel
theorem d25_23 : D25 23 = .ok (.iload_n 3, 1) := by decide +kernel
theorem d25_24 : D25 24 = .ok (.invokestatic 304, 3) := by decide +kernel
theorem k25_304 {a0 : Array Value} {Z : State} (hw : HW a0 Z) : own_KS a0 Z "java/util/Arrays" "" 304 y3_ y3_ jdk_29_method_69_code 2 (some .int) 2 := ⟨⟨(w_ hw 142 rfl), ⟨_, _, pd_7, rfl⟩, by decide⟩, (w_ hw 143 rfl), (w_ hw 144 rfl), (w_ hw 145 rfl)⟩
theorem d25_27 : D25 27 = .ok (.invokestatic 150, 3) := by decide +kernel
theorem d25_30 : D25 30 = .ok (.aload 4, 2) := by decide +kernel
theorem d25_32 : D25 32 = .ok (.areturn, 1) := by decide +kernel
def Q_rmcb (Z : State) (a0 : Array Value) (a1 : Addr) (p3 : Int32) (kb : ClassId) (K : Int32) (g : Nat → Int32) (h0 : Heap) (n0 : Nat) (v : Option Value) (h : Heap) (L : List Loc) : Prop := ∃ t : Addr, ∃ kt : ClassId, v = some (.ref t) ∧ Fr n0 L ∧ Keep h0 h [] ∧ n0 ≤ t ∧ h0.size ≤ t ∧ Arv Z h t kt .byte p3 (own_LI g p3) (.int (0 : Int32))
theorem rmcb (hw : HW a0 Z) (a1 : Addr) (p3 : Int32) (kb : ClassId) (K : Int32) (g : Nat → Int32) (h0 : Heap) (n0 : Nat) (Z0 : n0 ≤ h0.size) (Vb : Arv Z h0 a1 kb .byte K (own_LI g K) (.int (0 : Int32))) (hN0 : ¬ p3 < 0) (hN17 : p3.toNatClampNeg ≤ 17) (hNK : p3 < K) :
  own_Met l y33_ jdk_65_method_133_code 5 (some (.array .byte)) (R_ 1 1 17 18) #[(.ref a1), (.int (0 : Int32)), (.int p3)] Z h0 (Q_rmcb Z a0 a1 p3 kb K g h0 n0) := by
 refine own_bd (own := "java/util/Arrays") rfl (plainFor_of_name pn_40) #[rv a1, iv 0, iv p3, .unset, .unset] ?_
 intro p e s m below meth c s₁ hx hby Hq hml hown hnm hlk hrt hZ X0 e0
 refine o_iloadN X0 Hq d25_0 rfl (o_iloadN X0 Hq d25_1 rfl ?_)
 refine c_S2v X0 Hq e0 hZ hown hml (k25_343 hw) (rm26 hw p3  h0 n0 Z0 hN0) d25_2 ?_ 0
 rintro T_1 L_1 X_1 ⟨-, Nq_1, e_1⟩
 have N_1 := Fr.app (Fr.nil n0) Nq_1
 refine o_iloadN X_1 Hq d25_5 rfl (o_iloadN X_1 Hq d25_6 rfl (o_isub X_1 Hq d25_7 ?_))
 rw [Int32.sub_zero]
 refine o_istoreN X_1 Hq d25_8 (l' := #[rv a1, iv 0, iv p3, iv p3, .unset]) rfl (o_iloadN X_1 Hq d25_9 rfl ?_)
 obtain ⟨T_2, h_2, k_2, X_2, e_2, E_2, A_2, st_2⟩ := newP X_1 hx hZ (w_ hw 21 rfl) e_1 (g := (mkF m 10 #[rv a1, iv 0, iv p3, iv p3, .unset] [(.int p3)])) rfl (hb hby d25_10) rfl hN0 (cap := 17) hN17 (by decide) (by decide) (by decide)
 obtain ⟨b_2, g_2⟩ : ∃ z, z = h0.size := ⟨_, rfl⟩
 rw [← g_2] at A_2 st_2
 have V_2 : Arv Z h_2 b_2 k_2 .byte p3 (own_LI own_z p3) (.int (0 : Int32)) := (Arv.new A_2 hN0).pad (own_LI_pad _)
 have gg_2 : n0 ≤ b_2 := Nat.le_trans Z0 (Nat.le_of_eq g_2.symm)
 have sz_2 : h0.size ≤ b_2 := Nat.le_trans (Keep.refl h0 []).1 (Nat.le_of_eq g_2.symm)
 refine own_st st_2 ?_
 show own_Go _ _ _ _ (T_2.setTop (mkF m 12 #[rv a1, iv 0, iv p3, iv p3, .unset] [(.ref b_2)]))
 refine o_astore X_2 Hq d25_12 rfl (l' := #[rv a1, iv 0, iv p3, iv p3, rv b_2]) rfl (o_aloadN X_2 Hq d25_14 rfl rfl (o_iloadN X_2 Hq d25_15 rfl (o_aload X_2 Hq d25_16 rfl rfl (o_iconst X_2 Hq 0 d25_18 rfl (o_aloadN X_2 Hq d25_19 rfl rfl ?_)))))
 have Fa_3 := (Vb.ext E_2)
 obtain ⟨cl_4, Ar_4, qk_4, Sz_4, Ng_4, Hs_4, Gs_4⟩ := id Fa_3
 refine own_st (X_2.arraylength hx (by rw [e_2]; exact Ar_4.1) (State.isArrayOf_alike hZ.alike Ar_4.2.1) (g := (mkF m 20 #[rv a1, iv 0, iv p3, iv p3, rv b_2] [(.ref a1), (.int 0), (.ref b_2), (.int 0), (.ref a1)])) rfl rfl (hb hby d25_20)) ?_
 rw [len_of Sz_4 Ng_4]
 show own_Go _ _ _ _ (T_2.setTop (mkF m 21 #[rv a1, iv 0, iv p3, iv p3, rv b_2] [(.int K), (.int 0), (.ref b_2), (.int 0), (.ref a1)]))
 refine o_iloadN X_2 Hq d25_21 rfl (o_isub X_2 Hq d25_22 ?_)
 rw [Int32.sub_zero]
 refine o_iloadN X_2 Hq d25_23 rfl ?_
 have Zs_6 : n0 ≤ h_2.size := (Nat.le_trans Z0 E_2.1)
 refine c_S2 X_2 Hq e_2 hZ hown hml (k25_304 hw) (rmmin hw K p3  h_2 n0 Zs_6 hNK) d25_24 ?_ 4
 rintro T_5 L_5 _ X_5 ⟨⟨⟩, Nq_5, e_5⟩
 have N_5 := Fr.app N_1 Nq_5
 obtain ⟨T_7, h_7, L_7, X_7, e_7, N_7, K_7, V_7, st_7⟩ := cpA X_5 hx hZ hown (w_ hw 146 rfl) (w_ hw 103 rfl) (w_ hw 101 rfl) (w_ hw 102 rfl) e_5 Fa_3 V_2 (Or.inl ⟨rfl, rfl⟩) (sp := (0 : Int32)) (dp := (0 : Int32)) (nn := p3) (by decide) (by decide) hN0 (Nat.le_trans (Nat.le_of_eq (Nat.zero_add _)) (Nat.le_of_lt (own_tlt hN0 hNK))) (Nat.le_of_eq (Nat.zero_add _)) rfl (Nat.le_trans (Nat.le_of_eq (Nat.zero_add _)) (Nat.le_of_eq (own_LI_len _ _).symm)) N_5 gg_2 (g := (mkF m 27 #[rv a1, iv 0, iv p3, iv p3, rv b_2] [(.int p3), (.int 0), (.ref b_2), (.int 0), (.ref a1)])) rfl (by rw [hml]; rfl) rfl (hb hby d25_27) (by decide) (W := 0) (z_ rfl) (by decide)
 have Va_7 : Arv Z h_7 b_2 k_2 .byte p3 (own_LI g p3) (.int (0 : Int32)) := own_Arv_cg (own_cpW _ _) (own_Arv_cg (own_cpy _ _ _ _ _ _ (Nat.le_of_lt (own_tlt hN0 hNK)) (Nat.le_of_eq (Nat.zero_add _))) V_7)
 refine own_st st_7 ?_
 show own_Go _ _ _ _ (T_7.setTop (mkF m 30 #[rv a1, iv 0, iv p3, iv p3, rv b_2] []))
 refine o_aload X_7 Hq d25_30 rfl rfl ?_
 have Kp_8 : Keep h0 h_7 [] := (((Keep.refl h0 []).ext E_2).trans K_7 (allS (Or.inr sz_2) all0))
 exact e_R X_7 e_7 Hq hlk rfl rfl hrt d25_32 ⟨b_2, k_2, rfl, N_7, Kp_8, gg_2, sz_2, Va_7⟩
abbrev D24 := decode jdk_65_method_132_code
theorem d24_0 : D24 0 = .ok (.iload_n 1, 1) := by decide +kernel
theorem d24_1 : D24 1 = .ok (.ifCond .ne 9, 3) := by decide +kernel
theorem d24_4 : D24 4 = .ok (.iload_n 2, 1) := by decide +kernel
theorem d24_5 : D24 5 = .ok (.aload_n 0, 1) := by decide +kernel
theorem d24_6 : D24 6 = .ok (.arraylength, 1) := by decide +kernel
theorem d24_7 : D24 7 = .ok (.if_icmp .eq 10, 3) := by decide +kernel
theorem d24_10 : D24 10 = .ok (.aload_n 0, 1) := by decide +kernel
theorem d24_11 : D24 11 = .ok (.iload_n 1, 1) := by decide +kernel
theorem d24_12 : D24 12 = .ok (.iload_n 2, 1) := by decide +kernel
theorem d24_13 : D24 13 = .ok (.invokestatic 339, 3) := by decide +kernel
theorem pd_18 : parseMethodDescriptor "([BII)[B" = some ⟨[(.array .byte), .int, .int], some (.array .byte)⟩ := by decide +kernel
theorem k24_339 {a0 : Array Value} {Z : State} (hw : HW a0 Z) : own_KS a0 Z "java/util/Arrays" "" 339 y33_ y33_ jdk_65_method_133_code 5 (some (.array .byte)) 3 := ⟨⟨(w_ hw 136 rfl), ⟨_, _, pd_18, rfl⟩, by decide⟩, (w_ hw 137 rfl), (w_ hw 134 rfl), (w_ hw 138 rfl)⟩
theorem d24_16 : D24 16 = .ok (.areturn, 1) := by decide +kernel
def Q_rmcrg (Z : State) (a0 : Array Value) (a1 : Addr) (p3 : Int32) (kb : ClassId) (g : Nat → Int32) (K : Int32) (h0 : Heap) (n0 : Nat) (v : Option Value) (h : Heap) (L : List Loc) : Prop := ∃ t : Addr, ∃ kt : ClassId, v = some (.ref t) ∧ Fr n0 L ∧ Keep h0 h [] ∧ n0 ≤ t ∧ h0.size ≤ t ∧ Arv Z h t kt .byte p3 (own_LI g p3) (.int (0 : Int32))
theorem rmcrg (hw : HW a0 Z) (a1 : Addr) (p3 : Int32) (kb : ClassId) (g : Nat → Int32) (K : Int32) (h0 : Heap) (n0 : Nat) (Z0 : n0 ≤ h0.size) (Vb : Arv Z h0 a1 kb .byte K (own_LI g K) (.int (0 : Int32))) (Eb : Exa Z h0 a1 "[B") (hN0 : ¬ p3 < 0) (hN17 : p3.toNatClampNeg ≤ 17) (hNK : p3 < K) :
  own_Met l y12_ jdk_65_method_132_code 3 (some (.array .byte)) (R_ 2 1 17 34) #[(.ref a1), (.int (0 : Int32)), (.int p3)] Z h0 (Q_rmcrg Z a0 a1 p3 kb g K h0 n0) := by
 refine own_bd (own := "java/util/Arrays") rfl (plainFor_of_name pn_40) #[rv a1, iv 0, iv p3] ?_
 intro p e s m below meth c s₁ hx hby Hq hml hown hnm hlk hrt hZ X0 e0
 refine o_iloadN X0 Hq d24_0 rfl (o_ifNo X0 Hq d24_1 (by decide) (o_iloadN X0 Hq d24_4 rfl (o_aloadN X0 Hq d24_5 rfl rfl ?_)))
 obtain ⟨cl_1, Ar_1, qk_1, Sz_1, Ng_1, Hs_1, Gs_1⟩ := id Vb
 refine own_st (X0.arraylength hx (by rw [e0]; exact Ar_1.1) (State.isArrayOf_alike hZ.alike Ar_1.2.1) (g := (mkF m 6 #[rv a1, iv 0, iv p3] [(.ref a1), (.int p3)])) rfl rfl (hb hby d24_6)) ?_
 rw [len_of Sz_1 Ng_1]
 show own_Go _ _ _ _ (s₁.setTop (mkF m 7 #[rv a1, iv 0, iv p3] [(.int K), (.int p3)]))
 refine o_icmpNo X0 Hq d24_7 (feq (fun q => by rw [q, Int32.lt_iff_toInt_lt] at hNK; omega)).1 (o_aloadN X0 Hq d24_10 rfl rfl (o_iloadN X0 Hq d24_11 rfl (o_iloadN X0 Hq d24_12 rfl ?_)))
 refine c_S3 X0 Hq e0 hZ hown hml (k24_339 hw) (rmcb hw a1 p3 kb K g h0 n0 Z0 Vb hN0 hN17 hNK) d24_13 ?_ 0
 rintro T_2 L_2 _ X_2 ⟨t__2, kt__2, ⟨⟩, Nq_2, K_2, gq_2_t, sq_2_t, Fq_2_0⟩
 have N_2 := Fr.app (Fr.nil n0) Nq_2
 have szq_2_t : h0.size ≤ t__2 := Nat.le_trans (Keep.refl h0 []).1 sq_2_t
 have Kp_3 : Keep h0 T_2.heap [] := ((Keep.refl h0 []).trans K_2 all0)
 exact e_R X_2 rfl Hq hlk rfl rfl hrt d24_16 ⟨t__2, kt__2, rfl, N_2, Kp_3, gq_2_t, szq_2_t, Fq_2_0⟩
abbrev D20 := decode jdk_42_method_150_code
theorem d20_0 : D20 0 = .ok (.aload_n 0, 1) := by decide +kernel
theorem d20_1 : D20 1 = .ok (.invokespecial 1, 3) := by decide +kernel
theorem d20_4 : D20 4 = .ok (.aload_n 1, 1) := by decide +kernel
theorem d20_5 : D20 5 = .ok (.invokevirtual 552, 3) := by decide +kernel
theorem pd_19 : parseMethodDescriptor "()[B" = some ⟨[], some (.array .byte)⟩ := by decide +kernel
theorem k20_552U1 {a0 : Array Value} {Z : State} (hw : HW a0 Z) : own_KU a0 Z "java/lang/String" "java/lang/StringBuilder" 552 y31_ y31_ jdk_68_method_64_code 1 (some (.array .byte)) 0 := ⟨⟨(w_ hw 118 rfl), ⟨_, _, pd_19, rfl⟩, by decide⟩, (w_ hw 119 rfl), (w_ hw 121 rfl), (w_ hw 120 rfl), (w_ hw 14 rfl), (w_ hw 122 rfl)⟩
theorem d20_8 : D20 8 = .ok (.astore_n 3, 1) := by decide +kernel
theorem d20_9 : D20 9 = .ok (.aload_n 1, 1) := by decide +kernel
theorem d20_10 : D20 10 = .ok (.invokevirtual 549, 3) := by decide +kernel
def own_KV (a0 : Array Value) (Z : State) (own C : String) (index : Nat) (y z : MethodName) (bytes : ByteArray) (maxL : Nat) (ret : Option FieldType) (k : Nat) : Prop := ((Jvm.Cond.methodLink own index y).before a0 Z = true ∧ (∃ ps r, parseMethodDescriptor y.desc = some ⟨ps, r⟩ ∧ k = ps.length) ∧ (y.cls ≠ "java/lang/invoke/MethodHandle" ∧ y.cls ≠ "java/lang/invoke/VarHandle")) ∧ (Jvm.Cond.declares y).before a0 Z = true ∧ (Jvm.Cond.selects C y z).before a0 Z = true ∧ (Jvm.Cond.instanceMethod z).before a0 Z = true ∧ (Jvm.Cond.initialized z.cls).before a0 Z = true ∧ (Jvm.Cond.code z bytes maxL ret).before a0 Z = true
section Sm
variable {p : Program} {l : Launch} {e : Env} {R : Room} {s : State} {m : MethodId} {args : Array Value} {below : List Frame} {meth : Method} {c : Code} {T : State} {locs : List Loc} {cells slots : Nat} {P : Outcome → State → Prop} {pc : Nat} {Ls : Array Slot} {st : List Value}
theorem c_V0 (X : Stand p l e R s m args below meth c T locs cells slots) {cb : ByteArray} (hq : p.tables.exec = Jvm.exec ∧ c.code = cb) {Z : State} {a0 : Array Value} {h : Heap} {own C : String} {index : Nat} {y z : MethodName} {bytes : ByteArray} {maxL ML : Nat} {ret : Option FieldType} {rm : Room} {Q : Option Value → Heap → List Loc → Prop} {a : Addr}
  (eT : T.heap = h) (hZ : Z.Warmed39 s.vm) (hown : s.vm.findClass own = some m.cls) (hml : c.maxLocals = ML) (hK : own_KV a0 Z own C index y z bytes maxL ret 0) (nf : NotFace s y) (hM : own_Met l z bytes maxL ret rm #[(.ref a)] Z h Q) (E : Exa Z h a C)
  (hd : decode cb pc = .ok (.invokevirtual index, 3)) 
  (k : ∀ (T' : State) (L : List Loc) (w : Value), Stand p l e R s m args below meth c T' (locs ++ L) (cells + rm.cells) (slots + rm.slots) → Q (some w) T'.heap L → own_Go p.tables e below P (T'.setTop (mkF m (pc + 3) Ls (w :: st)))) (W : Nat) (hsz : Ls.size = ML := by rfl) (hW : (st.map fun v => v.category).sum = W := by rfl) (sd : rm.frames + 1 ≤ R.frames ∧ W + (maxL + 11) + rm.locals ≤ R.locals ∧ cells + rm.cells ≤ R.cells ∧ slots + rm.slots ≤ R.slots := by decide) (hv : ∀ v h L, Q v h L → ∃ w, v = some w := by intro v h L q; first | exact Exists.intro _ q.1 | (obtain ⟨_, q⟩ := q; exact Exists.intro _ q.1) | (obtain ⟨_, _, q⟩ := q; exact Exists.intro _ q.1) | (obtain ⟨_, _, _, q⟩ := q; exact Exists.intro _ q.1)) : own_Go p.tables e below P (T.setTop (mkF m pc Ls ((.ref a) :: st))) := by
 obtain ⟨⟨w1, ⟨ps, r, hp, hlen⟩, hy⟩, w2, w5, w6, w3, w4⟩ := hK
 obtain ⟨cB, kB, q1, -, q3⟩ := isOf hZ eT E
 obtain ⟨v, vm1, ⟨T', L0, k0, n0⟩, -, X', ⟨L, hQ, e1, e2, e3⟩, hst⟩ := X.virtualBack hq.1 (y := y) (z := z) hown (mvT hZ w1) (mvT hZ w2) nf (mvT hZ w5) (mvT hZ w6) hy (backOf (W := W) (Q := Q) hM hZ w4 w3 sd.1 sd.2.1) q1 q3 (g := mkF m pc Ls ((.ref a) :: st)) rfl (by rw [hml]; exact hsz) (Steps.refl _) (argsL := []) (rest := st) (lenOf hp hlen) rfl (by show 2 * 0 + _ ≤ _; rw [Nat.mul_zero, Nat.zero_add]; exact Nat.le_of_eq hW) (hb hq.2 hd) (fun _ _ => ⟨rfl, eT, sd.2.2.1, sd.2.2.2⟩)
 dsimp only [Pt.U, Pt.locs, Pt.cells, Pt.slots] at X' e1 e2 e3 hst hQ
 subst e1 e2 e3
 obtain ⟨w, rfl⟩ := hv _ _ _ hQ
 exact own_tr hst (k _ _ _ X' hQ)
end Sm
theorem k20_549V1 {a0 : Array Value} {Z : State} (hw : HW a0 Z) : own_KV a0 Z "java/lang/String" "java/lang/StringBuilder" 549 y11_ (⟨"java/lang/StringBuilder", "length", "()I"⟩ : MethodName) jdk_67_method_93_code 1 (some .int) 0 := ⟨⟨(w_ hw 123 rfl), ⟨_, _, pd_15, rfl⟩, by decide⟩, (w_ hw 124 rfl), (w_ hw 126 rfl), (w_ hw 127 rfl), (w_ hw 6 rfl), (w_ hw 128 rfl)⟩
theorem d20_13 : D20 13 = .ok (.istore 4, 2) := by decide +kernel
theorem d20_15 : D20 15 = .ok (.aload_n 1, 1) := by decide +kernel
theorem d20_16 : D20 16 = .ok (.invokevirtual 1047, 3) := by decide +kernel
theorem k20_1047U1 {a0 : Array Value} {Z : State} (hw : HW a0 Z) : own_KU a0 Z "java/lang/String" "java/lang/StringBuilder" 1047 y7_ y7_ jdk_68_method_68_code 1 (some .boolean) 0 := ⟨⟨(w_ hw 131 rfl), ⟨_, _, pd_4, rfl⟩, by decide⟩, (w_ hw 48 rfl), (w_ hw 50 rfl), (w_ hw 49 rfl), (w_ hw 14 rfl), (w_ hw 51 rfl)⟩
theorem d20_19 : D20 19 = .ok (.ifCond .eq 22, 3) := by decide +kernel
theorem d20_22 : D20 22 = .ok (.aload_n 0, 1) := by decide +kernel
theorem d20_23 : D20 23 = .ok (.iconst 0, 1) := by decide +kernel
theorem d20_24 : D20 24 = .ok (.putfield 15, 3) := by decide +kernel
theorem d20_27 : D20 27 = .ok (.aload_n 0, 1) := by decide +kernel
theorem d20_28 : D20 28 = .ok (.aload_n 3, 1) := by decide +kernel
theorem d20_29 : D20 29 = .ok (.iconst 0, 1) := by decide +kernel
theorem d20_30 : D20 30 = .ok (.iload 4, 2) := by decide +kernel
theorem d20_32 : D20 32 = .ok (.invokestatic 54, 3) := by decide +kernel
theorem k20_54 {a0 : Array Value} {Z : State} (hw : HW a0 Z) : own_KS a0 Z "java/lang/String" "" 54 y12_ y12_ jdk_65_method_132_code 3 (some (.array .byte)) 3 := ⟨⟨(w_ hw 132 rfl), ⟨_, _, pd_18, rfl⟩, by decide⟩, (w_ hw 133 rfl), (w_ hw 134 rfl), (w_ hw 135 rfl)⟩
theorem d20_35 : D20 35 = .ok (.putfield 9, 3) := by decide +kernel
theorem d20_38 : D20 38 = .ok (.goto 59, 3) := by decide +kernel
theorem d20_97 : D20 97 = .ok (.return_, 1) := by decide +kernel
def Q_rmi2g (Z : State) (a0 : Array Value) (a1 a2 b : Addr) (kb : ClassId) (g : Nat → Int32) (K N w : Int32) (h0 : Heap) (n0 : Nat) (v : Option Value) (h : Heap) (L : List Loc) : Prop := ∃ t : Addr, ∃ kt : ClassId, v = none ∧ Fr n0 L ∧ Keep h0 h [a1] ∧ n0 ≤ t ∧ h0.size ≤ t ∧ Fld Z h a1 "java/lang/String" "value" "[B" (.ref t) ∧ Fld Z h a1 "java/lang/String" "coder" "B" (.int (0 : Int32)) ∧ Arv Z h t kt .byte N (own_LI g N) (.int (0 : Int32))
theorem rmi2g (hw : HW a0 Z) (a1 a2 b : Addr) (kb : ClassId) (g : Nat → Int32) (K N w : Int32) (h0 : Heap) (n0 : Nat) (Z0 : n0 ≤ h0.size) (Es : Exa Z h0 a1 "java/lang/String") (gs : n0 ≤ a1) (Fs1 : Fld Z h0 a1 "java/lang/String" "value" "[B" .null) (Fs2 : Fld Z h0 a1 "java/lang/String" "coder" "B" (.int (0 : Int32))) (E1 : Exa Z h0 a2 "java/lang/StringBuilder") (Fv : Fld Z h0 a2 "java/lang/AbstractStringBuilder" "value" "[B" (.ref b)) (Fc : Fld Z h0 a2 "java/lang/AbstractStringBuilder" "coder" "B" (.int (0 : Int32))) (Fn : Fld Z h0 a2 "java/lang/AbstractStringBuilder" "count" "I" (.int N)) (Vb : Arv Z h0 b kb .byte K (own_LI g K) (.int (0 : Int32))) (Eb : Exa Z h0 b "[B") (hN0 : ¬ N < 0) (hN17 : N.toNatClampNeg ≤ 17) (hNK : N < K) (S1 : Sta Z h0 "java/lang/String" "COMPACT_STRINGS" "Z" (.int w)) (hw0 : ¬ w = (0 : Int32)) (n21 : a2 ≠ a1) (nb1 : b ≠ a1) :
  own_Met l y13_ jdk_42_method_150_code 5 none (R_ 3 1 17 49) #[(.ref a1), (.ref a2), .null] Z h0 (Q_rmi2g Z a0 a1 a2 b kb g K N w h0 n0) := by
 refine own_bd (own := "java/lang/String") rfl (plainFor_of_name pn_33) #[rv a1, rv a2, .val .null, .unset, .unset] ?_
 intro p e s m below meth c s₁ hx hby Hq hml hown hnm hlk hrt hZ X0 e0
 refine o_aloadN X0 Hq d20_0 rfl rfl ?_
 obtain ⟨T_1, X_1, e_1, st_1⟩ := initO X0 hx hZ hown (w_ hw 117 rfl) (w_ hw 17 rfl) (w_ hw 18 rfl) e0 (g := (mkF m 1 #[rv a1, rv a2, .val .null, .unset, .unset] [(.ref a1)])) rfl (by rw [hml]; rfl) rfl (hb hby d20_1) (by decide) (W := 0) (z_ rfl) (by decide)
 refine own_st st_1 ?_
 show own_Go _ _ _ _ (T_1.setTop (mkF m 4 #[rv a1, rv a2, .val .null, .unset, .unset] []))
 refine o_aloadN X_1 Hq d20_4 rfl rfl ?_
 refine c_U0 X_1 Hq e_1 hZ hown hml (k20_552U1 hw) (rm21 hw a2 b h0 n0 Z0 Fv) E1 d20_5 ?_ 0
 rintro T_2 L_2 _ X_2 ⟨⟨⟩, Nq_2, e_2⟩
 have N_2 := Fr.app (Fr.nil n0) Nq_2
 refine o_astoreN X_2 Hq d20_8 rfl (l' := #[rv a1, rv a2, .val .null, rv b, .unset]) rfl (o_aloadN X_2 Hq d20_9 rfl rfl ?_)
 refine c_V0 X_2 Hq e_2 hZ hown hml (k20_549V1 hw) (own_nf (args := #[]) (z := y1_) (v_ hZ hw 45 rfl) rfl) (rm22 hw a2 N h0 n0 Z0 E1 Fn) E1 d20_10 ?_ 0
 rintro T_3 L_3 _ X_3 ⟨⟨⟩, Nq_3, e_3⟩
 have N_3 := Fr.app N_2 Nq_3
 refine o_istore X_3 Hq d20_13 (l' := #[rv a1, rv a2, .val .null, rv b, iv N]) rfl (o_aloadN X_3 Hq d20_15 rfl rfl ?_)
 refine c_U0 X_3 Hq e_3 hZ hown hml (k20_1047U1 hw) (rmASBl1 hw a2 w h0 n0 Z0 Fc S1 hw0) E1 d20_16 ?_ 0
 rintro T_4 L_4 _ X_4 ⟨⟨⟩, Nq_4, e_4⟩
 have N_4 := Fr.app N_3 Nq_4
 refine o_ifNo X_4 Hq d20_19 (by decide) (o_aloadN X_4 Hq d20_22 rfl rfl (o_iconst X_4 Hq 0 d20_23 rfl ?_))
 obtain ⟨T_5, h_5, X_5, e_5, W_5, st_5⟩ := putFN X_4 hx hZ hown (w_ hw 83 rfl) Via.refl e_4 Fs2 Es (Or.inr ⟨(w_ hw 59 rfl), rfl, hnm⟩) (w_ hw 57 rfl) (ty := .byte) (v' := (.int (0 : Int32))) (by decide) rfl (by decide) (g := (mkF m 24 #[rv a1, rv a2, .val .null, rv b, iv N] [(.int 0), (.ref a1)])) rfl rfl (hb hby d20_24)
 refine own_st st_5 ?_
 have N_5 := Fr.snoc X_5 N_4 gs
 show own_Go _ _ _ _ (T_5.setTop (mkF m 27 #[rv a1, rv a2, .val .null, rv b, iv N] []))
 refine o_aloadN X_5 Hq d20_27 rfl rfl (o_aloadN X_5 Hq d20_28 rfl rfl (o_iconst X_5 Hq 0 d20_29 rfl (o_iload X_5 Hq d20_30 rfl ?_)))
 have Fa_7 := (Vb.other W_5 nb1)
 have Fa_8 := (Eb.wr W_5)
 have Zs_9 : n0 ≤ h_5.size := (Nat.le_trans Z0 (Keep.of_wr W_5).1)
 refine c_S3 X_5 Hq e_5 hZ hown hml (k20_54 hw) (rmcrg hw b N kb g K h_5 n0 Zs_9 Fa_7 Fa_8 hN0 hN17 hNK) d20_32 ?_ 1
 rintro T_6 L_6 _ X_6 ⟨t__6, kt__6, ⟨⟩, Nq_6, K_6, gq_6_t, sq_6_t, Fq_6_0⟩
 have N_6 := Fr.app N_5 Nq_6
 have Kp_10 : Keep h0 h_5 [a1] := ((Keep.refl h0 [a1]).wr W_5 (Or.inl (List.mem_of_getElem? (i := 0) rfl)))
 have szq_6_t : h0.size ≤ t__6 := Nat.le_trans Kp_10.1 sq_6_t
 have Fa_11 := ((Fs1.other W_5 (Or.inr (slot_ne (Or.inr (w_ hw 58 rfl)) (Or.inr (w_ hw 59 rfl)) (by decide) (t := (.array .byte)) (t' := .byte) (by decide) (by decide)))).keep K_6 nin0)
 have Fa_12 := ((Es.wr W_5).keep K_6)
 obtain ⟨T_13, h_13, X_13, e_13, W_13, st_13⟩ := putF X_6 hx hZ hown (host := "") (Or.inl (w_ hw 76 rfl)) Via.refl rfl Fa_11 Fa_12 (Or.inr ⟨(w_ hw 58 rfl), rfl, hnm⟩) (w_ hw 57 rfl) (ty := (.array .byte)) (by decide) rfl rfl (g := (mkF m 35 #[rv a1, rv a2, .val .null, rv b, iv N] [(.ref t__6), (.ref a1)])) rfl rfl (hb hby d20_35)
 refine own_st st_13 ?_
 have N_13 := Fr.snoc X_13 N_6 gs
 show own_Go _ _ _ _ (T_13.setTop (mkF m 38 #[rv a1, rv a2, .val .null, rv b, iv N] []))
 refine o_goto X_13 Hq (pc' := 97) d20_38 ?_
 have Kp_14 : Keep h0 h_13 [a1] := ((Kp_10.trans K_6 all0).wr W_13 (Or.inl (List.mem_of_getElem? (i := 0) rfl)))
 have Fa_15 := (Fa_11.same W_13)
 have Fa_16 := (((Fs2.same W_5).keep K_6 nin0).other W_13 (Or.inr (slot_ne (Or.inr (w_ hw 59 rfl)) (Or.inr (w_ hw 58 rfl)) (by decide) (t := .byte) (t' := (.array .byte)) (by decide) (by decide))))
 have Fa_17 := (Fq_6_0.other W_13 (Ne.symm (Nat.ne_of_lt (Nat.lt_of_lt_of_le (Fs2.same W_5).lt sq_6_t))))
 exact e_V X_13 e_13 Hq hlk hrt d20_97 ⟨t__6, kt__6, rfl, N_13, Kp_14, gq_6_t, szq_6_t, Fa_15, Fa_16, Fa_17⟩
abbrev D19 := decode jdk_42_method_53_code
theorem d19_0 : D19 0 = .ok (.aload_n 0, 1) := by decide +kernel
theorem d19_1 : D19 1 = .ok (.aload_n 1, 1) := by decide +kernel
theorem d19_2 : D19 2 = .ok (.aconst_null, 1) := by decide +kernel
theorem d19_3 : D19 3 = .ok (.invokespecial 489, 3) := by decide +kernel
theorem pd_20 : parseMethodDescriptor "(Ljava/lang/AbstractStringBuilder;Ljava/lang/Void;)V" = some ⟨[(.object "java/lang/AbstractStringBuilder"), (.object "java/lang/Void")], none⟩ := by decide +kernel
section Sm
variable {p : Program} {l : Launch} {e : Env} {R : Room} {s : State} {m : MethodId} {args : Array Value} {below : List Frame} {meth : Method} {c : Code} {T : State} {locs : List Loc} {cells slots : Nat} {P : Outcome → State → Prop} {pc : Nat} {Ls : Array Slot} {st : List Value}
theorem c_I2v (X : Stand p l e R s m args below meth c T locs cells slots) {cb : ByteArray} (hq : p.tables.exec = Jvm.exec ∧ c.code = cb) {Z : State} {a0 : Array Value} {h : Heap} {own C : String} {index : Nat} {y z : MethodName} {bytes : ByteArray} {maxL ML : Nat} {ret : Option FieldType} {rm : Room} {Q : Option Value → Heap → List Loc → Prop} {a : Addr} {v1 v2 : Value}
  (eT : T.heap = h) (hZ : Z.Warmed39 s.vm) (hown : s.vm.findClass own = some m.cls) (hml : c.maxLocals = ML) (hK : own_KI a0 Z own C index y z bytes maxL ret 2) (hM : own_Met l y bytes maxL none rm #[(.ref a), v1, v2] Z h Q)
  (hd : decode cb pc = .ok (.invokespecial index, 3)) 
  (k : ∀ (T' : State) (L : List Loc), Stand p l e R s m args below meth c T' (locs ++ L) (cells + rm.cells) (slots + rm.slots) → Q none T'.heap L → own_Go p.tables e below P (T'.setTop (mkF m (pc + 3) Ls st))) (W : Nat) (hsz : Ls.size = ML := by rfl) (hW : (st.map fun v => v.category).sum = W := by rfl) (sd : rm.frames + 1 ≤ R.frames ∧ W + (maxL + 11) + rm.locals ≤ R.locals ∧ cells + rm.cells ≤ R.cells ∧ slots + rm.slots ≤ R.slots := by decide) (hv : ∀ v h L, Q v h L → v = none := by intro v h L q; first | exact id q.1 | (obtain ⟨_, q⟩ := q; exact id q.1) | (obtain ⟨_, _, q⟩ := q; exact id q.1) | (obtain ⟨_, _, _, q⟩ := q; exact id q.1)) : own_Go p.tables e below P (T.setTop (mkF m pc Ls (v2 :: v1 :: (.ref a) :: st))) := by
 obtain ⟨⟨w1, ⟨ps, r, hp, hlen⟩, hy⟩, hn, w2, w3, w4⟩ := hK
 obtain ⟨v, vm1, ⟨T', L0, k0, n0⟩, -, X', ⟨L, hQ, e1, e2, e3⟩, hst⟩ := X.specialBack hq.1 (y := y) hn hown (mvT hZ w1) (mvT hZ w2) (mvT hZ w4) hy (backOf (W := W) (Q := Q) hM hZ w4 w3 sd.1 sd.2.1) (g := mkF m pc Ls (v2 :: v1 :: (.ref a) :: st)) rfl (by rw [hml]; exact hsz) (Steps.refl _) (a := a) (argsL := [v1, v2]) (rest := st) (lenOf hp hlen) rfl (by show 2 * 0 + _ ≤ _; rw [Nat.mul_zero, Nat.zero_add]; exact Nat.le_of_eq hW) (hb hq.2 hd) (fun _ _ => ⟨rfl, eT, sd.2.2.1, sd.2.2.2⟩)
 dsimp only [Pt.U, Pt.locs, Pt.cells, Pt.slots] at X' e1 e2 e3 hst hQ
 subst e1 e2 e3
 obtain rfl := hv _ _ _ hQ
 exact own_tr hst (k _ _ X' hQ)
end Sm
theorem k19_489 {a0 : Array Value} {Z : State} (hw : HW a0 Z) : own_KI a0 Z "java/lang/String" "" 489 y13_ y13_ jdk_42_method_150_code 5 none 2 := ⟨⟨(w_ hw 114 rfl), ⟨_, _, pd_20, rfl⟩, by decide⟩, rfl, (w_ hw 115 rfl), (w_ hw 20 rfl), (w_ hw 116 rfl)⟩
theorem d19_6 : D19 6 = .ok (.return_, 1) := by decide +kernel
def Q_rmi1g (Z : State) (a0 : Array Value) (a1 a2 b : Addr) (kb : ClassId) (g : Nat → Int32) (K N w : Int32) (h0 : Heap) (n0 : Nat) (v : Option Value) (h : Heap) (L : List Loc) : Prop := ∃ t : Addr, ∃ kt : ClassId, v = none ∧ Fr n0 L ∧ Keep h0 h [a1] ∧ n0 ≤ t ∧ h0.size ≤ t ∧ Fld Z h a1 "java/lang/String" "value" "[B" (.ref t) ∧ Fld Z h a1 "java/lang/String" "coder" "B" (.int (0 : Int32)) ∧ Arv Z h t kt .byte N (own_LI g N) (.int (0 : Int32))
theorem rmi1g (hw : HW a0 Z) (a1 a2 b : Addr) (kb : ClassId) (g : Nat → Int32) (K N w : Int32) (h0 : Heap) (n0 : Nat) (Z0 : n0 ≤ h0.size) (Es : Exa Z h0 a1 "java/lang/String") (gs : n0 ≤ a1) (Fs1 : Fld Z h0 a1 "java/lang/String" "value" "[B" .null) (Fs2 : Fld Z h0 a1 "java/lang/String" "coder" "B" (.int (0 : Int32))) (E1 : Exa Z h0 a2 "java/lang/StringBuilder") (Fv : Fld Z h0 a2 "java/lang/AbstractStringBuilder" "value" "[B" (.ref b)) (Fc : Fld Z h0 a2 "java/lang/AbstractStringBuilder" "coder" "B" (.int (0 : Int32))) (Fn : Fld Z h0 a2 "java/lang/AbstractStringBuilder" "count" "I" (.int N)) (Vb : Arv Z h0 b kb .byte K (own_LI g K) (.int (0 : Int32))) (Eb : Exa Z h0 b "[B") (hN0 : ¬ N < 0) (hN17 : N.toNatClampNeg ≤ 17) (hNK : N < K) (S1 : Sta Z h0 "java/lang/String" "COMPACT_STRINGS" "Z" (.int w)) (hw0 : ¬ w = (0 : Int32)) (n21 : a2 ≠ a1) (nb1 : b ≠ a1) :
  own_Met l y14_ jdk_42_method_53_code 2 none (R_ 4 1 17 65) #[(.ref a1), (.ref a2)] Z h0 (Q_rmi1g Z a0 a1 a2 b kb g K N w h0 n0) := by
 refine own_bd (own := "java/lang/String") rfl (plainFor_of_name pn_33) #[rv a1, rv a2] ?_
 intro p e s m below meth c s₁ hx hby Hq hml hown hnm hlk hrt hZ X0 e0
 refine o_aloadN X0 Hq d19_0 rfl rfl (o_aloadN X0 Hq d19_1 rfl rfl (o_aconstNull X0 Hq d19_2 ?_))
 refine c_I2v X0 Hq e0 hZ hown hml (k19_489 hw) (rmi2g hw a1 a2 b kb g K N w h0 n0 Z0 Es gs Fs1 Fs2 E1 Fv Fc Fn Vb Eb hN0 hN17 hNK S1 hw0 n21 nb1) d19_3 ?_ 0
 rintro T_1 L_1 X_1 ⟨t__1, kt__1, -, Nq_1, K_1, gq_1_t, sq_1_t, Fq_1_0, Fq_1_1, Fq_1_2⟩
 have N_1 := Fr.app (Fr.nil n0) Nq_1
 have szq_1_t : h0.size ≤ t__1 := Nat.le_trans (Keep.refl h0 [a1]).1 sq_1_t
 have Kp_2 : Keep h0 T_1.heap [a1] := ((Keep.refl h0 [a1]).trans K_1 (allS (Or.inl (List.mem_of_getElem? (i := 0) rfl)) all0))
 exact e_V X_1 rfl Hq hlk hrt d19_6 ⟨t__1, kt__1, rfl, N_1, Kp_2, gq_1_t, szq_1_t, Fq_1_0, Fq_1_1, Fq_1_2⟩
abbrev D18 := decode jdk_67_method_42_code
theorem d18_0 : D18 0 = .ok (.new 18, 3) := by decide +kernel
theorem d18_3 : D18 3 = .ok (.dup, 1) := by decide +kernel
theorem d18_4 : D18 4 = .ok (.aload_n 0, 1) := by decide +kernel
theorem d18_5 : D18 5 = .ok (.invokespecial 137, 3) := by decide +kernel
theorem pd_21 : parseMethodDescriptor "(Ljava/lang/StringBuilder;)V" = some ⟨[(.object "java/lang/StringBuilder")], none⟩ := by decide +kernel
theorem k18_137 {a0 : Array Value} {Z : State} (hw : HW a0 Z) : own_KI a0 Z "java/lang/StringBuilder" "" 137 y14_ y14_ jdk_42_method_53_code 2 none 1 := ⟨⟨(w_ hw 110 rfl), ⟨_, _, pd_21, rfl⟩, by decide⟩, rfl, (w_ hw 111 rfl), (w_ hw 20 rfl), (w_ hw 113 rfl)⟩
theorem d18_8 : D18 8 = .ok (.areturn, 1) := by decide +kernel
def Q_rmtsg (Z : State) (a0 : Array Value) (a1 b : Addr) (kb : ClassId) (g : Nat → Int32) (K N w : Int32) (h0 : Heap) (n0 : Nat) (v : Option Value) (h : Heap) (L : List Loc) : Prop := ∃ r : Addr, ∃ t : Addr, ∃ kt : ClassId, v = some (.ref r) ∧ Fr n0 L ∧ Keep h0 h [] ∧ n0 ≤ r ∧ h0.size ≤ r ∧ n0 ≤ t ∧ h0.size ≤ t ∧ Exa Z h r "java/lang/String" ∧ Fld Z h r "java/lang/String" "value" "[B" (.ref t) ∧ Fld Z h r "java/lang/String" "coder" "B" (.int (0 : Int32)) ∧ Arv Z h t kt .byte N (own_LI g N) (.int (0 : Int32))
theorem rmtsg (hw : HW a0 Z) (a1 b : Addr) (kb : ClassId) (g : Nat → Int32) (K N w : Int32) (h0 : Heap) (n0 : Nat) (Z0 : n0 ≤ h0.size) (E1 : Exa Z h0 a1 "java/lang/StringBuilder") (Fv : Fld Z h0 a1 "java/lang/AbstractStringBuilder" "value" "[B" (.ref b)) (Fc : Fld Z h0 a1 "java/lang/AbstractStringBuilder" "coder" "B" (.int (0 : Int32))) (Fn : Fld Z h0 a1 "java/lang/AbstractStringBuilder" "count" "I" (.int N)) (Vb : Arv Z h0 b kb .byte K (own_LI g K) (.int (0 : Int32))) (Eb : Exa Z h0 b "[B") (hN0 : ¬ N < 0) (hN17 : N.toNatClampNeg ≤ 17) (hNK : N < K) (S1 : Sta Z h0 "java/lang/String" "COMPACT_STRINGS" "Z" (.int w)) (hw0 : ¬ w = (0 : Int32)) :
  own_Met l y15_ jdk_67_method_42_code 1 (some (.object "java/lang/String")) (R_ 5 2 21 79) #[(.ref a1)] Z h0 (Q_rmtsg Z a0 a1 b kb g K N w h0 n0) := by
 refine own_bd (own := "java/lang/StringBuilder") rfl (plainFor_of_name pn_2) #[rv a1] ?_
 intro p e s m below meth c s₁ hx hby Hq hml hown hnm hlk hrt hZ X0 e0
 obtain ⟨T_1, h_1, X_1, e_1, E_1, A_1, D_1, -, st_1⟩ := newO X0 hx hZ hown (w_ hw 109 rfl) (w_ hw 57 rfl) (w_ hw 20 rfl) e0 (g := (mkF m 0 #[rv a1] [])) rfl (hb hby d18_0) (by decide) (by decide)
 obtain ⟨b_1, g_1⟩ : ∃ z, z = h0.size := ⟨_, rfl⟩
 rw [← g_1] at A_1 D_1 st_1
 have gg_1 : n0 ≤ b_1 := Nat.le_trans Z0 (Nat.le_of_eq g_1.symm)
 have sz_1 : h0.size ≤ b_1 := Nat.le_trans (Keep.refl h0 []).1 (Nat.le_of_eq g_1.symm)
 have Fi_1_value : Fld Z h_1 b_1 "java/lang/String" "value" "[B" .null := D_1 (Or.inr (w_ hw 58 rfl)) (ty := (.array .byte)) (by decide)
 have Fi_1_coder : Fld Z h_1 b_1 "java/lang/String" "coder" "B" (.int (0 : Int32)) := D_1 (Or.inr (w_ hw 59 rfl)) (ty := .byte) (by decide)
 refine own_st st_1 ?_
 show own_Go _ _ _ _ (T_1.setTop (mkF m 3 #[rv a1] [(.ref b_1)]))
 refine o_dup X_1 Hq d18_3 rfl (o_aloadN X_1 Hq d18_4 rfl rfl ?_)
 have Fa_3 := (E1.ext E_1)
 have Fa_4 := (Fv.ext E_1)
 have Fa_5 := (Fc.ext E_1)
 have Fa_6 := (Fn.ext E_1)
 have Fa_7 := (Vb.ext E_1)
 have Fa_8 := (Eb.ext E_1)
 have Fa_9 := (S1.ext E_1)
 have Zs_10 : n0 ≤ h_1.size := (Nat.le_trans Z0 E_1.1)
 refine c_I1v X_1 Hq e_1 hZ hown hml (k18_137 hw) (rmi1g hw b_1 a1 b kb g K N w h_1 n0 Zs_10 A_1 gg_1 Fi_1_value Fi_1_coder Fa_3 Fa_4 Fa_5 Fa_6 Fa_7 Fa_8 hN0 hN17 hNK Fa_9 hw0 (Nat.ne_of_lt (Nat.lt_of_lt_of_le E1.lt (Nat.le_of_eq g_1.symm))) (Nat.ne_of_lt (Nat.lt_of_lt_of_le Vb.lt (Nat.le_of_eq g_1.symm)))) d18_5 ?_ 1
 rintro T_2 L_2 X_2 ⟨t__2, kt__2, -, Nq_2, K_2, gq_2_t, sq_2_t, Fq_2_0, Fq_2_1, Fq_2_2⟩
 have N_2 := Fr.app (Fr.nil n0) Nq_2
 have Kp_11 : Keep h0 h_1 [] := ((Keep.refl h0 []).ext E_1)
 have szq_2_t : h0.size ≤ t__2 := Nat.le_trans Kp_11.1 sq_2_t
 have Kp_12 : Keep h0 T_2.heap [] := (Kp_11.trans K_2 (allS (Or.inr sz_1) all0))
 have Fa_13 := (A_1.keep K_2)
 exact e_R X_2 rfl Hq hlk rfl rfl hrt d18_8 ⟨b_1, t__2, kt__2, rfl, N_2, Kp_12, gg_1, sz_1, gq_2_t, szq_2_t, Fa_13, Fq_2_0, Fq_2_1, Fq_2_2⟩
theorem d24_17 : D24 17 = .ok (.aload_n 0, 1) := by decide +kernel
theorem d24_18 : D24 18 = .ok (.invokevirtual 310, 3) := by decide +kernel
theorem d24_21 : D24 21 = .ok (.checkcast 311, 3) := by decide +kernel
theorem d24_24 : D24 24 = .ok (.areturn, 1) := by decide +kernel
def Q_rmcrc (Z : State) (a0 : Array Value) (a1 : Addr) (kb : ClassId) (g : Nat → Int32) (h0 : Heap) (n0 : Nat) (v : Option Value) (h : Heap) (L : List Loc) : Prop := ∃ t : Addr, ∃ kt : ClassId, v = some (.ref t) ∧ Fr n0 L ∧ Keep h0 h [] ∧ n0 ≤ t ∧ h0.size ≤ t ∧ Arv Z h t kt .byte (16 : Int32) (own_LI g (16 : Int32)) (.int (0 : Int32))
theorem rmcrc (hw : HW a0 Z) (a1 : Addr) (kb : ClassId) (g : Nat → Int32) (h0 : Heap) (n0 : Nat) (Z0 : n0 ≤ h0.size) (Vb : Arv Z h0 a1 kb .byte (16 : Int32) (own_LI g (16 : Int32)) (.int (0 : Int32))) (Eb : Exa Z h0 a1 "[B") :
  own_Met l y12_ jdk_65_method_132_code 3 (some (.array .byte)) (R_ 1 1 16 14) #[(.ref a1), (.int (0 : Int32)), (.int (16 : Int32))] Z h0 (Q_rmcrc Z a0 a1 kb g h0 n0) := by
 refine own_bd (own := "java/util/Arrays") rfl (plainFor_of_name pn_40) #[rv a1, iv 0, iv 16] ?_
 intro p e s m below meth c s₁ hx hby Hq hml hown hnm hlk hrt hZ X0 e0
 refine o_iloadN X0 Hq d24_0 rfl (o_ifNo X0 Hq d24_1 (by decide) (o_iloadN X0 Hq d24_4 rfl (o_aloadN X0 Hq d24_5 rfl rfl ?_)))
 obtain ⟨cl_1, Ar_1, qk_1, Sz_1, Ng_1, Hs_1, Gs_1⟩ := id Vb
 refine own_st (X0.arraylength hx (by rw [e0]; exact Ar_1.1) (State.isArrayOf_alike hZ.alike Ar_1.2.1) (g := (mkF m 6 #[rv a1, iv 0, iv 16] [(.ref a1), (.int 16)])) rfl rfl (hb hby d24_6)) ?_
 rw [len_of Sz_1 Ng_1]
 show own_Go _ _ _ _ (s₁.setTop (mkF m 7 #[rv a1, iv 0, iv 16] [(.int 16), (.int 16)]))
 refine o_icmpYes X0 Hq (pc' := 17) d24_7 (by decide) (o_aloadN X0 Hq d24_17 rfl rfl ?_)
 obtain ⟨T_2, h_2, X_2, e_2, E_2, A_2, Ex_2, st_2⟩ := cloneH X0 hx hZ hown (w_ hw 195 rfl) (w_ hw 196 rfl) (w_ hw 200 rfl) (w_ hw 198 rfl) (w_ hw 199 rfl) (w_ hw 201 rfl) e0 (Arv.arh Vb) Eb (g := (mkF m 18 #[rv a1, iv 0, iv 16] [(.ref a1)])) rfl (by rw [hml]; rfl) rfl (hb hby d24_18) (by decide) (W := 0) (cap := 16) (z_ rfl) (by decide) (by decide) (by decide) (by decide)
 obtain ⟨b_2, g_2⟩ : ∃ z, z = h0.size := ⟨_, rfl⟩
 rw [← g_2] at A_2 Ex_2 st_2
 have V_2 : Arv Z h_2 b_2 kb .byte (16 : Int32) (own_LI g (16 : Int32)) (.int (0 : Int32)) := A_2
 have gg_2 : n0 ≤ b_2 := Nat.le_trans Z0 (Nat.le_of_eq g_2.symm)
 have sz_2 : h0.size ≤ b_2 := Nat.le_trans (Keep.refl h0 []).1 (Nat.le_of_eq g_2.symm)
 refine own_st st_2 ?_
 show own_Go _ _ _ _ (T_2.setTop (mkF m 21 #[rv a1, iv 0, iv 16] [(.ref b_2)]))
 obtain ⟨T_3, X_3, e_3, st_3⟩ := castY X_2 hx hZ hown (w_ hw 202 rfl) e_2 (Ins.self Ex_2) (g := (mkF m 21 #[rv a1, iv 0, iv 16] [(.ref b_2)])) rfl rfl (hb hby d24_21)
 refine own_st st_3 ?_
 show own_Go _ _ _ _ (T_3.setTop (mkF m 24 #[rv a1, iv 0, iv 16] [(.ref b_2)]))
 have Kp_4 : Keep h0 h_2 [] := ((Keep.refl h0 []).ext E_2)
 exact e_R X_3 e_3 Hq hlk rfl rfl hrt d24_24 ⟨b_2, kb, rfl, (Fr.nil n0), Kp_4, gg_2, sz_2, V_2⟩
def Q_rmi2c (Z : State) (a0 : Array Value) (a1 a2 b : Addr) (kb : ClassId) (g : Nat → Int32) (w : Int32) (h0 : Heap) (n0 : Nat) (v : Option Value) (h : Heap) (L : List Loc) : Prop := ∃ t : Addr, ∃ kt : ClassId, v = none ∧ Fr n0 L ∧ Keep h0 h [a1] ∧ n0 ≤ t ∧ h0.size ≤ t ∧ Fld Z h a1 "java/lang/String" "value" "[B" (.ref t) ∧ Fld Z h a1 "java/lang/String" "coder" "B" (.int (0 : Int32)) ∧ Arv Z h t kt .byte (16 : Int32) (own_LI g (16 : Int32)) (.int (0 : Int32))
theorem rmi2c (hw : HW a0 Z) (a1 a2 b : Addr) (kb : ClassId) (g : Nat → Int32) (w : Int32) (h0 : Heap) (n0 : Nat) (Z0 : n0 ≤ h0.size) (Es : Exa Z h0 a1 "java/lang/String") (gs : n0 ≤ a1) (Fs1 : Fld Z h0 a1 "java/lang/String" "value" "[B" .null) (Fs2 : Fld Z h0 a1 "java/lang/String" "coder" "B" (.int (0 : Int32))) (E1 : Exa Z h0 a2 "java/lang/StringBuilder") (Fv : Fld Z h0 a2 "java/lang/AbstractStringBuilder" "value" "[B" (.ref b)) (Fc : Fld Z h0 a2 "java/lang/AbstractStringBuilder" "coder" "B" (.int (0 : Int32))) (Fn : Fld Z h0 a2 "java/lang/AbstractStringBuilder" "count" "I" (.int (16 : Int32))) (Vb : Arv Z h0 b kb .byte (16 : Int32) (own_LI g (16 : Int32)) (.int (0 : Int32))) (Eb : Exa Z h0 b "[B") (S1 : Sta Z h0 "java/lang/String" "COMPACT_STRINGS" "Z" (.int w)) (hw0 : ¬ w = (0 : Int32)) (n21 : a2 ≠ a1) (nb1 : b ≠ a1) :
  own_Met l y13_ jdk_42_method_150_code 5 none (R_ 2 1 16 29) #[(.ref a1), (.ref a2), .null] Z h0 (Q_rmi2c Z a0 a1 a2 b kb g w h0 n0) := by
 refine own_bd (own := "java/lang/String") rfl (plainFor_of_name pn_33) #[rv a1, rv a2, .val .null, .unset, .unset] ?_
 intro p e s m below meth c s₁ hx hby Hq hml hown hnm hlk hrt hZ X0 e0
 refine o_aloadN X0 Hq d20_0 rfl rfl ?_
 obtain ⟨T_1, X_1, e_1, st_1⟩ := initO X0 hx hZ hown (w_ hw 117 rfl) (w_ hw 17 rfl) (w_ hw 18 rfl) e0 (g := (mkF m 1 #[rv a1, rv a2, .val .null, .unset, .unset] [(.ref a1)])) rfl (by rw [hml]; rfl) rfl (hb hby d20_1) (by decide) (W := 0) (z_ rfl) (by decide)
 refine own_st st_1 ?_
 show own_Go _ _ _ _ (T_1.setTop (mkF m 4 #[rv a1, rv a2, .val .null, .unset, .unset] []))
 refine o_aloadN X_1 Hq d20_4 rfl rfl ?_
 refine c_U0 X_1 Hq e_1 hZ hown hml (k20_552U1 hw) (rm21 hw a2 b h0 n0 Z0 Fv) E1 d20_5 ?_ 0
 rintro T_2 L_2 _ X_2 ⟨⟨⟩, Nq_2, e_2⟩
 have N_2 := Fr.app (Fr.nil n0) Nq_2
 refine o_astoreN X_2 Hq d20_8 rfl (l' := #[rv a1, rv a2, .val .null, rv b, .unset]) rfl (o_aloadN X_2 Hq d20_9 rfl rfl ?_)
 refine c_V0 X_2 Hq e_2 hZ hown hml (k20_549V1 hw) (own_nf (args := #[]) (z := y1_) (v_ hZ hw 45 rfl) rfl) (rm22 hw a2 (16 : Int32) h0 n0 Z0 E1 Fn) E1 d20_10 ?_ 0
 rintro T_3 L_3 _ X_3 ⟨⟨⟩, Nq_3, e_3⟩
 have N_3 := Fr.app N_2 Nq_3
 refine o_istore X_3 Hq d20_13 (l' := #[rv a1, rv a2, .val .null, rv b, iv 16]) rfl (o_aloadN X_3 Hq d20_15 rfl rfl ?_)
 refine c_U0 X_3 Hq e_3 hZ hown hml (k20_1047U1 hw) (rmASBl1 hw a2 w h0 n0 Z0 Fc S1 hw0) E1 d20_16 ?_ 0
 rintro T_4 L_4 _ X_4 ⟨⟨⟩, Nq_4, e_4⟩
 have N_4 := Fr.app N_3 Nq_4
 refine o_ifNo X_4 Hq d20_19 (by decide) (o_aloadN X_4 Hq d20_22 rfl rfl (o_iconst X_4 Hq 0 d20_23 rfl ?_))
 obtain ⟨T_5, h_5, X_5, e_5, W_5, st_5⟩ := putFN X_4 hx hZ hown (w_ hw 83 rfl) Via.refl e_4 Fs2 Es (Or.inr ⟨(w_ hw 59 rfl), rfl, hnm⟩) (w_ hw 57 rfl) (ty := .byte) (v' := (.int (0 : Int32))) (by decide) rfl (by decide) (g := (mkF m 24 #[rv a1, rv a2, .val .null, rv b, iv 16] [(.int 0), (.ref a1)])) rfl rfl (hb hby d20_24)
 refine own_st st_5 ?_
 have N_5 := Fr.snoc X_5 N_4 gs
 show own_Go _ _ _ _ (T_5.setTop (mkF m 27 #[rv a1, rv a2, .val .null, rv b, iv 16] []))
 refine o_aloadN X_5 Hq d20_27 rfl rfl (o_aloadN X_5 Hq d20_28 rfl rfl (o_iconst X_5 Hq 0 d20_29 rfl (o_iload X_5 Hq d20_30 rfl ?_)))
 have Fa_7 := (Vb.other W_5 nb1)
 have Fa_8 := (Eb.wr W_5)
 have Zs_9 : n0 ≤ h_5.size := (Nat.le_trans Z0 (Keep.of_wr W_5).1)
 refine c_S3 X_5 Hq e_5 hZ hown hml (k20_54 hw) (rmcrc hw b kb g h_5 n0 Zs_9 Fa_7 Fa_8) d20_32 ?_ 1
 rintro T_6 L_6 _ X_6 ⟨t__6, kt__6, ⟨⟩, Nq_6, K_6, gq_6_t, sq_6_t, Fq_6_0⟩
 have N_6 := Fr.app N_5 Nq_6
 have Kp_10 : Keep h0 h_5 [a1] := ((Keep.refl h0 [a1]).wr W_5 (Or.inl (List.mem_of_getElem? (i := 0) rfl)))
 have szq_6_t : h0.size ≤ t__6 := Nat.le_trans Kp_10.1 sq_6_t
 have Fa_11 := ((Fs1.other W_5 (Or.inr (slot_ne (Or.inr (w_ hw 58 rfl)) (Or.inr (w_ hw 59 rfl)) (by decide) (t := (.array .byte)) (t' := .byte) (by decide) (by decide)))).keep K_6 nin0)
 have Fa_12 := ((Es.wr W_5).keep K_6)
 obtain ⟨T_13, h_13, X_13, e_13, W_13, st_13⟩ := putF X_6 hx hZ hown (host := "") (Or.inl (w_ hw 76 rfl)) Via.refl rfl Fa_11 Fa_12 (Or.inr ⟨(w_ hw 58 rfl), rfl, hnm⟩) (w_ hw 57 rfl) (ty := (.array .byte)) (by decide) rfl rfl (g := (mkF m 35 #[rv a1, rv a2, .val .null, rv b, iv 16] [(.ref t__6), (.ref a1)])) rfl rfl (hb hby d20_35)
 refine own_st st_13 ?_
 have N_13 := Fr.snoc X_13 N_6 gs
 show own_Go _ _ _ _ (T_13.setTop (mkF m 38 #[rv a1, rv a2, .val .null, rv b, iv 16] []))
 refine o_goto X_13 Hq (pc' := 97) d20_38 ?_
 have Kp_14 : Keep h0 h_13 [a1] := ((Kp_10.trans K_6 all0).wr W_13 (Or.inl (List.mem_of_getElem? (i := 0) rfl)))
 have Fa_15 := (Fa_11.same W_13)
 have Fa_16 := (((Fs2.same W_5).keep K_6 nin0).other W_13 (Or.inr (slot_ne (Or.inr (w_ hw 59 rfl)) (Or.inr (w_ hw 58 rfl)) (by decide) (t := .byte) (t' := (.array .byte)) (by decide) (by decide))))
 have Fa_17 := (Fq_6_0.other W_13 (Ne.symm (Nat.ne_of_lt (Nat.lt_of_lt_of_le (Fs2.same W_5).lt sq_6_t))))
 exact e_V X_13 e_13 Hq hlk hrt d20_97 ⟨t__6, kt__6, rfl, N_13, Kp_14, gq_6_t, szq_6_t, Fa_15, Fa_16, Fa_17⟩
def Q_rmi1c (Z : State) (a0 : Array Value) (a1 a2 b : Addr) (kb : ClassId) (g : Nat → Int32) (w : Int32) (h0 : Heap) (n0 : Nat) (v : Option Value) (h : Heap) (L : List Loc) : Prop := ∃ t : Addr, ∃ kt : ClassId, v = none ∧ Fr n0 L ∧ Keep h0 h [a1] ∧ n0 ≤ t ∧ h0.size ≤ t ∧ Fld Z h a1 "java/lang/String" "value" "[B" (.ref t) ∧ Fld Z h a1 "java/lang/String" "coder" "B" (.int (0 : Int32)) ∧ Arv Z h t kt .byte (16 : Int32) (own_LI g (16 : Int32)) (.int (0 : Int32))
theorem rmi1c (hw : HW a0 Z) (a1 a2 b : Addr) (kb : ClassId) (g : Nat → Int32) (w : Int32) (h0 : Heap) (n0 : Nat) (Z0 : n0 ≤ h0.size) (Es : Exa Z h0 a1 "java/lang/String") (gs : n0 ≤ a1) (Fs1 : Fld Z h0 a1 "java/lang/String" "value" "[B" .null) (Fs2 : Fld Z h0 a1 "java/lang/String" "coder" "B" (.int (0 : Int32))) (E1 : Exa Z h0 a2 "java/lang/StringBuilder") (Fv : Fld Z h0 a2 "java/lang/AbstractStringBuilder" "value" "[B" (.ref b)) (Fc : Fld Z h0 a2 "java/lang/AbstractStringBuilder" "coder" "B" (.int (0 : Int32))) (Fn : Fld Z h0 a2 "java/lang/AbstractStringBuilder" "count" "I" (.int (16 : Int32))) (Vb : Arv Z h0 b kb .byte (16 : Int32) (own_LI g (16 : Int32)) (.int (0 : Int32))) (Eb : Exa Z h0 b "[B") (S1 : Sta Z h0 "java/lang/String" "COMPACT_STRINGS" "Z" (.int w)) (hw0 : ¬ w = (0 : Int32)) (n21 : a2 ≠ a1) (nb1 : b ≠ a1) :
  own_Met l y14_ jdk_42_method_53_code 2 none (R_ 3 1 16 45) #[(.ref a1), (.ref a2)] Z h0 (Q_rmi1c Z a0 a1 a2 b kb g w h0 n0) := by
 refine own_bd (own := "java/lang/String") rfl (plainFor_of_name pn_33) #[rv a1, rv a2] ?_
 intro p e s m below meth c s₁ hx hby Hq hml hown hnm hlk hrt hZ X0 e0
 refine o_aloadN X0 Hq d19_0 rfl rfl (o_aloadN X0 Hq d19_1 rfl rfl (o_aconstNull X0 Hq d19_2 ?_))
 refine c_I2v X0 Hq e0 hZ hown hml (k19_489 hw) (rmi2c hw a1 a2 b kb g w h0 n0 Z0 Es gs Fs1 Fs2 E1 Fv Fc Fn Vb Eb S1 hw0 n21 nb1) d19_3 ?_ 0
 rintro T_1 L_1 X_1 ⟨t__1, kt__1, -, Nq_1, K_1, gq_1_t, sq_1_t, Fq_1_0, Fq_1_1, Fq_1_2⟩
 have N_1 := Fr.app (Fr.nil n0) Nq_1
 have szq_1_t : h0.size ≤ t__1 := Nat.le_trans (Keep.refl h0 [a1]).1 sq_1_t
 have Kp_2 : Keep h0 T_1.heap [a1] := ((Keep.refl h0 [a1]).trans K_1 (allS (Or.inl (List.mem_of_getElem? (i := 0) rfl)) all0))
 exact e_V X_1 rfl Hq hlk hrt d19_6 ⟨t__1, kt__1, rfl, N_1, Kp_2, gq_1_t, szq_1_t, Fq_1_0, Fq_1_1, Fq_1_2⟩
def Q_rmtsc (Z : State) (a0 : Array Value) (a1 b : Addr) (kb : ClassId) (g : Nat → Int32) (w : Int32) (h0 : Heap) (n0 : Nat) (v : Option Value) (h : Heap) (L : List Loc) : Prop := ∃ r : Addr, ∃ t : Addr, ∃ kt : ClassId, v = some (.ref r) ∧ Fr n0 L ∧ Keep h0 h [] ∧ n0 ≤ r ∧ h0.size ≤ r ∧ n0 ≤ t ∧ h0.size ≤ t ∧ Exa Z h r "java/lang/String" ∧ Fld Z h r "java/lang/String" "value" "[B" (.ref t) ∧ Fld Z h r "java/lang/String" "coder" "B" (.int (0 : Int32)) ∧ Arv Z h t kt .byte (16 : Int32) (own_LI g (16 : Int32)) (.int (0 : Int32))
theorem rmtsc (hw : HW a0 Z) (a1 b : Addr) (kb : ClassId) (g : Nat → Int32) (w : Int32) (h0 : Heap) (n0 : Nat) (Z0 : n0 ≤ h0.size) (E1 : Exa Z h0 a1 "java/lang/StringBuilder") (Fv : Fld Z h0 a1 "java/lang/AbstractStringBuilder" "value" "[B" (.ref b)) (Fc : Fld Z h0 a1 "java/lang/AbstractStringBuilder" "coder" "B" (.int (0 : Int32))) (Fn : Fld Z h0 a1 "java/lang/AbstractStringBuilder" "count" "I" (.int (16 : Int32))) (Vb : Arv Z h0 b kb .byte (16 : Int32) (own_LI g (16 : Int32)) (.int (0 : Int32))) (Eb : Exa Z h0 b "[B") (S1 : Sta Z h0 "java/lang/String" "COMPACT_STRINGS" "Z" (.int w)) (hw0 : ¬ w = (0 : Int32)) :
  own_Met l y15_ jdk_67_method_42_code 1 (some (.object "java/lang/String")) (R_ 4 2 20 59) #[(.ref a1)] Z h0 (Q_rmtsc Z a0 a1 b kb g w h0 n0) := by
 refine own_bd (own := "java/lang/StringBuilder") rfl (plainFor_of_name pn_2) #[rv a1] ?_
 intro p e s m below meth c s₁ hx hby Hq hml hown hnm hlk hrt hZ X0 e0
 obtain ⟨T_1, h_1, X_1, e_1, E_1, A_1, D_1, -, st_1⟩ := newO X0 hx hZ hown (w_ hw 109 rfl) (w_ hw 57 rfl) (w_ hw 20 rfl) e0 (g := (mkF m 0 #[rv a1] [])) rfl (hb hby d18_0) (by decide) (by decide)
 obtain ⟨b_1, g_1⟩ : ∃ z, z = h0.size := ⟨_, rfl⟩
 rw [← g_1] at A_1 D_1 st_1
 have gg_1 : n0 ≤ b_1 := Nat.le_trans Z0 (Nat.le_of_eq g_1.symm)
 have sz_1 : h0.size ≤ b_1 := Nat.le_trans (Keep.refl h0 []).1 (Nat.le_of_eq g_1.symm)
 have Fi_1_value : Fld Z h_1 b_1 "java/lang/String" "value" "[B" .null := D_1 (Or.inr (w_ hw 58 rfl)) (ty := (.array .byte)) (by decide)
 have Fi_1_coder : Fld Z h_1 b_1 "java/lang/String" "coder" "B" (.int (0 : Int32)) := D_1 (Or.inr (w_ hw 59 rfl)) (ty := .byte) (by decide)
 refine own_st st_1 ?_
 show own_Go _ _ _ _ (T_1.setTop (mkF m 3 #[rv a1] [(.ref b_1)]))
 refine o_dup X_1 Hq d18_3 rfl (o_aloadN X_1 Hq d18_4 rfl rfl ?_)
 have Fa_3 := (E1.ext E_1)
 have Fa_4 := (Fv.ext E_1)
 have Fa_5 := (Fc.ext E_1)
 have Fa_6 := (Fn.ext E_1)
 have Fa_7 := (Vb.ext E_1)
 have Fa_8 := (Eb.ext E_1)
 have Fa_9 := (S1.ext E_1)
 have Zs_10 : n0 ≤ h_1.size := (Nat.le_trans Z0 E_1.1)
 refine c_I1v X_1 Hq e_1 hZ hown hml (k18_137 hw) (rmi1c hw b_1 a1 b kb g w h_1 n0 Zs_10 A_1 gg_1 Fi_1_value Fi_1_coder Fa_3 Fa_4 Fa_5 Fa_6 Fa_7 Fa_8 Fa_9 hw0 (Nat.ne_of_lt (Nat.lt_of_lt_of_le E1.lt (Nat.le_of_eq g_1.symm))) (Nat.ne_of_lt (Nat.lt_of_lt_of_le Vb.lt (Nat.le_of_eq g_1.symm)))) d18_5 ?_ 1
 rintro T_2 L_2 X_2 ⟨t__2, kt__2, -, Nq_2, K_2, gq_2_t, sq_2_t, Fq_2_0, Fq_2_1, Fq_2_2⟩
 have N_2 := Fr.app (Fr.nil n0) Nq_2
 have Kp_11 : Keep h0 h_1 [] := ((Keep.refl h0 []).ext E_1)
 have szq_2_t : h0.size ≤ t__2 := Nat.le_trans Kp_11.1 sq_2_t
 have Kp_12 : Keep h0 T_2.heap [] := (Kp_11.trans K_2 (allS (Or.inr sz_1) all0))
 have Fa_13 := (A_1.keep K_2)
 exact e_R X_2 rfl Hq hlk rfl rfl hrt d18_8 ⟨b_1, t__2, kt__2, rfl, N_2, Kp_12, gg_1, sz_1, gq_2_t, szq_2_t, Fa_13, Fq_2_0, Fq_2_1, Fq_2_2⟩
def own_dJ (q1 : Int64)  : Int32 := (if (lcmpW q1 (10 : Int64)) < (0 : Int32) then (1 : Int32) else (if (lcmpW q1 (100 : Int64)) < (0 : Int32) then (2 : Int32) else (if (lcmpW q1 (1000 : Int64)) < (0 : Int32) then (3 : Int32) else (if (lcmpW q1 (10000 : Int64)) < (0 : Int32) then (4 : Int32) else (if (lcmpW q1 (100000 : Int64)) < (0 : Int32) then (5 : Int32) else (if (lcmpW q1 (1000000 : Int64)) < (0 : Int32) then (6 : Int32) else (if (lcmpW q1 (10000000 : Int64)) < (0 : Int32) then (7 : Int32) else (if (lcmpW q1 (100000000 : Int64)) < (0 : Int32) then (8 : Int32) else (if (lcmpW q1 (1000000000 : Int64)) < (0 : Int32) then (9 : Int32) else (10 : Int32))))))))))
theorem pn_28 : plainName "com/example/figurant/figurant/VerificationModeCountOfTimesPinLaw" = true := by first | (simp [plainName, overriddenIn]; done) | decide +kernel
abbrev D28 := decode method_3_code
theorem d28_0 : D28 0 = .ok (.lload_n 0, 1) := by decide +kernel
theorem d28_1 : D28 1 = .ok (.ldc2_w 29, 3) := by decide +kernel
theorem d28_4 : D28 4 = .ok (.lcmp, 1) := by decide +kernel
theorem d28_5 : D28 5 = .ok (.ifCond .ge 5, 3) := by decide +kernel
theorem d28_8 : D28 8 = .ok (.iconst 1, 1) := by decide +kernel
theorem d28_9 : D28 9 = .ok (.ireturn, 1) := by decide +kernel
theorem d28_10 : D28 10 = .ok (.lload_n 0, 1) := by decide +kernel
theorem d28_11 : D28 11 = .ok (.ldc2_w 31, 3) := by decide +kernel
theorem d28_14 : D28 14 = .ok (.lcmp, 1) := by decide +kernel
theorem d28_15 : D28 15 = .ok (.ifCond .ge 5, 3) := by decide +kernel
theorem d28_18 : D28 18 = .ok (.iconst 2, 1) := by decide +kernel
theorem d28_19 : D28 19 = .ok (.ireturn, 1) := by decide +kernel
theorem d28_20 : D28 20 = .ok (.lload_n 0, 1) := by decide +kernel
theorem d28_21 : D28 21 = .ok (.ldc2_w 33, 3) := by decide +kernel
theorem d28_24 : D28 24 = .ok (.lcmp, 1) := by decide +kernel
theorem d28_25 : D28 25 = .ok (.ifCond .ge 5, 3) := by decide +kernel
theorem d28_28 : D28 28 = .ok (.iconst 3, 1) := by decide +kernel
theorem d28_29 : D28 29 = .ok (.ireturn, 1) := by decide +kernel
theorem d28_30 : D28 30 = .ok (.lload_n 0, 1) := by decide +kernel
theorem d28_31 : D28 31 = .ok (.ldc2_w 35, 3) := by decide +kernel
theorem d28_34 : D28 34 = .ok (.lcmp, 1) := by decide +kernel
theorem d28_35 : D28 35 = .ok (.ifCond .ge 5, 3) := by decide +kernel
theorem d28_38 : D28 38 = .ok (.iconst 4, 1) := by decide +kernel
theorem d28_39 : D28 39 = .ok (.ireturn, 1) := by decide +kernel
theorem d28_40 : D28 40 = .ok (.lload_n 0, 1) := by decide +kernel
theorem d28_41 : D28 41 = .ok (.ldc2_w 37, 3) := by decide +kernel
theorem d28_44 : D28 44 = .ok (.lcmp, 1) := by decide +kernel
theorem d28_45 : D28 45 = .ok (.ifCond .ge 5, 3) := by decide +kernel
theorem d28_48 : D28 48 = .ok (.iconst 5, 1) := by decide +kernel
theorem d28_49 : D28 49 = .ok (.ireturn, 1) := by decide +kernel
theorem d28_50 : D28 50 = .ok (.lload_n 0, 1) := by decide +kernel
theorem d28_51 : D28 51 = .ok (.ldc2_w 39, 3) := by decide +kernel
theorem d28_54 : D28 54 = .ok (.lcmp, 1) := by decide +kernel
theorem d28_55 : D28 55 = .ok (.ifCond .ge 6, 3) := by decide +kernel
theorem d28_58 : D28 58 = .ok (.bipush 6, 2) := by decide +kernel
theorem d28_60 : D28 60 = .ok (.ireturn, 1) := by decide +kernel
theorem d28_61 : D28 61 = .ok (.lload_n 0, 1) := by decide +kernel
theorem d28_62 : D28 62 = .ok (.ldc2_w 41, 3) := by decide +kernel
theorem d28_65 : D28 65 = .ok (.lcmp, 1) := by decide +kernel
theorem d28_66 : D28 66 = .ok (.ifCond .ge 6, 3) := by decide +kernel
theorem d28_69 : D28 69 = .ok (.bipush 7, 2) := by decide +kernel
theorem d28_71 : D28 71 = .ok (.ireturn, 1) := by decide +kernel
theorem d28_72 : D28 72 = .ok (.lload_n 0, 1) := by decide +kernel
theorem d28_73 : D28 73 = .ok (.ldc2_w 43, 3) := by decide +kernel
theorem d28_76 : D28 76 = .ok (.lcmp, 1) := by decide +kernel
theorem d28_77 : D28 77 = .ok (.ifCond .ge 6, 3) := by decide +kernel
theorem d28_80 : D28 80 = .ok (.bipush 8, 2) := by decide +kernel
theorem d28_82 : D28 82 = .ok (.ireturn, 1) := by decide +kernel
theorem d28_83 : D28 83 = .ok (.lload_n 0, 1) := by decide +kernel
theorem d28_84 : D28 84 = .ok (.ldc2_w 45, 3) := by decide +kernel
theorem d28_87 : D28 87 = .ok (.lcmp, 1) := by decide +kernel
theorem d28_88 : D28 88 = .ok (.ifCond .ge 6, 3) := by decide +kernel
theorem d28_91 : D28 91 = .ok (.bipush 9, 2) := by decide +kernel
theorem d28_93 : D28 93 = .ok (.ireturn, 1) := by decide +kernel
theorem d28_94 : D28 94 = .ok (.bipush 10, 2) := by decide +kernel
theorem d28_96 : D28 96 = .ok (.ireturn, 1) := by decide +kernel
def Q_rm28 (Z : State) (a0 : Array Value) (q1 : Int64) (h0 : Heap) (n0 : Nat) (v : Option Value) (h : Heap) (L : List Loc) : Prop := v = some (.int (own_dJ q1)) ∧ Fr n0 L ∧ h = h0
theorem rm28 (hw : HW a0 Z) (q1 : Int64) (h0 : Heap) (n0 : Nat) (Z0 : n0 ≤ h0.size) :
  own_Met l y34_ method_3_code 2 (some .int) (R_ 0 0 0 0) #[(.long q1)] Z h0 (Q_rm28 Z a0 q1 h0 n0) := by
 refine own_bd (own := "com/example/figurant/figurant/VerificationModeCountOfTimesPinLaw") rfl (plainFor_of_name pn_28) #[.val (.long q1), .second] ?_
 intro p e s m below meth c s₁ hx hby Hq hml hown hnm hlk hrt hZ X0 e0
 have hv : own_dJ q1 = (if (lcmpW q1 (10 : Int64)) < (0 : Int32) then (1 : Int32) else (if (lcmpW q1 (100 : Int64)) < (0 : Int32) then (2 : Int32) else (if (lcmpW q1 (1000 : Int64)) < (0 : Int32) then (3 : Int32) else (if (lcmpW q1 (10000 : Int64)) < (0 : Int32) then (4 : Int32) else (if (lcmpW q1 (100000 : Int64)) < (0 : Int32) then (5 : Int32) else (if (lcmpW q1 (1000000 : Int64)) < (0 : Int32) then (6 : Int32) else (if (lcmpW q1 (10000000 : Int64)) < (0 : Int32) then (7 : Int32) else (if (lcmpW q1 (100000000 : Int64)) < (0 : Int32) then (8 : Int32) else (if (lcmpW q1 (1000000000 : Int64)) < (0 : Int32) then (9 : Int32) else (10 : Int32)))))))))) := rfl
 show own_Go _ _ _ _ (s₁.setTop (mkF m 0 #[.val (.long q1), .second] []))
 refine o_lloadN X0 Hq d28_0 rfl (o_ldc2 X0 Hq hown d28_1 (v_ hZ hw 151 rfl) (o_lcmp X0 Hq d28_4 ?_))
 by_cases hc5__1 : (lcmpW q1 (10 : Int64)) < (0 : Int32)
 ·have hv_2 := hv.trans (if_pos hc5__1)
  refine o_ifNo X0 Hq d28_5 (tlt hc5__1).2.1 (o_iconst X0 Hq 1 d28_8 rfl ?_)
  exact e_I X0 e0 Hq hlk hrt d28_9 ⟨(congrArg (fun z => some (Value.int z)) hv_2.symm), (Fr.nil n0), rfl⟩
 ·have hv_3 := hv.trans (if_neg hc5__1)
  refine o_ifYes X0 Hq (pc' := 10) d28_5 (flt hc5__1).2.1 (o_lloadN X0 Hq d28_10 rfl (o_ldc2 X0 Hq hown d28_11 (v_ hZ hw 185 rfl) (o_lcmp X0 Hq d28_14 ?_)))
  by_cases hc15__4 : (lcmpW q1 (100 : Int64)) < (0 : Int32)
  ·have hv_5 := hv_3.trans (if_pos hc15__4)
   refine o_ifNo X0 Hq d28_15 (tlt hc15__4).2.1 (o_iconst X0 Hq 2 d28_18 rfl ?_)
   exact e_I X0 e0 Hq hlk hrt d28_19 ⟨(congrArg (fun z => some (Value.int z)) hv_5.symm), (Fr.nil n0), rfl⟩
  ·have hv_6 := hv_3.trans (if_neg hc15__4)
   refine o_ifYes X0 Hq (pc' := 20) d28_15 (flt hc15__4).2.1 (o_lloadN X0 Hq d28_20 rfl (o_ldc2 X0 Hq hown d28_21 (v_ hZ hw 186 rfl) (o_lcmp X0 Hq d28_24 ?_)))
   by_cases hc25__7 : (lcmpW q1 (1000 : Int64)) < (0 : Int32)
   ·have hv_8 := hv_6.trans (if_pos hc25__7)
    refine o_ifNo X0 Hq d28_25 (tlt hc25__7).2.1 (o_iconst X0 Hq 3 d28_28 rfl ?_)
    exact e_I X0 e0 Hq hlk hrt d28_29 ⟨(congrArg (fun z => some (Value.int z)) hv_8.symm), (Fr.nil n0), rfl⟩
   ·have hv_9 := hv_6.trans (if_neg hc25__7)
    refine o_ifYes X0 Hq (pc' := 30) d28_25 (flt hc25__7).2.1 (o_lloadN X0 Hq d28_30 rfl (o_ldc2 X0 Hq hown d28_31 (v_ hZ hw 187 rfl) (o_lcmp X0 Hq d28_34 ?_)))
    by_cases hc35__10 : (lcmpW q1 (10000 : Int64)) < (0 : Int32)
    ·have hv_11 := hv_9.trans (if_pos hc35__10)
     refine o_ifNo X0 Hq d28_35 (tlt hc35__10).2.1 (o_iconst X0 Hq 4 d28_38 rfl ?_)
     exact e_I X0 e0 Hq hlk hrt d28_39 ⟨(congrArg (fun z => some (Value.int z)) hv_11.symm), (Fr.nil n0), rfl⟩
    ·have hv_12 := hv_9.trans (if_neg hc35__10)
     refine o_ifYes X0 Hq (pc' := 40) d28_35 (flt hc35__10).2.1 (o_lloadN X0 Hq d28_40 rfl (o_ldc2 X0 Hq hown d28_41 (v_ hZ hw 188 rfl) (o_lcmp X0 Hq d28_44 ?_)))
     by_cases hc45__13 : (lcmpW q1 (100000 : Int64)) < (0 : Int32)
     ·have hv_14 := hv_12.trans (if_pos hc45__13)
      refine o_ifNo X0 Hq d28_45 (tlt hc45__13).2.1 (o_iconst X0 Hq 5 d28_48 rfl ?_)
      exact e_I X0 e0 Hq hlk hrt d28_49 ⟨(congrArg (fun z => some (Value.int z)) hv_14.symm), (Fr.nil n0), rfl⟩
     ·have hv_15 := hv_12.trans (if_neg hc45__13)
      refine o_ifYes X0 Hq (pc' := 50) d28_45 (flt hc45__13).2.1 (o_lloadN X0 Hq d28_50 rfl (o_ldc2 X0 Hq hown d28_51 (v_ hZ hw 189 rfl) (o_lcmp X0 Hq d28_54 ?_)))
      by_cases hc55__16 : (lcmpW q1 (1000000 : Int64)) < (0 : Int32)
      ·have hv_17 := hv_15.trans (if_pos hc55__16)
       refine o_ifNo X0 Hq d28_55 (tlt hc55__16).2.1 (o_bipush X0 Hq 6 d28_58 rfl ?_)
       exact e_I X0 e0 Hq hlk hrt d28_60 ⟨(congrArg (fun z => some (Value.int z)) hv_17.symm), (Fr.nil n0), rfl⟩
      ·have hv_18 := hv_15.trans (if_neg hc55__16)
       refine o_ifYes X0 Hq (pc' := 61) d28_55 (flt hc55__16).2.1 (o_lloadN X0 Hq d28_61 rfl (o_ldc2 X0 Hq hown d28_62 (v_ hZ hw 190 rfl) (o_lcmp X0 Hq d28_65 ?_)))
       by_cases hc66__19 : (lcmpW q1 (10000000 : Int64)) < (0 : Int32)
       ·have hv_20 := hv_18.trans (if_pos hc66__19)
        refine o_ifNo X0 Hq d28_66 (tlt hc66__19).2.1 (o_bipush X0 Hq 7 d28_69 rfl ?_)
        exact e_I X0 e0 Hq hlk hrt d28_71 ⟨(congrArg (fun z => some (Value.int z)) hv_20.symm), (Fr.nil n0), rfl⟩
       ·have hv_21 := hv_18.trans (if_neg hc66__19)
        refine o_ifYes X0 Hq (pc' := 72) d28_66 (flt hc66__19).2.1 (o_lloadN X0 Hq d28_72 rfl (o_ldc2 X0 Hq hown d28_73 (v_ hZ hw 191 rfl) (o_lcmp X0 Hq d28_76 ?_)))
        by_cases hc77__22 : (lcmpW q1 (100000000 : Int64)) < (0 : Int32)
        ·have hv_23 := hv_21.trans (if_pos hc77__22)
         refine o_ifNo X0 Hq d28_77 (tlt hc77__22).2.1 (o_bipush X0 Hq 8 d28_80 rfl ?_)
         exact e_I X0 e0 Hq hlk hrt d28_82 ⟨(congrArg (fun z => some (Value.int z)) hv_23.symm), (Fr.nil n0), rfl⟩
        ·have hv_24 := hv_21.trans (if_neg hc77__22)
         refine o_ifYes X0 Hq (pc' := 83) d28_77 (flt hc77__22).2.1 (o_lloadN X0 Hq d28_83 rfl (o_ldc2 X0 Hq hown d28_84 (v_ hZ hw 192 rfl) (o_lcmp X0 Hq d28_87 ?_)))
         by_cases hc88__25 : (lcmpW q1 (1000000000 : Int64)) < (0 : Int32)
         ·have hv_26 := hv_24.trans (if_pos hc88__25)
          refine o_ifNo X0 Hq d28_88 (tlt hc88__25).2.1 (o_bipush X0 Hq 9 d28_91 rfl ?_)
          exact e_I X0 e0 Hq hlk hrt d28_93 ⟨(congrArg (fun z => some (Value.int z)) hv_26.symm), (Fr.nil n0), rfl⟩
         ·have hv_27 := hv_24.trans (if_neg hc88__25)
          refine o_ifYes X0 Hq (pc' := 94) d28_88 (flt hc88__25).2.1 (o_bipush X0 Hq 10 d28_94 rfl ?_)
          exact e_I X0 e0 Hq hlk hrt d28_96 ⟨(congrArg (fun z => some (Value.int z)) hv_27.symm), (Fr.nil n0), rfl⟩
theorem own_aP (p1 : Int32) : (p1.toInt64).toInt = p1.toInt := Int32.toInt_toInt64 p1
theorem own_aN (p1 : Int32) : (-(p1.toInt64)).toInt = -p1.toInt := by
 have q := c_lneg p1.toInt64
 have e := own_aP p1
 have b1 := p1.toInt_lt; have b2 := p1.le_toInt
 have b3 := (-(p1.toInt64)).toInt_lt; have b4 := (-(p1.toInt64)).le_toInt
 omega
theorem own_hl {p t : Int32} (hc : own_size p + t = own_len p) (ht : 0 ≤ t.toInt ∧ t.toInt ≤ 6) : (own_len p).toInt = (own_size p).toInt + t.toInt := by
 have s := own_sizeb p
 have q := c_iadd (own_size p) t
 have b1 := (own_size p + t).toInt_lt; have b2 := (own_size p + t).le_toInt
 rw [← hc]; omega
theorem own_nt {p t : Int32} {K : Nat} (hc : own_size p + t = own_len p) (ht : 0 ≤ t.toInt ∧ t.toInt ≤ 6) (hK : (own_len p).toInt ≤ (K : Int)) : (own_size p).toNatClampNeg + t.toNatClampNeg ≤ K := by
 have s := own_sizeb p
 have q := own_hl hc ht
 exact own_le34 (by omega) ht.1 (by omega)
theorem own_len17 (p : Int32) : (own_len p).toNatClampNeg ≤ 17 := by
 have := own_lenb p
 simp only [Int32.toNatClampNeg]; omega
theorem own_lt16 {p : Int32} (h : (own_len p).toInt ≤ 15) : own_len p < (16 : Int32) := own_ltI (by
 have e : (16 : Int32).toInt = 16 := rfl
 omega)
theorem own_dJeq (q : Int64) : (own_dJ q).toInt = own_nd q.toInt := by
 unfold own_dJ own_nd
 by_cases c1 : q.toInt < 10
 ·rw [if_pos ((own_ltJ (A := q.toInt) (B := 10) rfl rfl).1 c1), if_pos c1]; rfl
 rw [if_neg ((own_ltJ (A := q.toInt) (B := 10) rfl rfl).2 c1), if_neg c1]
 by_cases c2 : q.toInt < 100
 ·rw [if_pos ((own_ltJ (A := q.toInt) (B := 100) rfl rfl).1 c2), if_pos c2]; rfl
 rw [if_neg ((own_ltJ (A := q.toInt) (B := 100) rfl rfl).2 c2), if_neg c2]
 by_cases c3 : q.toInt < 1000
 ·rw [if_pos ((own_ltJ (A := q.toInt) (B := 1000) rfl rfl).1 c3), if_pos c3]; rfl
 rw [if_neg ((own_ltJ (A := q.toInt) (B := 1000) rfl rfl).2 c3), if_neg c3]
 by_cases c4 : q.toInt < 10000
 ·rw [if_pos ((own_ltJ (A := q.toInt) (B := 10000) rfl rfl).1 c4), if_pos c4]; rfl
 rw [if_neg ((own_ltJ (A := q.toInt) (B := 10000) rfl rfl).2 c4), if_neg c4]
 by_cases c5 : q.toInt < 100000
 ·rw [if_pos ((own_ltJ (A := q.toInt) (B := 100000) rfl rfl).1 c5), if_pos c5]; rfl
 rw [if_neg ((own_ltJ (A := q.toInt) (B := 100000) rfl rfl).2 c5), if_neg c5]
 by_cases c6 : q.toInt < 1000000
 ·rw [if_pos ((own_ltJ (A := q.toInt) (B := 1000000) rfl rfl).1 c6), if_pos c6]; rfl
 rw [if_neg ((own_ltJ (A := q.toInt) (B := 1000000) rfl rfl).2 c6), if_neg c6]
 by_cases c7 : q.toInt < 10000000
 ·rw [if_pos ((own_ltJ (A := q.toInt) (B := 10000000) rfl rfl).1 c7), if_pos c7]; rfl
 rw [if_neg ((own_ltJ (A := q.toInt) (B := 10000000) rfl rfl).2 c7), if_neg c7]
 by_cases c8 : q.toInt < 100000000
 ·rw [if_pos ((own_ltJ (A := q.toInt) (B := 100000000) rfl rfl).1 c8), if_pos c8]; rfl
 rw [if_neg ((own_ltJ (A := q.toInt) (B := 100000000) rfl rfl).2 c8), if_neg c8]
 by_cases c9 : q.toInt < 1000000000
 ·rw [if_pos ((own_ltJ (A := q.toInt) (B := 1000000000) rfl rfl).1 c9), if_pos c9]; rfl
 rw [if_neg ((own_ltJ (A := q.toInt) (B := 1000000000) rfl rfl).2 c9), if_neg c9]
 rfl
theorem own_p7 {p k : Int32} {q : Int64} (hq : q.toInt = own_abs p) (hk : k.toInt = own_ng p) : own_dJ q + k = own_size p := by
 have a := own_dJeq q
 have b := own_ndb q.toInt
 have g := own_ngb p
 have s := own_sizeI p
 have i := c_iadd (own_dJ q) k
 have b1 := (own_dJ q + k).toInt_lt; have b2 := (own_dJ q + k).le_toInt
 apply Int32.toInt_inj.mp
 rw [hq] at a b
 omega
theorem own_qN {p : Int32} (h : p < 0) : (-(p.toInt64)).toInt = own_abs p := by
 rw [own_aN]; unfold own_abs; rw [Int32.lt_iff_toInt_lt] at h; rw [if_pos (show p.toInt < 0 from h)]
theorem own_qP {p : Int32} (h : ¬ p < 0) : (p.toInt64).toInt = own_abs p := by
 rw [own_aP]; unfold own_abs; rw [Int32.lt_iff_toInt_lt] at h; rw [if_neg (show ¬ p.toInt < 0 from h)]
def own_F (p i : Int32) : Int32 := own_ft p i.toNatClampNeg
theorem own_txok (j : Nat) : own_ok (own_txf j) := by
 unfold own_txf
 rw [List.getD_eq_getElem?_getD]
 rcases j with _ | _ | _ | _ | _ | _ | j
 all_goals first | exact ⟨by decide, by decide⟩ | skip
 simp [own_ok]
theorem own_ftok (p : Int32) (j : Nat) : own_ok (own_ft p j) := by
 unfold own_ft
 split
 ·unfold own_pt
  split
  ·split
   ·exact ⟨by decide, by decide⟩
   ·exact own_dgok _ _
  ·exact ⟨by decide, by decide⟩
 ·exact own_txok _
theorem own_Fb (p : Int32) : ∀ i : Int32, ¬ (255 : Int32) < own_F p i ∧ ¬ own_F p i < 0 := fun i => by
 have q := own_ftok p i.toNatClampNeg
 unfold own_ok at q; unfold own_F
 rw [Int32.lt_iff_toInt_lt, Int32.lt_iff_toInt_lt]
 have e : (255 : Int32).toInt = 255 := rfl
 have e0 : (0 : Int32).toInt = 0 := rfl
 omega
theorem own_Fat (p N : Int32) {dv : Value} : ∀ i : Int32, ¬ i < 0 → i < N → (own_LI (own_ft p) N).getD i.toNatClampNeg dv = .int (((own_F p i).toInt8.toInt32).toInt8.toInt32) := fun i h0 h1 => by
 have q := own_ftok p i.toNatClampNeg
 unfold own_ok at q
 unfold own_F
 rw [own_i8 q.1 q.2, own_i8 q.1 q.2]
 exact own_LI_get h0 h1

def own_TX (i : Int32) : Int32 := own_txf i.toNatClampNeg
abbrev own_KT (p1 p4 : Int32) : Int32 := ((p4 - (1 : Int32)) - p1)
def own_XT (q2 : Int64) (k : Int32) : Int32 := (nar .char (((48 : Int32) + (((q2 / (own_p10 k)) - (q2 / (own_p10 k)) / (10 : Int64) * (10 : Int64)).toInt32)).toUInt32.toUInt16.toUInt32.toInt32))
def own_xp (p1 : Int32) (q2 : Int64) (p3 p4 : Int32) : Int32 := if p1 < p4 then (if p3 = (0 : Int32) then own_XT q2 (own_KT p1 p4) else if p1 = (0 : Int32) then (45 : Int32) else own_XT q2 (own_KT p1 p4)) else own_TX (p1 - p4)
/-- the places that are read lie in their tables -/
def own_okx (p1 p3 p4 : Int32) : Prop := (p1 < p4 → (p3 = (0 : Int32) ∨ ¬ p1 = (0 : Int32)) → ¬ own_KT p1 p4 < 0 ∧ own_KT p1 p4 < (10 : Int32)) ∧ (¬ p1 < p4 → ¬ (p1 - p4) < 0 ∧ (p1 - p4) < (6 : Int32))
theorem own_p10k {k : Int32} {e : Nat} (he : e ≤ 9) (hk : k.toInt = (e : Int)) : (own_p10 k).toInt = 10 ^ e := by
 have h : k = Int32.ofInt (e : Int) := Int32.toInt_inj.mp (by rw [hk, Int32.toInt_ofInt_of_le (by omega) (by omega)])
 subst h
 match e, he with
 | 0, _ => decide +kernel
 | 1, _ => decide +kernel
 | 2, _ => decide +kernel
 | 3, _ => decide +kernel
 | 4, _ => decide +kernel
 | 5, _ => decide +kernel
 | 6, _ => decide +kernel
 | 7, _ => decide +kernel
 | 8, _ => decide +kernel
 | 9, _ => decide +kernel
 | n + 10, h => omega
theorem own_KTI {p1 p4 : Int32} (h0 : 0 ≤ p1.toInt) (h1 : p1.toInt < 100) (h2 : 0 ≤ p4.toInt) (h3 : p4.toInt < 100) : (own_KT p1 p4).toInt = p4.toInt - 1 - p1.toInt := by
 have a := c_isub p4 (1 : Int32); have e : (1 : Int32).toInt = 1 := rfl
 have b1 := (p4 - (1 : Int32)).toInt_lt; have b2 := (p4 - (1 : Int32)).le_toInt
 have b := c_isub (p4 - (1 : Int32)) p1
 have b3 := ((p4 - (1 : Int32)) - p1).toInt_lt; have b4 := ((p4 - (1 : Int32)) - p1).le_toInt
 show ((p4 - (1 : Int32)) - p1).toInt = _
 omega
theorem own_JI {p1 p4 : Int32} (h0 : 0 ≤ p1.toInt) (h1 : p1.toInt < 100) (h2 : 0 ≤ p4.toInt) (h3 : p4.toInt < 100) : (p1 - p4).toInt = p1.toInt - p4.toInt := by
 have a := c_isub p1 p4
 have b1 := (p1 - p4).toInt_lt; have b2 := (p1 - p4).le_toInt
 omega
section At
variable {p i ngv : Int32} {q : Int64}
/-- a place within the text: what is read and what is awaited -/
theorem own_atx (hq : q.toInt = own_abs p) (hg0 : ngv = (0 : Int32) → own_ng p = 0) (hg1 : ¬ ngv = (0 : Int32) → own_ng p = 1) (h0 : 0 ≤ i.toInt) (h1 : i < own_len p) : own_okx i ngv (own_size p) ∧ own_F p i = own_xp i q ngv (own_size p) := by
 have l := own_lenb p
 have s := own_sizeb p
 have sI := own_sizeI p
 have nb := own_ndb (own_abs p)
 have g := own_ngb p
 have lI := own_lenI p
 rw [Int32.lt_iff_toInt_lt] at h1
 have hi : i.toInt < 17 := by omega
 have in_ : (i.toNatClampNeg : Int) = i.toInt := by simp only [Int32.toNatClampNeg]; omega
 have ab := own_absb p
 have kI := own_KTI (p1 := i) (p4 := own_size p) h0 (by omega) (by omega) (by omega)
 have jI := own_JI (p1 := i) (p4 := own_size p) h0 (by omega) (by omega) (by omega)
 have e0 : (0 : Int32).toInt = 0 := rfl
 have e6 : (6 : Int32).toInt = 6 := rfl
 have e10 : (10 : Int32).toInt = 10 := rfl
 have hz : i = (0 : Int32) ↔ i.toInt = 0 := by rw [← Int32.toInt_inj, e0]
 by_cases a : i < own_size p
 ·have a' : i.toInt < (own_size p).toInt := Int32.lt_iff_toInt_lt.mp a
  by_cases m : own_ng p = 1 ∧ i.toInt = 0
  ·have n0 : ¬ ngv = (0 : Int32) := fun h => by have := hg0 h; omega
   refine ⟨⟨fun _ h => ?_, fun h => absurd a h⟩, ?_⟩
   ·rcases h with h | h
    ·exact absurd h n0
    ·exact absurd (hz.mpr m.2) h
   ·unfold own_xp own_F own_ft own_pt
    rw [if_pos a, if_neg n0, if_pos (hz.mpr m.2), if_pos (by omega), if_pos (by omega), if_pos ⟨m.1, by omega⟩]
  ·have kk : 0 ≤ (own_KT i (own_size p)).toInt ∧ (own_KT i (own_size p)).toInt ≤ 9 := by
    constructor
    ·omega
    ·by_cases z : own_ng p = 1
     ·have : i.toInt ≠ 0 := fun h => m ⟨z, h⟩
      omega
     ·omega
   have F : own_F p i = own_XT q (own_KT i (own_size p)) := by
    unfold own_XT own_F own_ft own_pt
    rw [if_pos (by omega), if_pos (by omega), if_neg (by omega)]
    refine (own_exp (A := own_abs p) hq ab.1 (own_p10k (e := ((own_size p).toInt - 1 - (i.toNatClampNeg : Int)).toNat) (by omega) (by omega)) (Int.pow_pos (by decide))).symm
   refine ⟨⟨fun _ _ => ?_, fun h => absurd a h⟩, ?_⟩
   ·rw [Int32.lt_iff_toInt_lt, Int32.lt_iff_toInt_lt]; omega
   ·rw [F]; unfold own_xp
    rw [if_pos a]
    by_cases n0 : ngv = (0 : Int32)
    ·rw [if_pos n0]
    ·have : ¬ i = (0 : Int32) := fun h => m ⟨hg1 n0, hz.mp h⟩
     rw [if_neg n0, if_neg this]
 ·have a' : ¬ i.toInt < (own_size p).toInt := fun h => a (Int32.lt_iff_toInt_lt.mpr h)
  have b6 : (own_len p).toInt ≤ (own_size p).toInt + 6 := by rw [lI]; split <;> omega
  refine ⟨⟨fun h => absurd h a, fun _ => ?_⟩, ?_⟩
  ·rw [Int32.lt_iff_toInt_lt, Int32.lt_iff_toInt_lt]; omega
  ·unfold own_xp own_F own_ft own_TX
   rw [if_neg a, if_neg (by omega)]
   refine congrArg own_txf ?_
   have sn := own_sn p
   simp only [Int32.toNatClampNeg] at *; omega
end At
def own_AT (N : Int32) (f : Int32 → Int32) (i : Int32) (q : Int64) (p4 p5 p6 : Int32) : Prop := i < p6 → (¬ i < 0 ∧ i < N) ∧ own_okx i p4 p5 ∧ f i = own_xp i q p4 p5
theorem own_ATk {p i ngv : Int32} {q : Int64} (hq : q.toInt = own_abs p) (hg0 : ngv = (0 : Int32) → own_ng p = 0) (hg1 : ¬ ngv = (0 : Int32) → own_ng p = 1) (h0 : 0 ≤ i.toInt) : own_AT (own_len p) (own_F p) i q ngv (own_size p) (own_len p) := fun h => ⟨⟨own_ge0 h0, h⟩, own_atx hq hg0 hg1 h0 h⟩
theorem own_txF {N : Int32} {dv : Value} : ∀ i : Int32, ¬ i < 0 → i < N → (own_LI own_txf N).getD i.toNatClampNeg dv = .int (((own_TX i).toInt8.toInt32).toInt8.toInt32) := fun i h0 h1 => by
 have q := own_txok i.toNatClampNeg
 unfold own_ok at q
 unfold own_TX
 rw [own_i8 q.1 q.2, own_i8 q.1 q.2]
 exact own_LI_get h0 h1
theorem own_txb : ∀ i : Int32, ¬ (255 : Int32) < own_TX i ∧ ¬ own_TX i < 0 := fun i => by
 have q := own_txok i.toNatClampNeg
 unfold own_ok at q
 unfold own_TX
 rw [Int32.lt_iff_toInt_lt, Int32.lt_iff_toInt_lt]
 have e : (255 : Int32).toInt = 255 := rfl
 have e0 : (0 : Int32).toInt = 0 := rfl
 omega

theorem pn_1 : plainName "com/example/figurant/figurant/VerificationMode" = true := by first | (simp [plainName, overriddenIn]; done) | decide +kernel
abbrev D1 := decode prog_18_method_6_code
theorem d1_0 : D1 0 = .ok (.new 32, 3) := by decide +kernel
theorem d1_3 : D1 3 = .ok (.dup, 1) := by decide +kernel
theorem d1_4 : D1 4 = .ok (.invokespecial 34, 3) := by decide +kernel
theorem pd_22 : parseMethodDescriptor "()V" = some ⟨[], none⟩ := by decide +kernel
section Sm
variable {p : Program} {l : Launch} {e : Env} {R : Room} {s : State} {m : MethodId} {args : Array Value} {below : List Frame} {meth : Method} {c : Code} {T : State} {locs : List Loc} {cells slots : Nat} {P : Outcome → State → Prop} {pc : Nat} {Ls : Array Slot} {st : List Value}
theorem c_I0v (X : Stand p l e R s m args below meth c T locs cells slots) {cb : ByteArray} (hq : p.tables.exec = Jvm.exec ∧ c.code = cb) {Z : State} {a0 : Array Value} {h : Heap} {own C : String} {index : Nat} {y z : MethodName} {bytes : ByteArray} {maxL ML : Nat} {ret : Option FieldType} {rm : Room} {Q : Option Value → Heap → List Loc → Prop} {a : Addr}
  (eT : T.heap = h) (hZ : Z.Warmed39 s.vm) (hown : s.vm.findClass own = some m.cls) (hml : c.maxLocals = ML) (hK : own_KI a0 Z own C index y z bytes maxL ret 0) (hM : own_Met l y bytes maxL none rm #[(.ref a)] Z h Q)
  (hd : decode cb pc = .ok (.invokespecial index, 3)) 
  (k : ∀ (T' : State) (L : List Loc), Stand p l e R s m args below meth c T' (locs ++ L) (cells + rm.cells) (slots + rm.slots) → Q none T'.heap L → own_Go p.tables e below P (T'.setTop (mkF m (pc + 3) Ls st))) (W : Nat) (hsz : Ls.size = ML := by rfl) (hW : (st.map fun v => v.category).sum = W := by rfl) (sd : rm.frames + 1 ≤ R.frames ∧ W + (maxL + 11) + rm.locals ≤ R.locals ∧ cells + rm.cells ≤ R.cells ∧ slots + rm.slots ≤ R.slots := by decide) (hv : ∀ v h L, Q v h L → v = none := by intro v h L q; first | exact id q.1 | (obtain ⟨_, q⟩ := q; exact id q.1) | (obtain ⟨_, _, q⟩ := q; exact id q.1) | (obtain ⟨_, _, _, q⟩ := q; exact id q.1)) : own_Go p.tables e below P (T.setTop (mkF m pc Ls ((.ref a) :: st))) := by
 obtain ⟨⟨w1, ⟨ps, r, hp, hlen⟩, hy⟩, hn, w2, w3, w4⟩ := hK
 obtain ⟨v, vm1, ⟨T', L0, k0, n0⟩, -, X', ⟨L, hQ, e1, e2, e3⟩, hst⟩ := X.specialBack hq.1 (y := y) hn hown (mvT hZ w1) (mvT hZ w2) (mvT hZ w4) hy (backOf (W := W) (Q := Q) hM hZ w4 w3 sd.1 sd.2.1) (g := mkF m pc Ls ((.ref a) :: st)) rfl (by rw [hml]; exact hsz) (Steps.refl _) (a := a) (argsL := []) (rest := st) (lenOf hp hlen) rfl (by show 2 * 0 + _ ≤ _; rw [Nat.mul_zero, Nat.zero_add]; exact Nat.le_of_eq hW) (hb hq.2 hd) (fun _ _ => ⟨rfl, eT, sd.2.2.1, sd.2.2.2⟩)
 dsimp only [Pt.U, Pt.locs, Pt.cells, Pt.slots] at X' e1 e2 e3 hst hQ
 subst e1 e2 e3
 obtain rfl := hv _ _ _ hQ
 exact own_tr hst (k _ _ X' hQ)
end Sm
theorem k1_34 {a0 : Array Value} {Z : State} (hw : HW a0 Z) : own_KI a0 Z "com/example/figurant/figurant/VerificationMode" "" 34 y20_ y20_ jdk_67_method_1_code 1 none 0 := ⟨⟨(w_ hw 7 rfl), ⟨_, _, pd_22, rfl⟩, by decide⟩, rfl, (w_ hw 8 rfl), (w_ hw 6 rfl), (w_ hw 9 rfl)⟩
theorem d1_7 : D1 7 = .ok (.iload_n 0, 1) := by decide +kernel
theorem d1_8 : D1 8 = .ok (.invokevirtual 47, 3) := by decide +kernel
theorem pd_23 : parseMethodDescriptor "(I)Ljava/lang/StringBuilder;" = some ⟨[.int], some (.object "java/lang/StringBuilder")⟩ := by decide +kernel
section Sm
variable {p : Program} {l : Launch} {e : Env} {R : Room} {s : State} {m : MethodId} {args : Array Value} {below : List Frame} {meth : Method} {c : Code} {T : State} {locs : List Loc} {cells slots : Nat} {P : Outcome → State → Prop} {pc : Nat} {Ls : Array Slot} {st : List Value}
theorem c_U1 (X : Stand p l e R s m args below meth c T locs cells slots) {cb : ByteArray} (hq : p.tables.exec = Jvm.exec ∧ c.code = cb) {Z : State} {a0 : Array Value} {h : Heap} {own C : String} {index : Nat} {y z : MethodName} {bytes : ByteArray} {maxL ML : Nat} {ret : Option FieldType} {rm : Room} {Q : Option Value → Heap → List Loc → Prop} {a : Addr} {v1 : Value}
  (eT : T.heap = h) (hZ : Z.Warmed39 s.vm) (hown : s.vm.findClass own = some m.cls) (hml : c.maxLocals = ML) (hK : own_KU a0 Z own C index y z bytes maxL ret 1) (hM : own_Met l y bytes maxL ret rm #[(.ref a), v1] Z h Q) (E : Exa Z h a C)
  (hd : decode cb pc = .ok (.invokevirtual index, 3)) 
  (k : ∀ (T' : State) (L : List Loc) (w : Value), Stand p l e R s m args below meth c T' (locs ++ L) (cells + rm.cells) (slots + rm.slots) → Q (some w) T'.heap L → own_Go p.tables e below P (T'.setTop (mkF m (pc + 3) Ls (w :: st)))) (W : Nat) (hsz : Ls.size = ML := by rfl) (hW : (st.map fun v => v.category).sum = W := by rfl) (sd : rm.frames + 1 ≤ R.frames ∧ W + (maxL + 11) + rm.locals ≤ R.locals ∧ cells + rm.cells ≤ R.cells ∧ slots + rm.slots ≤ R.slots := by decide) (hv : ∀ v h L, Q v h L → ∃ w, v = some w := by intro v h L q; first | exact Exists.intro _ q.1 | (obtain ⟨_, q⟩ := q; exact Exists.intro _ q.1) | (obtain ⟨_, _, q⟩ := q; exact Exists.intro _ q.1) | (obtain ⟨_, _, _, q⟩ := q; exact Exists.intro _ q.1)) : own_Go p.tables e below P (T.setTop (mkF m pc Ls (v1 :: (.ref a) :: st))) := by
 obtain ⟨⟨w1, ⟨ps, r, hp, hlen⟩, hy⟩, w2, w5, w6, w3, w4⟩ := hK
 obtain ⟨cB, kB, q1, -, q3⟩ := isOf hZ eT E
 have nf : NotFace s y := notFace_of_selects (args := #[]) (mvT hZ w5)
 obtain ⟨v, vm1, ⟨T', L0, k0, n0⟩, -, X', ⟨L, hQ, e1, e2, e3⟩, hst⟩ := X.virtualBack hq.1 (y := y) (z := y) hown (mvT hZ w1) (mvT hZ w2) nf (mvT hZ w5) (mvT hZ w6) hy (backOf (W := W) (Q := Q) hM hZ w4 w3 sd.1 sd.2.1) q1 q3 (g := mkF m pc Ls (v1 :: (.ref a) :: st)) rfl (by rw [hml]; exact hsz) (Steps.refl _) (argsL := [v1]) (rest := st) (lenOf hp hlen) rfl (by show 2 * 0 + _ ≤ _; rw [Nat.mul_zero, Nat.zero_add]; exact Nat.le_of_eq hW) (hb hq.2 hd) (fun _ _ => ⟨rfl, eT, sd.2.2.1, sd.2.2.2⟩)
 dsimp only [Pt.U, Pt.locs, Pt.cells, Pt.slots] at X' e1 e2 e3 hst hQ
 subst e1 e2 e3
 obtain ⟨w, rfl⟩ := hv _ _ _ hQ
 exact own_tr hst (k _ _ _ X' hQ)
end Sm
theorem k1_47U1 {a0 : Array Value} {Z : State} (hw : HW a0 Z) : own_KU a0 Z "com/example/figurant/figurant/VerificationMode" "java/lang/StringBuilder" 47 y28_ y28_ jdk_67_method_15_code 2 (some (.object "java/lang/StringBuilder")) 1 := ⟨⟨(w_ hw 26 rfl), ⟨_, _, pd_23, rfl⟩, by decide⟩, (w_ hw 27 rfl), (w_ hw 29 rfl), (w_ hw 28 rfl), (w_ hw 6 rfl), (w_ hw 30 rfl)⟩
theorem d1_11 : D1 11 = .ok (.iconst 1, 1) := by decide +kernel
theorem d1_12 : D1 12 = .ok (.iload_n 0, 1) := by decide +kernel
theorem d1_13 : D1 13 = .ok (.if_icmp .ne 8, 3) := by decide +kernel
theorem d1_16 : D1 16 = .ok (.ldc 50, 2) := by decide +kernel
theorem d1_18 : D1 18 = .ok (.goto 5, 3) := by decide +kernel
theorem d1_23 : D1 23 = .ok (.invokevirtual 37, 3) := by decide +kernel
theorem pd_24 : parseMethodDescriptor "(Ljava/lang/String;)Ljava/lang/StringBuilder;" = some ⟨[(.object "java/lang/String")], some (.object "java/lang/StringBuilder")⟩ := by decide +kernel
theorem k1_37U1 {a0 : Array Value} {Z : State} (hw : HW a0 Z) : own_KU a0 Z "com/example/figurant/figurant/VerificationMode" "java/lang/StringBuilder" 37 y10_ y10_ jdk_67_method_7_code 2 (some (.object "java/lang/StringBuilder")) 1 := ⟨⟨(w_ hw 62 rfl), ⟨_, _, pd_24, rfl⟩, by decide⟩, (w_ hw 63 rfl), (w_ hw 65 rfl), (w_ hw 64 rfl), (w_ hw 6 rfl), (w_ hw 66 rfl)⟩
theorem d1_26 : D1 26 = .ok (.invokevirtual 41, 3) := by decide +kernel
theorem pd_25 : parseMethodDescriptor "()Ljava/lang/String;" = some ⟨[], some (.object "java/lang/String")⟩ := by decide +kernel
theorem k1_41U1 {a0 : Array Value} {Z : State} (hw : HW a0 Z) : own_KU a0 Z "com/example/figurant/figurant/VerificationMode" "java/lang/StringBuilder" 41 y15_ y15_ jdk_67_method_42_code 1 (some (.object "java/lang/String")) 0 := ⟨⟨(w_ hw 104 rfl), ⟨_, _, pd_25, rfl⟩, by decide⟩, (w_ hw 105 rfl), (w_ hw 107 rfl), (w_ hw 106 rfl), (w_ hw 6 rfl), (w_ hw 108 rfl)⟩
theorem d1_29 : D1 29 = .ok (.areturn, 1) := by decide +kernel
theorem d1_21 : D1 21 = .ok (.ldc 52, 2) := by decide +kernel
theorem ef_rm1 (m : MethodId) (p1 : Int32) : entryFrame m #[(.int p1)] 1 = mkF m 0 #[iv p1] [] := by first | (simp [entryFrame, mkF, argsToLocals, Value.category]; done) | rfl
def Q_rm1 (Z : State) (a0 : Array Value) (p1 : Int32) (aO aT : Addr) (kO kT : ClassId) (vO vT : List Value) (dO dT : Value) (w : Int32) (h0 : Heap) (n0 : Nat) (v : Option Value) (h : Heap) (L : List Loc) : Prop := ∃ r : Addr, ∃ t : Addr, ∃ kt : ClassId, v = some (.ref r) ∧ Fr n0 L ∧ Keep h0 h [] ∧ n0 ≤ r ∧ h0.size ≤ r ∧ n0 ≤ t ∧ h0.size ≤ t ∧ Exa Z h r "java/lang/String" ∧ Fld Z h r "java/lang/String" "value" "[B" (.ref t) ∧ Fld Z h r "java/lang/String" "coder" "B" (.int (0 : Int32)) ∧ Arv Z h t kt .byte (own_len p1) (own_LI (own_ft p1) (own_len p1)) (.int (0 : Int32))
theorem rm1 (l : Launch) (Z : State) (a0 : Array Value) (hw : HW a0 Z) (ws : List Jvm.Cond) (p1 : Int32) (aO aT : Addr) (kO kT : ClassId) (vO vT : List Value) (dO dT : Value) (w : Int32) (h0 : Heap) (n0 : Nat) (Z0 : n0 ≤ h0.size) (SO : Sta Z h0 "java/lang/Integer" "DigitOnes" "[B" (.ref aO)) (ST : Sta Z h0 "java/lang/Integer" "DigitTens" "[B" (.ref aT)) (VO : Arv Z h0 aO kO .byte (100 : Int32) vO dO) (VT : Arv Z h0 aT kT .byte (100 : Int32) vT dT) (hO : ∀ j : Int32, ¬ j < 0 → j < (100 : Int32) → vO.getD j.toNatClampNeg dO = .int (own_one j)) (hT : ∀ j : Int32, ¬ j < 0 → j < (100 : Int32) → vT.getD j.toNatClampNeg dT = .int (own_ten j)) (S1 : Sta Z h0 "java/lang/String" "COMPACT_STRINGS" "Z" (.int w)) (hw0 : ¬ w = (0 : Int32)) :
  MetFree l y35_ (head1 (Jvm.Cond.code y35_ prog_18_method_6_code 1 (some (.object "java/lang/String")) :: ws) (R_ 6 7 103 91)) (fun a U => a = #[(.int p1)] ∧ Z.Warmed39 U.vm ∧ U.heap = h0 ∧ CHv Z consts_1 U.vm h0) (fun _ _ _ _ _ => True) (fun _ U o U' => ∃ v L, o = .returned v ∧ Q_rm1 Z a0 p1 aO aT kO kT vO vT dO dT w h0 n0 v U'.heap L ∧ CHr Z consts_1 U.vm U.heap U'.vm U'.heap ∧ ReturnedEndW U o U' L (R_ 6 7 103 91).cells (R_ 6 7 103 91).slots) := by
 refine MetFree.of_bodySF (plainFor_of_name pn_1) hisR ?_
 intro p e s m args below meth c s₁ Bd hml0 hP hK
 obtain ⟨rfl, hZ, hh, hC0⟩ := hP
 have hx := Bd.exec
 have hby := Bd.bytes
 have hml : c.maxLocals = 1 := hml0
 have hown : s.vm.findClass "com/example/figurant/figurant/VerificationMode" = some m.cls := findClass_of_methodNamed Bd.named
 have hnm := (name_of_methodNamed Bd.named Bd.method).1
 have hlk : meth.locks = false := BodyLoose.notSynchronized (by assumption)
 have X0 : Stand p l e (R_ 6 7 103 91) (s.setVm s.vm) m #[(.int p1)] below meth c s₁ [] 0 0 := Stand.of_body Bd
 have e0 : s₁.heap = h0 := by rw [← hh, Bd.state]; rfl
 have N0 := Fr.nil n0
 have Hq := And.intro hx hby
 have hrt := Bd.returns
 show own_Go p.tables e below (fun o U' => ∃ v L, o = .returned v ∧ Q_rm1 Z a0 p1 aO aT kO kT vO vT dO dT w h0 n0 v U'.heap L ∧ CHr Z consts_1 s.vm s.heap U'.vm U'.heap ∧ ReturnedEndW s o U' L (R_ 6 7 103 91).cells (R_ 6 7 103 91).slots) (s₁.setTop (entryFrame m #[(.int p1)] 1))
 refine own_st (fun t k => castTop (ef_rm1 m p1) k) ?_
 have hEL : EW Z a0 consts_1 := own_EW hw
 have hS0 : s.Since s.vm h0.size := (State.WarmedH.refl s).since _
 have Cr0 : CHr Z consts_1 s.vm s.heap s.vm h0 := by rw [hh]; exact CHr.refl hC0
 show own_Go _ _ _ _ (s₁.setTop (mkF m 0 #[iv p1] []))
 rcases own_ctc p1 with ⟨h1, hL⟩ | ⟨h1, hL⟩ | ⟨h1, hL⟩ | ⟨h1, hL⟩
 ·obtain ⟨T_1, h_1, X_1, e_1, E_1, A_1, D_1, -, st_1⟩ := newO X0 hx hZ hown (w_ hw 4 rfl) (w_ hw 5 rfl) (w_ hw 6 rfl) e0 (g := (mkF m 0 #[iv p1] [])) rfl (hb hby d1_0) (by decide) (by decide)
  obtain ⟨b_1, g_1⟩ : ∃ z, z = h0.size := ⟨_, rfl⟩
  rw [← g_1] at A_1 D_1 st_1
  have gg_1 : n0 ≤ b_1 := Nat.le_trans Z0 (Nat.le_of_eq g_1.symm)
  have sz_1 : h0.size ≤ b_1 := Nat.le_trans (Keep.refl h0 []).1 (Nat.le_of_eq g_1.symm)
  have Fi_1_value : Fld Z h_1 b_1 "java/lang/AbstractStringBuilder" "value" "[B" .null := D_1 (Or.inl (w_ hw 23 rfl)) (ty := (.array .byte)) (by decide)
  have Fi_1_coder : Fld Z h_1 b_1 "java/lang/AbstractStringBuilder" "coder" "B" (.int (0 : Int32)) := D_1 (Or.inl (w_ hw 25 rfl)) (ty := .byte) (by decide)
  have Fi_1_count : Fld Z h_1 b_1 "java/lang/AbstractStringBuilder" "count" "I" (.int (0 : Int32)) := D_1 (Or.inl (w_ hw 37 rfl)) (ty := .int) (by decide)
  refine own_st st_1 ?_
  show own_Go _ _ _ _ (T_1.setTop (mkF m 3 #[iv p1] [(.ref b_1)]))
  refine o_dup X_1 Hq d1_3 rfl ?_
  have Fa_3 := (S1.ext E_1)
  have Zs_4 : n0 ≤ h_1.size := (Nat.le_trans Z0 E_1.1)
  refine c_I0v X_1 Hq e_1 hZ hown hml (k1_34 hw) (rm2 hw b_1 w h_1 n0 Zs_4 A_1 gg_1 Fi_1_value Fi_1_coder Fi_1_count Fa_3 hw0) d1_4 ?_ 1
  rintro T_2 L_2 X_2 ⟨b__2, kb__2, -, Nq_2, K_2, gq_2_b, sq_2_b, Fq_2_0, Fq_2_1, Fq_2_2, Fq_2_3, Fq_2_4⟩
  have N_2 := Fr.app N0 Nq_2
  have Kp_5 : Keep h0 h_1 [] := ((Keep.refl h0 []).ext E_1)
  have szq_2_b : h0.size ≤ b__2 := Nat.le_trans Kp_5.1 sq_2_b
  refine o_iloadN X_2 Hq d1_7 rfl ?_
  have Fa_7 := (A_1.keep K_2)
  have Fa_8 := (own_Sta_keep (SO.ext E_1) K_2 (nsS (A_1.nostat) ns0))
  have Fa_9 := (own_Sta_keep (ST.ext E_1) K_2 (nsS (A_1.nostat) ns0))
  have Fa_10 := ((VO.ext E_1).keep K_2 (ninS (Nat.ne_of_lt (Nat.lt_of_lt_of_le VO.lt (Nat.le_of_eq g_1.symm))) nin0))
  have Fa_11 := ((VT.ext E_1).keep K_2 (ninS (Nat.ne_of_lt (Nat.lt_of_lt_of_le VT.lt (Nat.le_of_eq g_1.symm))) nin0))
  have Fa_12 := (own_Sta_keep Fa_3 K_2 (nsS (A_1.nostat) ns0))
  have Zs_13 : n0 ≤ T_2.heap.size := (Nat.le_trans Zs_4 K_2.1)
  refine c_U1 X_2 Hq rfl hZ hown hml (k1_47U1 hw) (rmba hw b_1 p1 b__2 kb__2 aO aT kO kT vO vT dO dT w T_2.heap n0 Zs_13 Fa_7 gg_1 Fq_2_0 Fq_2_1 gq_2_b (Ne.symm (Nat.ne_of_lt (Nat.lt_of_lt_of_le Fi_1_value.lt sq_2_b))) Fq_2_2 Fq_2_3 Fa_8 Fa_9 Fa_10 Fa_11 hO hT (Nat.ne_of_lt (Nat.lt_of_lt_of_le VO.lt (Nat.le_of_eq g_1.symm))) (Nat.ne_of_lt (Nat.lt_of_lt_of_le (VO.ext E_1).lt sq_2_b)) (Nat.ne_of_lt (Nat.lt_of_lt_of_le VT.lt (Nat.le_of_eq g_1.symm))) (Nat.ne_of_lt (Nat.lt_of_lt_of_le (VT.ext E_1).lt sq_2_b)) Fa_12 hw0) Fa_7 d1_8 ?_ 0
  rintro T_6 L_6 _ X_6 ⟨⟨⟩, Nq_6, K_6, Fq_6_0, Fq_6_1, Fq_6_2, Fq_6_3⟩
  have N_6 := Fr.app N_2 Nq_6
  refine o_iconst X_6 Hq 1 d1_11 rfl (o_iloadN X_6 Hq d1_12 rfl (o_icmpNo X_6 Hq d1_13 (teq h1).2 ?_))
  have Cx_15 := CHr.ext E_1 Cr0.1
  have Cr_15 := Cr0.trans Cx_15
  have Cx_16 := CHr.keep K_2 (sfS (Safe.exa hZ.alike A_1 (by decide) (by decide)) sf0) Cr_15.1
  have Sf_16_b_1 := Safe.keep K_2 (sfS (Safe.exa hZ.alike A_1 (by decide) (by decide)) sf0) Cr_15.1 (Safe.exa hZ.alike A_1 (by decide) (by decide))
  have Sf_16_b__2 := Safe.keep K_2 (sfS (Safe.exa hZ.alike A_1 (by decide) (by decide)) sf0) Cr_15.1 (Safe.new sq_2_b)
  have Cr_16 := Cr_15.trans Cx_16
  have Cx_17 := CHr.keep K_6 (sfS Sf_16_b_1 (sfS Sf_16_b__2 sf0)) Cr_16.1
  have Sf_17_b_1 := Safe.keep K_6 (sfS Sf_16_b_1 (sfS Sf_16_b__2 sf0)) Cr_16.1 Sf_16_b_1
  have Sf_17_b__2 := Safe.keep K_6 (sfS Sf_16_b_1 (sfS Sf_16_b__2 sf0)) Cr_16.1 Sf_16_b__2
  have Cr_17 := Cr_16.trans Cx_17
  have Ks_18 := (Nat.le_trans (Nat.le_trans (Nat.le_trans (Nat.le_refl h0.size) E_1.1) K_2.1) K_6.1)
  obtain ⟨la_14, T_14, h_14, k_14, lb_14, lk_14, X_14, e_14, E_14, hS_14, hk_14, hZ_14, hown_14, LE_14, LC_14, LV_14, LA_14, -, -, Cl_14, -, Sn_14, st_14⟩ := ldcCH X_6 hx hZ hown (w_ hw 204 rfl) (own_atoms hw) rfl hS0 Ks_18 hEL (List.mem_of_getElem? (i := 0) rfl) Cr_17.1 (vs := [(.int (32 : Int32)), (.int (116 : Int32)), (.int (105 : Int32)), (.int (109 : Int32)), (.int (101 : Int32))]) (z := (5 : Int32)) ⟨by decide, rfl⟩ (by decide) rfl (g := (mkF m 16 #[iv p1] [(.ref b_1)])) rfl (hb hby d1_16) (n := 20) (by decide) (by decide) (by decide) (by decide)
  have Fa_19 := (Fa_7.keep K_6)
  have Sl_14_b_1 := Cl_14.safe Fa_19.lt Sf_17_b_1
  have Sl_14_b__2 := Cl_14.safe Fq_6_3.lt Sf_17_b__2
  have Cr_14 := Cr_17.trans Cl_14
  refine own_st st_14 ?_
  show own_Go _ _ _ _ (T_14.setTop (mkF m 18 #[iv p1] [(.ref la_14), (.ref b_1)]))
  have Lx_20 : Arv Z h_14 lb_14 lk_14 .byte (5 : Int32) (own_LI own_txf (5 : Int32)) (.int (0 : Int32)) := own_Arv_cg rfl LA_14
  refine o_goto X_14 Hq (pc' := 23) d1_18 ?_
  have Fa_22 := (Fa_19.ext E_14)
  have Fa_23 := (Fq_6_0.ext E_14)
  have Fa_24 := (Fq_6_1.ext E_14)
  have Fa_25 := (Fq_6_2.ext E_14)
  have Fa_26 := (Fq_6_3.ext E_14)
  have Fa_27 := ((own_Sta_keep Fa_12 K_6 (nsS (Fa_7.nostat) (nsS (Fq_2_4.nostat) ns0))).ext E_14)
  have Zs_28 : n0 ≤ h_14.size := (Nat.le_trans (Nat.le_trans Zs_13 K_6.1) E_14.1)
  refine c_U1 X_14 Hq e_14 hZ_14 hown_14 hml (k1_37U1 hw) (rmbs0 hw b_1 la_14 b__2 kb__2 lb_14 lk_14 (5 : Int32) own_txf (own_pt p1 0) (own_size p1) (own_len p1) w h_14 n0 Zs_28 Fa_22 gg_1 Fa_23 Fa_24 gq_2_b (Ne.symm (Nat.ne_of_lt (Nat.lt_of_lt_of_le Fi_1_value.lt sq_2_b))) Fa_25 Fa_26 LE_14 LV_14 LC_14 Lx_20 (Ne.symm (Sn_14 _ Sl_14_b_1).1) (Ne.symm (Sn_14 _ Sl_14_b__2).1) (Ne.symm (Sn_14 _ Sl_14_b_1).2) (Ne.symm (Sn_14 _ Sl_14_b__2).2) (own_ge0 (by have := own_sizeb p1; omega)) (by decide) (own_nt (own_lenT h1) (by decide) (Int.le_trans hL (by decide))) (own_lenT h1) (own_ec (by have := own_lenb p1; omega)) Fa_27 hw0) Fa_22 d1_23 ?_ 0
  rintro T_21 L_21 _ X_21 ⟨⟨⟩, Nq_21, K_21, Fq_21_0, Fq_21_1, Fq_21_2, Fq_21_3⟩
  have N_21 := Fr.app N_6 Nq_21
  have Fa_30 := (Fa_22.keep K_21)
  have Fa_31 := (((Fq_2_4.keep K_6).ext E_14).keep K_21)
  have Fa_32 := (own_Sta_keep Fa_27 K_21 (nsS (Fa_22.nostat) (nsS (Fa_26.nostat) ns0)))
  have Zs_33 : n0 ≤ T_21.heap.size := (Nat.le_trans Zs_28 K_21.1)
  refine c_U0 X_21 Hq rfl hZ_14 hown_14 hml (k1_41U1 hw) (rmtsg hw b_1 b__2 kb__2 (own_cp (own_pt p1 0) own_txf (own_size p1).toNatClampNeg (5 : Int32).toNatClampNeg) (16 : Int32) (own_len p1) w T_21.heap n0 Zs_33 Fa_30 Fq_21_0 Fq_21_1 Fq_21_2 Fq_21_3 Fa_31 (own_ge0 (by have := own_lenb p1; omega)) (own_len17 p1) (own_lt16 hL) Fa_32 hw0) Fa_30 d1_26 ?_ 0
  rintro T_29 L_29 _ X_29 ⟨r__29, t__29, kt__29, ⟨⟩, Nq_29, K_29, gq_29_r, sq_29_r, gq_29_t, sq_29_t, Fq_29_0, Fq_29_1, Fq_29_2, Fq_29_3⟩
  have N_29 := Fr.app N_21 Nq_29
  have Kp_34 : Keep h0 T_21.heap [] := ((((Kp_5.trans K_2 (allS (Or.inr sz_1) all0)).trans K_6 (allS (Or.inr sz_1) (allS (Or.inr szq_2_b) all0))).ext E_14).trans K_21 (allS (Or.inr sz_1) (allS (Or.inr szq_2_b) all0)))
  have szq_29_r : h0.size ≤ r__29 := Nat.le_trans Kp_34.1 sq_29_r
  have szq_29_t : h0.size ≤ t__29 := Nat.le_trans Kp_34.1 sq_29_t
  have Vz_35 : Arv Z T_29.heap t__29 kt__29 .byte (own_len p1) (own_LI (own_ft p1) (own_len p1)) (.int (0 : Int32)) := own_Arv_cg (own_ftA (t := (5 : Int32)) (by decide) (own_hl (own_lenT h1) (by decide))) Fq_29_3
  have Kp_36 : Keep h0 T_29.heap [] := (Kp_34.trans K_29 all0)
  have Cx_37 := CHr.keep K_21 (sfS Sl_14_b_1 (sfS Sl_14_b__2 sf0)) Cr_14.1
  have Sf_37_b_1 := Safe.keep K_21 (sfS Sl_14_b_1 (sfS Sl_14_b__2 sf0)) Cr_14.1 Sl_14_b_1
  have Sf_37_b__2 := Safe.keep K_21 (sfS Sl_14_b_1 (sfS Sl_14_b__2 sf0)) Cr_14.1 Sl_14_b__2
  have Cr_37 := Cr_14.trans Cx_37
  have Cx_38 := CHr.keep K_29 sf0 Cr_37.1
  have Sf_38_b_1 := Safe.keep K_29 sf0 Cr_37.1 Sf_37_b_1
  have Sf_38_b__2 := Safe.keep K_29 sf0 Cr_37.1 Sf_37_b__2
  have Cr_38 := Cr_37.trans Cx_38
  have Ks_39 := (Nat.le_trans (Nat.le_trans hk_14 K_21.1) K_29.1)
  exact own_endC X_29 hS_14 rfl Ks_39 (v := some (.ref r__29)) (fun h => by rw [hrt] at h; cases h) hlk (fun fs hr => own_retA X_29 hx hrt rfl rfl (hb hby d1_29) hr) hZ_14 hEL Cr_38 (Q := Q_rm1 Z a0 p1 aO aT kO kT vO vT dO dT w h0 n0) ⟨r__29, t__29, kt__29, rfl, N_29, Kp_36, gq_29_r, szq_29_r, gq_29_t, szq_29_t, Fq_29_0, Fq_29_1, Fq_29_2, Vz_35⟩ (by decide) (by decide)
 ·obtain ⟨T_40, h_40, X_40, e_40, E_40, A_40, D_40, -, st_40⟩ := newO X0 hx hZ hown (w_ hw 4 rfl) (w_ hw 5 rfl) (w_ hw 6 rfl) e0 (g := (mkF m 0 #[iv p1] [])) rfl (hb hby d1_0) (by decide) (by decide)
  obtain ⟨b_40, g_40⟩ : ∃ z, z = h0.size := ⟨_, rfl⟩
  rw [← g_40] at A_40 D_40 st_40
  have gg_40 : n0 ≤ b_40 := Nat.le_trans Z0 (Nat.le_of_eq g_40.symm)
  have sz_40 : h0.size ≤ b_40 := Nat.le_trans (Keep.refl h0 []).1 (Nat.le_of_eq g_40.symm)
  have Fi_40_value : Fld Z h_40 b_40 "java/lang/AbstractStringBuilder" "value" "[B" .null := D_40 (Or.inl (w_ hw 23 rfl)) (ty := (.array .byte)) (by decide)
  have Fi_40_coder : Fld Z h_40 b_40 "java/lang/AbstractStringBuilder" "coder" "B" (.int (0 : Int32)) := D_40 (Or.inl (w_ hw 25 rfl)) (ty := .byte) (by decide)
  have Fi_40_count : Fld Z h_40 b_40 "java/lang/AbstractStringBuilder" "count" "I" (.int (0 : Int32)) := D_40 (Or.inl (w_ hw 37 rfl)) (ty := .int) (by decide)
  refine own_st st_40 ?_
  show own_Go _ _ _ _ (T_40.setTop (mkF m 3 #[iv p1] [(.ref b_40)]))
  refine o_dup X_40 Hq d1_3 rfl ?_
  have Fa_42 := (S1.ext E_40)
  have Zs_43 : n0 ≤ h_40.size := (Nat.le_trans Z0 E_40.1)
  refine c_I0v X_40 Hq e_40 hZ hown hml (k1_34 hw) (rm2 hw b_40 w h_40 n0 Zs_43 A_40 gg_40 Fi_40_value Fi_40_coder Fi_40_count Fa_42 hw0) d1_4 ?_ 1
  rintro T_41 L_41 X_41 ⟨b__41, kb__41, -, Nq_41, K_41, gq_41_b, sq_41_b, Fq_41_0, Fq_41_1, Fq_41_2, Fq_41_3, Fq_41_4⟩
  have N_41 := Fr.app N0 Nq_41
  have Kp_44 : Keep h0 h_40 [] := ((Keep.refl h0 []).ext E_40)
  have szq_41_b : h0.size ≤ b__41 := Nat.le_trans Kp_44.1 sq_41_b
  refine o_iloadN X_41 Hq d1_7 rfl ?_
  have Fa_46 := (A_40.keep K_41)
  have Fa_47 := (own_Sta_keep (SO.ext E_40) K_41 (nsS (A_40.nostat) ns0))
  have Fa_48 := (own_Sta_keep (ST.ext E_40) K_41 (nsS (A_40.nostat) ns0))
  have Fa_49 := ((VO.ext E_40).keep K_41 (ninS (Nat.ne_of_lt (Nat.lt_of_lt_of_le VO.lt (Nat.le_of_eq g_40.symm))) nin0))
  have Fa_50 := ((VT.ext E_40).keep K_41 (ninS (Nat.ne_of_lt (Nat.lt_of_lt_of_le VT.lt (Nat.le_of_eq g_40.symm))) nin0))
  have Fa_51 := (own_Sta_keep Fa_42 K_41 (nsS (A_40.nostat) ns0))
  have Zs_52 : n0 ≤ T_41.heap.size := (Nat.le_trans Zs_43 K_41.1)
  refine c_U1 X_41 Hq rfl hZ hown hml (k1_47U1 hw) (rmba hw b_40 p1 b__41 kb__41 aO aT kO kT vO vT dO dT w T_41.heap n0 Zs_52 Fa_46 gg_40 Fq_41_0 Fq_41_1 gq_41_b (Ne.symm (Nat.ne_of_lt (Nat.lt_of_lt_of_le Fi_40_value.lt sq_41_b))) Fq_41_2 Fq_41_3 Fa_47 Fa_48 Fa_49 Fa_50 hO hT (Nat.ne_of_lt (Nat.lt_of_lt_of_le VO.lt (Nat.le_of_eq g_40.symm))) (Nat.ne_of_lt (Nat.lt_of_lt_of_le (VO.ext E_40).lt sq_41_b)) (Nat.ne_of_lt (Nat.lt_of_lt_of_le VT.lt (Nat.le_of_eq g_40.symm))) (Nat.ne_of_lt (Nat.lt_of_lt_of_le (VT.ext E_40).lt sq_41_b)) Fa_51 hw0) Fa_46 d1_8 ?_ 0
  rintro T_45 L_45 _ X_45 ⟨⟨⟩, Nq_45, K_45, Fq_45_0, Fq_45_1, Fq_45_2, Fq_45_3⟩
  have N_45 := Fr.app N_41 Nq_45
  refine o_iconst X_45 Hq 1 d1_11 rfl (o_iloadN X_45 Hq d1_12 rfl (o_icmpYes X_45 Hq (pc' := 21) d1_13 (feq h1).2 ?_))
  have Cx_54 := CHr.ext E_40 Cr0.1
  have Cr_54 := Cr0.trans Cx_54
  have Cx_55 := CHr.keep K_41 (sfS (Safe.exa hZ.alike A_40 (by decide) (by decide)) sf0) Cr_54.1
  have Sf_55_b_40 := Safe.keep K_41 (sfS (Safe.exa hZ.alike A_40 (by decide) (by decide)) sf0) Cr_54.1 (Safe.exa hZ.alike A_40 (by decide) (by decide))
  have Sf_55_b__41 := Safe.keep K_41 (sfS (Safe.exa hZ.alike A_40 (by decide) (by decide)) sf0) Cr_54.1 (Safe.new sq_41_b)
  have Cr_55 := Cr_54.trans Cx_55
  have Cx_56 := CHr.keep K_45 (sfS Sf_55_b_40 (sfS Sf_55_b__41 sf0)) Cr_55.1
  have Sf_56_b_40 := Safe.keep K_45 (sfS Sf_55_b_40 (sfS Sf_55_b__41 sf0)) Cr_55.1 Sf_55_b_40
  have Sf_56_b__41 := Safe.keep K_45 (sfS Sf_55_b_40 (sfS Sf_55_b__41 sf0)) Cr_55.1 Sf_55_b__41
  have Cr_56 := Cr_55.trans Cx_56
  have Ks_57 := (Nat.le_trans (Nat.le_trans (Nat.le_trans (Nat.le_refl h0.size) E_40.1) K_41.1) K_45.1)
  obtain ⟨la_53, T_53, h_53, k_53, lb_53, lk_53, X_53, e_53, E_53, hS_53, hk_53, hZ_53, hown_53, LE_53, LC_53, LV_53, LA_53, -, -, Cl_53, -, Sn_53, st_53⟩ := ldcCH X_45 hx hZ hown (w_ hw 56 rfl) (own_atoms hw) rfl hS0 Ks_57 hEL (List.mem_of_getElem? (i := 1) rfl) Cr_56.1 (vs := [(.int (32 : Int32)), (.int (116 : Int32)), (.int (105 : Int32)), (.int (109 : Int32)), (.int (101 : Int32)), (.int (115 : Int32))]) (z := (6 : Int32)) ⟨by decide, rfl⟩ (by decide) rfl (g := (mkF m 21 #[iv p1] [(.ref b_40)])) rfl (hb hby d1_21) (n := 24) (by decide) (by decide) (by decide) (by decide)
  have Fa_58 := (Fa_46.keep K_45)
  have Sl_53_b_40 := Cl_53.safe Fa_58.lt Sf_56_b_40
  have Sl_53_b__41 := Cl_53.safe Fq_45_3.lt Sf_56_b__41
  have Cr_53 := Cr_56.trans Cl_53
  refine own_st st_53 ?_
  show own_Go _ _ _ _ (T_53.setTop (mkF m 23 #[iv p1] [(.ref la_53), (.ref b_40)]))
  have Lx_59 : Arv Z h_53 lb_53 lk_53 .byte (6 : Int32) (own_LI own_txf (6 : Int32)) (.int (0 : Int32)) := own_Arv_cg rfl LA_53
  have Fa_61 := (Fa_58.ext E_53)
  have Fa_62 := (Fq_45_0.ext E_53)
  have Fa_63 := (Fq_45_1.ext E_53)
  have Fa_64 := (Fq_45_2.ext E_53)
  have Fa_65 := (Fq_45_3.ext E_53)
  have Fa_66 := ((own_Sta_keep Fa_51 K_45 (nsS (Fa_46.nostat) (nsS (Fq_41_4.nostat) ns0))).ext E_53)
  have Zs_67 : n0 ≤ h_53.size := (Nat.le_trans (Nat.le_trans Zs_52 K_45.1) E_53.1)
  refine c_U1 X_53 Hq e_53 hZ_53 hown_53 hml (k1_37U1 hw) (rmbs0 hw b_40 la_53 b__41 kb__41 lb_53 lk_53 (6 : Int32) own_txf (own_pt p1 0) (own_size p1) (16 : Int32) w h_53 n0 Zs_67 Fa_61 gg_40 Fa_62 Fa_63 gq_41_b (Ne.symm (Nat.ne_of_lt (Nat.lt_of_lt_of_le Fi_40_value.lt sq_41_b))) Fa_64 Fa_65 LE_53 LV_53 LC_53 Lx_59 (Ne.symm (Sn_53 _ Sl_53_b_40).1) (Ne.symm (Sn_53 _ Sl_53_b__41).1) (Ne.symm (Sn_53 _ Sl_53_b_40).2) (Ne.symm (Sn_53 _ Sl_53_b__41).2) (own_ge0 (by have := own_sizeb p1; omega)) (by decide) (own_nt (own_lenF h1) (by decide) (by rw [hL]; decide)) ((own_lenF h1).trans hL) (by decide) Fa_66 hw0) Fa_61 d1_23 ?_ 0
  rintro T_60 L_60 _ X_60 ⟨⟨⟩, Nq_60, K_60, Fq_60_0, Fq_60_1, Fq_60_2, Fq_60_3⟩
  have N_60 := Fr.app N_45 Nq_60
  have Fa_69 := (Fa_61.keep K_60)
  have Fa_70 := (((Fq_41_4.keep K_45).ext E_53).keep K_60)
  have Fa_71 := (own_Sta_keep Fa_66 K_60 (nsS (Fa_61.nostat) (nsS (Fa_65.nostat) ns0)))
  have Zs_72 : n0 ≤ T_60.heap.size := (Nat.le_trans Zs_67 K_60.1)
  refine c_U0 X_60 Hq rfl hZ_53 hown_53 hml (k1_41U1 hw) (rmtsc hw b_40 b__41 kb__41 (own_cp (own_pt p1 0) own_txf (own_size p1).toNatClampNeg (6 : Int32).toNatClampNeg) w T_60.heap n0 Zs_72 Fa_69 Fq_60_0 Fq_60_1 Fq_60_2 Fq_60_3 Fa_70 Fa_71 hw0) Fa_69 d1_26 ?_ 0
  rintro T_68 L_68 _ X_68 ⟨r__68, t__68, kt__68, ⟨⟩, Nq_68, K_68, gq_68_r, sq_68_r, gq_68_t, sq_68_t, Fq_68_0, Fq_68_1, Fq_68_2, Fq_68_3⟩
  have N_68 := Fr.app N_60 Nq_68
  have Kp_73 : Keep h0 T_60.heap [] := ((((Kp_44.trans K_41 (allS (Or.inr sz_40) all0)).trans K_45 (allS (Or.inr sz_40) (allS (Or.inr szq_41_b) all0))).ext E_53).trans K_60 (allS (Or.inr sz_40) (allS (Or.inr szq_41_b) all0)))
  have szq_68_r : h0.size ≤ r__68 := Nat.le_trans Kp_73.1 sq_68_r
  have szq_68_t : h0.size ≤ t__68 := Nat.le_trans Kp_73.1 sq_68_t
  have q_74 := Fq_68_3
  rw [← hL] at q_74
  have Vz_74 : Arv Z T_68.heap t__68 kt__68 .byte (own_len p1) (own_LI (own_ft p1) (own_len p1)) (.int (0 : Int32)) := own_Arv_cg (own_ftA (t := (6 : Int32)) (by decide) (own_hl (own_lenF h1) (by decide))) q_74
  have Kp_75 : Keep h0 T_68.heap [] := (Kp_73.trans K_68 all0)
  have Cx_76 := CHr.keep K_60 (sfS Sl_53_b_40 (sfS Sl_53_b__41 sf0)) Cr_53.1
  have Sf_76_b_40 := Safe.keep K_60 (sfS Sl_53_b_40 (sfS Sl_53_b__41 sf0)) Cr_53.1 Sl_53_b_40
  have Sf_76_b__41 := Safe.keep K_60 (sfS Sl_53_b_40 (sfS Sl_53_b__41 sf0)) Cr_53.1 Sl_53_b__41
  have Cr_76 := Cr_53.trans Cx_76
  have Cx_77 := CHr.keep K_68 sf0 Cr_76.1
  have Sf_77_b_40 := Safe.keep K_68 sf0 Cr_76.1 Sf_76_b_40
  have Sf_77_b__41 := Safe.keep K_68 sf0 Cr_76.1 Sf_76_b__41
  have Cr_77 := Cr_76.trans Cx_77
  have Ks_78 := (Nat.le_trans (Nat.le_trans hk_53 K_60.1) K_68.1)
  exact own_endC X_68 hS_53 rfl Ks_78 (v := some (.ref r__68)) (fun h => by rw [hrt] at h; cases h) hlk (fun fs hr => own_retA X_68 hx hrt rfl rfl (hb hby d1_29) hr) hZ_53 hEL Cr_77 (Q := Q_rm1 Z a0 p1 aO aT kO kT vO vT dO dT w h0 n0) ⟨r__68, t__68, kt__68, rfl, N_68, Kp_75, gq_68_r, szq_68_r, gq_68_t, szq_68_t, Fq_68_0, Fq_68_1, Fq_68_2, Vz_74⟩ (by decide) (by decide)
 ·obtain ⟨T_79, h_79, X_79, e_79, E_79, A_79, D_79, -, st_79⟩ := newO X0 hx hZ hown (w_ hw 4 rfl) (w_ hw 5 rfl) (w_ hw 6 rfl) e0 (g := (mkF m 0 #[iv p1] [])) rfl (hb hby d1_0) (by decide) (by decide)
  obtain ⟨b_79, g_79⟩ : ∃ z, z = h0.size := ⟨_, rfl⟩
  rw [← g_79] at A_79 D_79 st_79
  have gg_79 : n0 ≤ b_79 := Nat.le_trans Z0 (Nat.le_of_eq g_79.symm)
  have sz_79 : h0.size ≤ b_79 := Nat.le_trans (Keep.refl h0 []).1 (Nat.le_of_eq g_79.symm)
  have Fi_79_value : Fld Z h_79 b_79 "java/lang/AbstractStringBuilder" "value" "[B" .null := D_79 (Or.inl (w_ hw 23 rfl)) (ty := (.array .byte)) (by decide)
  have Fi_79_coder : Fld Z h_79 b_79 "java/lang/AbstractStringBuilder" "coder" "B" (.int (0 : Int32)) := D_79 (Or.inl (w_ hw 25 rfl)) (ty := .byte) (by decide)
  have Fi_79_count : Fld Z h_79 b_79 "java/lang/AbstractStringBuilder" "count" "I" (.int (0 : Int32)) := D_79 (Or.inl (w_ hw 37 rfl)) (ty := .int) (by decide)
  refine own_st st_79 ?_
  show own_Go _ _ _ _ (T_79.setTop (mkF m 3 #[iv p1] [(.ref b_79)]))
  refine o_dup X_79 Hq d1_3 rfl ?_
  have Fa_81 := (S1.ext E_79)
  have Zs_82 : n0 ≤ h_79.size := (Nat.le_trans Z0 E_79.1)
  refine c_I0v X_79 Hq e_79 hZ hown hml (k1_34 hw) (rm2 hw b_79 w h_79 n0 Zs_82 A_79 gg_79 Fi_79_value Fi_79_coder Fi_79_count Fa_81 hw0) d1_4 ?_ 1
  rintro T_80 L_80 X_80 ⟨b__80, kb__80, -, Nq_80, K_80, gq_80_b, sq_80_b, Fq_80_0, Fq_80_1, Fq_80_2, Fq_80_3, Fq_80_4⟩
  have N_80 := Fr.app N0 Nq_80
  have Kp_83 : Keep h0 h_79 [] := ((Keep.refl h0 []).ext E_79)
  have szq_80_b : h0.size ≤ b__80 := Nat.le_trans Kp_83.1 sq_80_b
  refine o_iloadN X_80 Hq d1_7 rfl ?_
  have Fa_85 := (A_79.keep K_80)
  have Fa_86 := (own_Sta_keep (SO.ext E_79) K_80 (nsS (A_79.nostat) ns0))
  have Fa_87 := (own_Sta_keep (ST.ext E_79) K_80 (nsS (A_79.nostat) ns0))
  have Fa_88 := ((VO.ext E_79).keep K_80 (ninS (Nat.ne_of_lt (Nat.lt_of_lt_of_le VO.lt (Nat.le_of_eq g_79.symm))) nin0))
  have Fa_89 := ((VT.ext E_79).keep K_80 (ninS (Nat.ne_of_lt (Nat.lt_of_lt_of_le VT.lt (Nat.le_of_eq g_79.symm))) nin0))
  have Fa_90 := (own_Sta_keep Fa_81 K_80 (nsS (A_79.nostat) ns0))
  have Zs_91 : n0 ≤ T_80.heap.size := (Nat.le_trans Zs_82 K_80.1)
  refine c_U1 X_80 Hq rfl hZ hown hml (k1_47U1 hw) (rmba hw b_79 p1 b__80 kb__80 aO aT kO kT vO vT dO dT w T_80.heap n0 Zs_91 Fa_85 gg_79 Fq_80_0 Fq_80_1 gq_80_b (Ne.symm (Nat.ne_of_lt (Nat.lt_of_lt_of_le Fi_79_value.lt sq_80_b))) Fq_80_2 Fq_80_3 Fa_86 Fa_87 Fa_88 Fa_89 hO hT (Nat.ne_of_lt (Nat.lt_of_lt_of_le VO.lt (Nat.le_of_eq g_79.symm))) (Nat.ne_of_lt (Nat.lt_of_lt_of_le (VO.ext E_79).lt sq_80_b)) (Nat.ne_of_lt (Nat.lt_of_lt_of_le VT.lt (Nat.le_of_eq g_79.symm))) (Nat.ne_of_lt (Nat.lt_of_lt_of_le (VT.ext E_79).lt sq_80_b)) Fa_90 hw0) Fa_85 d1_8 ?_ 0
  rintro T_84 L_84 _ X_84 ⟨⟨⟩, Nq_84, K_84, Fq_84_0, Fq_84_1, Fq_84_2, Fq_84_3⟩
  have N_84 := Fr.app N_80 Nq_84
  refine o_iconst X_84 Hq 1 d1_11 rfl (o_iloadN X_84 Hq d1_12 rfl (o_icmpYes X_84 Hq (pc' := 21) d1_13 (feq h1).2 ?_))
  have Cx_93 := CHr.ext E_79 Cr0.1
  have Cr_93 := Cr0.trans Cx_93
  have Cx_94 := CHr.keep K_80 (sfS (Safe.exa hZ.alike A_79 (by decide) (by decide)) sf0) Cr_93.1
  have Sf_94_b_79 := Safe.keep K_80 (sfS (Safe.exa hZ.alike A_79 (by decide) (by decide)) sf0) Cr_93.1 (Safe.exa hZ.alike A_79 (by decide) (by decide))
  have Sf_94_b__80 := Safe.keep K_80 (sfS (Safe.exa hZ.alike A_79 (by decide) (by decide)) sf0) Cr_93.1 (Safe.new sq_80_b)
  have Cr_94 := Cr_93.trans Cx_94
  have Cx_95 := CHr.keep K_84 (sfS Sf_94_b_79 (sfS Sf_94_b__80 sf0)) Cr_94.1
  have Sf_95_b_79 := Safe.keep K_84 (sfS Sf_94_b_79 (sfS Sf_94_b__80 sf0)) Cr_94.1 Sf_94_b_79
  have Sf_95_b__80 := Safe.keep K_84 (sfS Sf_94_b_79 (sfS Sf_94_b__80 sf0)) Cr_94.1 Sf_94_b__80
  have Cr_95 := Cr_94.trans Cx_95
  have Ks_96 := (Nat.le_trans (Nat.le_trans (Nat.le_trans (Nat.le_refl h0.size) E_79.1) K_80.1) K_84.1)
  obtain ⟨la_92, T_92, h_92, k_92, lb_92, lk_92, X_92, e_92, E_92, hS_92, hk_92, hZ_92, hown_92, LE_92, LC_92, LV_92, LA_92, -, -, Cl_92, -, Sn_92, st_92⟩ := ldcCH X_84 hx hZ hown (w_ hw 56 rfl) (own_atoms hw) rfl hS0 Ks_96 hEL (List.mem_of_getElem? (i := 1) rfl) Cr_95.1 (vs := [(.int (32 : Int32)), (.int (116 : Int32)), (.int (105 : Int32)), (.int (109 : Int32)), (.int (101 : Int32)), (.int (115 : Int32))]) (z := (6 : Int32)) ⟨by decide, rfl⟩ (by decide) rfl (g := (mkF m 21 #[iv p1] [(.ref b_79)])) rfl (hb hby d1_21) (n := 24) (by decide) (by decide) (by decide) (by decide)
  have Fa_97 := (Fa_85.keep K_84)
  have Sl_92_b_79 := Cl_92.safe Fa_97.lt Sf_95_b_79
  have Sl_92_b__80 := Cl_92.safe Fq_84_3.lt Sf_95_b__80
  have Cr_92 := Cr_95.trans Cl_92
  refine own_st st_92 ?_
  show own_Go _ _ _ _ (T_92.setTop (mkF m 23 #[iv p1] [(.ref la_92), (.ref b_79)]))
  have Lx_98 : Arv Z h_92 lb_92 lk_92 .byte (6 : Int32) (own_LI own_txf (6 : Int32)) (.int (0 : Int32)) := own_Arv_cg rfl LA_92
  have Fa_100 := (Fa_97.ext E_92)
  have Fa_101 := (Fq_84_0.ext E_92)
  have Fa_102 := (Fq_84_1.ext E_92)
  have Fa_103 := (Fq_84_2.ext E_92)
  have Fa_104 := (Fq_84_3.ext E_92)
  have Fa_105 := ((own_Sta_keep Fa_90 K_84 (nsS (Fa_85.nostat) (nsS (Fq_80_4.nostat) ns0))).ext E_92)
  have Zs_106 : n0 ≤ h_92.size := (Nat.le_trans (Nat.le_trans Zs_91 K_84.1) E_92.1)
  refine c_U1 X_92 Hq e_92 hZ_92 hown_92 hml (k1_37U1 hw) (rmbs1 hw b_79 la_92 b__80 kb__80 lb_92 lk_92 (6 : Int32) own_txf (own_pt p1 0) (own_size p1) w h_92 n0 Zs_106 Fa_100 gg_79 Fa_101 Fa_102 gq_80_b (Ne.symm (Nat.ne_of_lt (Nat.lt_of_lt_of_le Fi_79_value.lt sq_80_b))) Fa_103 Fa_104 LE_92 LV_92 LC_92 Lx_98 (Ne.symm (Sn_92 _ Sl_92_b_79).1) (Ne.symm (Sn_92 _ Sl_92_b__80).1) (Ne.symm (Sn_92 _ Sl_92_b_79).2) (Ne.symm (Sn_92 _ Sl_92_b__80).2) (own_ge0 (by have := own_sizeb p1; omega)) (by decide) (own_nt (own_lenF h1) (by decide) (by rw [hL]; decide)) ((own_lenF h1).trans hL) Fa_105 hw0) Fa_100 d1_23 ?_ 0
  rintro T_99 L_99 _ X_99 ⟨b2__99, k2__99, ⟨⟩, Nq_99, K_99, gq_99_b2, sq_99_b2, Fq_99_0, Fq_99_1, Fq_99_2, Fq_99_3, Fq_99_4⟩
  have N_99 := Fr.app N_84 Nq_99
  have Kp_107 : Keep h0 h_92 [] := (((Kp_83.trans K_80 (allS (Or.inr sz_79) all0)).trans K_84 (allS (Or.inr sz_79) (allS (Or.inr szq_80_b) all0))).ext E_92)
  have szq_99_b2 : h0.size ≤ b2__99 := Nat.le_trans Kp_107.1 sq_99_b2
  have Fa_109 := (Fa_100.keep K_99)
  have Fa_110 := (own_Sta_keep Fa_105 K_99 (nsS (Fa_100.nostat) ns0))
  have Zs_111 : n0 ≤ T_99.heap.size := (Nat.le_trans Zs_106 K_99.1)
  refine c_U0 X_99 Hq rfl hZ_92 hown_92 hml (k1_41U1 hw) (rmtsg hw b_79 b2__99 k2__99 (own_cp (own_cp own_z (own_pt p1 0) (0 : Int32).toNatClampNeg (16 : Int32).toNatClampNeg) own_txf (own_size p1).toNatClampNeg (6 : Int32).toNatClampNeg) (34 : Int32) (17 : Int32) w T_99.heap n0 Zs_111 Fa_109 Fq_99_0 Fq_99_1 Fq_99_2 Fq_99_3 Fq_99_4 (by decide) (by decide) (by decide) Fa_110 hw0) Fa_109 d1_26 ?_ 0
  rintro T_108 L_108 _ X_108 ⟨r__108, t__108, kt__108, ⟨⟩, Nq_108, K_108, gq_108_r, sq_108_r, gq_108_t, sq_108_t, Fq_108_0, Fq_108_1, Fq_108_2, Fq_108_3⟩
  have N_108 := Fr.app N_99 Nq_108
  have Kp_112 : Keep h0 T_99.heap [] := (Kp_107.trans K_99 (allS (Or.inr sz_79) all0))
  have szq_108_r : h0.size ≤ r__108 := Nat.le_trans Kp_112.1 sq_108_r
  have szq_108_t : h0.size ≤ t__108 := Nat.le_trans Kp_112.1 sq_108_t
  have q_113 := Fq_108_3
  rw [← hL] at q_113
  have Vz_113 : Arv Z T_108.heap t__108 kt__108 .byte (own_len p1) (own_LI (own_ft p1) (own_len p1)) (.int (0 : Int32)) := own_Arv_cg (own_ftC (t := (6 : Int32)) (by decide) (own_hl (own_lenF h1) (by decide))) q_113
  have Kp_114 : Keep h0 T_108.heap [] := (Kp_112.trans K_108 all0)
  have Cx_115 := CHr.keep K_99 (sfS Sl_92_b_79 sf0) Cr_92.1
  have Sf_115_b_79 := Safe.keep K_99 (sfS Sl_92_b_79 sf0) Cr_92.1 Sl_92_b_79
  have Sf_115_b__80 := Safe.keep K_99 (sfS Sl_92_b_79 sf0) Cr_92.1 Sl_92_b__80
  have Cr_115 := Cr_92.trans Cx_115
  have Cx_116 := CHr.keep K_108 sf0 Cr_115.1
  have Sf_116_b_79 := Safe.keep K_108 sf0 Cr_115.1 Sf_115_b_79
  have Sf_116_b__80 := Safe.keep K_108 sf0 Cr_115.1 Sf_115_b__80
  have Cr_116 := Cr_115.trans Cx_116
  have Ks_117 := (Nat.le_trans (Nat.le_trans hk_92 K_99.1) K_108.1)
  exact own_endC X_108 hS_92 rfl Ks_117 (v := some (.ref r__108)) (fun h => by rw [hrt] at h; cases h) hlk (fun fs hr => own_retA X_108 hx hrt rfl rfl (hb hby d1_29) hr) hZ_92 hEL Cr_116 (Q := Q_rm1 Z a0 p1 aO aT kO kT vO vT dO dT w h0 n0) ⟨r__108, t__108, kt__108, rfl, N_108, Kp_114, gq_108_r, szq_108_r, gq_108_t, szq_108_t, Fq_108_0, Fq_108_1, Fq_108_2, Vz_113⟩ (by decide) (by decide)
 ·obtain ⟨T_118, h_118, X_118, e_118, E_118, A_118, D_118, -, st_118⟩ := newO X0 hx hZ hown (w_ hw 4 rfl) (w_ hw 5 rfl) (w_ hw 6 rfl) e0 (g := (mkF m 0 #[iv p1] [])) rfl (hb hby d1_0) (by decide) (by decide)
  obtain ⟨b_118, g_118⟩ : ∃ z, z = h0.size := ⟨_, rfl⟩
  rw [← g_118] at A_118 D_118 st_118
  have gg_118 : n0 ≤ b_118 := Nat.le_trans Z0 (Nat.le_of_eq g_118.symm)
  have sz_118 : h0.size ≤ b_118 := Nat.le_trans (Keep.refl h0 []).1 (Nat.le_of_eq g_118.symm)
  have Fi_118_value : Fld Z h_118 b_118 "java/lang/AbstractStringBuilder" "value" "[B" .null := D_118 (Or.inl (w_ hw 23 rfl)) (ty := (.array .byte)) (by decide)
  have Fi_118_coder : Fld Z h_118 b_118 "java/lang/AbstractStringBuilder" "coder" "B" (.int (0 : Int32)) := D_118 (Or.inl (w_ hw 25 rfl)) (ty := .byte) (by decide)
  have Fi_118_count : Fld Z h_118 b_118 "java/lang/AbstractStringBuilder" "count" "I" (.int (0 : Int32)) := D_118 (Or.inl (w_ hw 37 rfl)) (ty := .int) (by decide)
  refine own_st st_118 ?_
  show own_Go _ _ _ _ (T_118.setTop (mkF m 3 #[iv p1] [(.ref b_118)]))
  refine o_dup X_118 Hq d1_3 rfl ?_
  have Fa_120 := (S1.ext E_118)
  have Zs_121 : n0 ≤ h_118.size := (Nat.le_trans Z0 E_118.1)
  refine c_I0v X_118 Hq e_118 hZ hown hml (k1_34 hw) (rm2 hw b_118 w h_118 n0 Zs_121 A_118 gg_118 Fi_118_value Fi_118_coder Fi_118_count Fa_120 hw0) d1_4 ?_ 1
  rintro T_119 L_119 X_119 ⟨b__119, kb__119, -, Nq_119, K_119, gq_119_b, sq_119_b, Fq_119_0, Fq_119_1, Fq_119_2, Fq_119_3, Fq_119_4⟩
  have N_119 := Fr.app N0 Nq_119
  have Kp_122 : Keep h0 h_118 [] := ((Keep.refl h0 []).ext E_118)
  have szq_119_b : h0.size ≤ b__119 := Nat.le_trans Kp_122.1 sq_119_b
  refine o_iloadN X_119 Hq d1_7 rfl ?_
  have Fa_124 := (A_118.keep K_119)
  have Fa_125 := (own_Sta_keep (SO.ext E_118) K_119 (nsS (A_118.nostat) ns0))
  have Fa_126 := (own_Sta_keep (ST.ext E_118) K_119 (nsS (A_118.nostat) ns0))
  have Fa_127 := ((VO.ext E_118).keep K_119 (ninS (Nat.ne_of_lt (Nat.lt_of_lt_of_le VO.lt (Nat.le_of_eq g_118.symm))) nin0))
  have Fa_128 := ((VT.ext E_118).keep K_119 (ninS (Nat.ne_of_lt (Nat.lt_of_lt_of_le VT.lt (Nat.le_of_eq g_118.symm))) nin0))
  have Fa_129 := (own_Sta_keep Fa_120 K_119 (nsS (A_118.nostat) ns0))
  have Zs_130 : n0 ≤ T_119.heap.size := (Nat.le_trans Zs_121 K_119.1)
  refine c_U1 X_119 Hq rfl hZ hown hml (k1_47U1 hw) (rmba hw b_118 p1 b__119 kb__119 aO aT kO kT vO vT dO dT w T_119.heap n0 Zs_130 Fa_124 gg_118 Fq_119_0 Fq_119_1 gq_119_b (Ne.symm (Nat.ne_of_lt (Nat.lt_of_lt_of_le Fi_118_value.lt sq_119_b))) Fq_119_2 Fq_119_3 Fa_125 Fa_126 Fa_127 Fa_128 hO hT (Nat.ne_of_lt (Nat.lt_of_lt_of_le VO.lt (Nat.le_of_eq g_118.symm))) (Nat.ne_of_lt (Nat.lt_of_lt_of_le (VO.ext E_118).lt sq_119_b)) (Nat.ne_of_lt (Nat.lt_of_lt_of_le VT.lt (Nat.le_of_eq g_118.symm))) (Nat.ne_of_lt (Nat.lt_of_lt_of_le (VT.ext E_118).lt sq_119_b)) Fa_129 hw0) Fa_124 d1_8 ?_ 0
  rintro T_123 L_123 _ X_123 ⟨⟨⟩, Nq_123, K_123, Fq_123_0, Fq_123_1, Fq_123_2, Fq_123_3⟩
  have N_123 := Fr.app N_119 Nq_123
  refine o_iconst X_123 Hq 1 d1_11 rfl (o_iloadN X_123 Hq d1_12 rfl (o_icmpYes X_123 Hq (pc' := 21) d1_13 (feq h1).2 ?_))
  have Cx_132 := CHr.ext E_118 Cr0.1
  have Cr_132 := Cr0.trans Cx_132
  have Cx_133 := CHr.keep K_119 (sfS (Safe.exa hZ.alike A_118 (by decide) (by decide)) sf0) Cr_132.1
  have Sf_133_b_118 := Safe.keep K_119 (sfS (Safe.exa hZ.alike A_118 (by decide) (by decide)) sf0) Cr_132.1 (Safe.exa hZ.alike A_118 (by decide) (by decide))
  have Sf_133_b__119 := Safe.keep K_119 (sfS (Safe.exa hZ.alike A_118 (by decide) (by decide)) sf0) Cr_132.1 (Safe.new sq_119_b)
  have Cr_133 := Cr_132.trans Cx_133
  have Cx_134 := CHr.keep K_123 (sfS Sf_133_b_118 (sfS Sf_133_b__119 sf0)) Cr_133.1
  have Sf_134_b_118 := Safe.keep K_123 (sfS Sf_133_b_118 (sfS Sf_133_b__119 sf0)) Cr_133.1 Sf_133_b_118
  have Sf_134_b__119 := Safe.keep K_123 (sfS Sf_133_b_118 (sfS Sf_133_b__119 sf0)) Cr_133.1 Sf_133_b__119
  have Cr_134 := Cr_133.trans Cx_134
  have Ks_135 := (Nat.le_trans (Nat.le_trans (Nat.le_trans (Nat.le_refl h0.size) E_118.1) K_119.1) K_123.1)
  obtain ⟨la_131, T_131, h_131, k_131, lb_131, lk_131, X_131, e_131, E_131, hS_131, hk_131, hZ_131, hown_131, LE_131, LC_131, LV_131, LA_131, -, -, Cl_131, -, Sn_131, st_131⟩ := ldcCH X_123 hx hZ hown (w_ hw 56 rfl) (own_atoms hw) rfl hS0 Ks_135 hEL (List.mem_of_getElem? (i := 1) rfl) Cr_134.1 (vs := [(.int (32 : Int32)), (.int (116 : Int32)), (.int (105 : Int32)), (.int (109 : Int32)), (.int (101 : Int32)), (.int (115 : Int32))]) (z := (6 : Int32)) ⟨by decide, rfl⟩ (by decide) rfl (g := (mkF m 21 #[iv p1] [(.ref b_118)])) rfl (hb hby d1_21) (n := 24) (by decide) (by decide) (by decide) (by decide)
  have Fa_136 := (Fa_124.keep K_123)
  have Sl_131_b_118 := Cl_131.safe Fa_136.lt Sf_134_b_118
  have Sl_131_b__119 := Cl_131.safe Fq_123_3.lt Sf_134_b__119
  have Cr_131 := Cr_134.trans Cl_131
  refine own_st st_131 ?_
  show own_Go _ _ _ _ (T_131.setTop (mkF m 23 #[iv p1] [(.ref la_131), (.ref b_118)]))
  have Lx_137 : Arv Z h_131 lb_131 lk_131 .byte (6 : Int32) (own_LI own_txf (6 : Int32)) (.int (0 : Int32)) := own_Arv_cg rfl LA_131
  have Fa_139 := (Fa_136.ext E_131)
  have Fa_140 := (Fq_123_0.ext E_131)
  have Fa_141 := (Fq_123_1.ext E_131)
  have Fa_142 := (Fq_123_2.ext E_131)
  have Fa_143 := (Fq_123_3.ext E_131)
  have Fa_144 := ((own_Sta_keep Fa_129 K_123 (nsS (Fa_124.nostat) (nsS (Fq_119_4.nostat) ns0))).ext E_131)
  have Zs_145 : n0 ≤ h_131.size := (Nat.le_trans (Nat.le_trans Zs_130 K_123.1) E_131.1)
  refine c_U1 X_131 Hq e_131 hZ_131 hown_131 hml (k1_37U1 hw) (rmbs0 hw b_118 la_131 b__119 kb__119 lb_131 lk_131 (6 : Int32) own_txf (own_pt p1 0) (own_size p1) (own_len p1) w h_131 n0 Zs_145 Fa_139 gg_118 Fa_140 Fa_141 gq_119_b (Ne.symm (Nat.ne_of_lt (Nat.lt_of_lt_of_le Fi_118_value.lt sq_119_b))) Fa_142 Fa_143 LE_131 LV_131 LC_131 Lx_137 (Ne.symm (Sn_131 _ Sl_131_b_118).1) (Ne.symm (Sn_131 _ Sl_131_b__119).1) (Ne.symm (Sn_131 _ Sl_131_b_118).2) (Ne.symm (Sn_131 _ Sl_131_b__119).2) (own_ge0 (by have := own_sizeb p1; omega)) (by decide) (own_nt (own_lenF h1) (by decide) (Int.le_trans hL (by decide))) (own_lenF h1) (own_ec (by have := own_lenb p1; omega)) Fa_144 hw0) Fa_139 d1_23 ?_ 0
  rintro T_138 L_138 _ X_138 ⟨⟨⟩, Nq_138, K_138, Fq_138_0, Fq_138_1, Fq_138_2, Fq_138_3⟩
  have N_138 := Fr.app N_123 Nq_138
  have Fa_147 := (Fa_139.keep K_138)
  have Fa_148 := (((Fq_119_4.keep K_123).ext E_131).keep K_138)
  have Fa_149 := (own_Sta_keep Fa_144 K_138 (nsS (Fa_139.nostat) (nsS (Fa_143.nostat) ns0)))
  have Zs_150 : n0 ≤ T_138.heap.size := (Nat.le_trans Zs_145 K_138.1)
  refine c_U0 X_138 Hq rfl hZ_131 hown_131 hml (k1_41U1 hw) (rmtsg hw b_118 b__119 kb__119 (own_cp (own_pt p1 0) own_txf (own_size p1).toNatClampNeg (6 : Int32).toNatClampNeg) (16 : Int32) (own_len p1) w T_138.heap n0 Zs_150 Fa_147 Fq_138_0 Fq_138_1 Fq_138_2 Fq_138_3 Fa_148 (own_ge0 (by have := own_lenb p1; omega)) (own_len17 p1) (own_lt16 hL) Fa_149 hw0) Fa_147 d1_26 ?_ 0
  rintro T_146 L_146 _ X_146 ⟨r__146, t__146, kt__146, ⟨⟩, Nq_146, K_146, gq_146_r, sq_146_r, gq_146_t, sq_146_t, Fq_146_0, Fq_146_1, Fq_146_2, Fq_146_3⟩
  have N_146 := Fr.app N_138 Nq_146
  have Kp_151 : Keep h0 T_138.heap [] := ((((Kp_122.trans K_119 (allS (Or.inr sz_118) all0)).trans K_123 (allS (Or.inr sz_118) (allS (Or.inr szq_119_b) all0))).ext E_131).trans K_138 (allS (Or.inr sz_118) (allS (Or.inr szq_119_b) all0)))
  have szq_146_r : h0.size ≤ r__146 := Nat.le_trans Kp_151.1 sq_146_r
  have szq_146_t : h0.size ≤ t__146 := Nat.le_trans Kp_151.1 sq_146_t
  have Vz_152 : Arv Z T_146.heap t__146 kt__146 .byte (own_len p1) (own_LI (own_ft p1) (own_len p1)) (.int (0 : Int32)) := own_Arv_cg (own_ftA (t := (6 : Int32)) (by decide) (own_hl (own_lenF h1) (by decide))) Fq_146_3
  have Kp_153 : Keep h0 T_146.heap [] := (Kp_151.trans K_146 all0)
  have Cx_154 := CHr.keep K_138 (sfS Sl_131_b_118 (sfS Sl_131_b__119 sf0)) Cr_131.1
  have Sf_154_b_118 := Safe.keep K_138 (sfS Sl_131_b_118 (sfS Sl_131_b__119 sf0)) Cr_131.1 Sl_131_b_118
  have Sf_154_b__119 := Safe.keep K_138 (sfS Sl_131_b_118 (sfS Sl_131_b__119 sf0)) Cr_131.1 Sl_131_b__119
  have Cr_154 := Cr_131.trans Cx_154
  have Cx_155 := CHr.keep K_146 sf0 Cr_154.1
  have Sf_155_b_118 := Safe.keep K_146 sf0 Cr_154.1 Sf_154_b_118
  have Sf_155_b__119 := Safe.keep K_146 sf0 Cr_154.1 Sf_154_b__119
  have Cr_155 := Cr_154.trans Cx_155
  have Ks_156 := (Nat.le_trans (Nat.le_trans hk_131 K_138.1) K_146.1)
  exact own_endC X_146 hS_131 rfl Ks_156 (v := some (.ref r__146)) (fun h => by rw [hrt] at h; cases h) hlk (fun fs hr => own_retA X_146 hx hrt rfl rfl (hb hby d1_29) hr) hZ_131 hEL Cr_155 (Q := Q_rm1 Z a0 p1 aO aT kO kT vO vT dO dT w h0 n0) ⟨r__146, t__146, kt__146, rfl, N_146, Kp_153, gq_146_r, szq_146_r, gq_146_t, szq_146_t, Fq_146_0, Fq_146_1, Fq_146_2, Vz_152⟩ (by decide) (by decide)
abbrev D36 := decode method_4_code
theorem d36_0 : D36 0 = .ok (.bipush 10, 2) := by decide +kernel
theorem d36_2 : D36 2 = .ok (.newarray .long, 2) := by decide +kernel
theorem d36_4 : D36 4 = .ok (.dup, 1) := by decide +kernel
theorem d36_5 : D36 5 = .ok (.iconst 0, 1) := by decide +kernel
theorem d36_6 : D36 6 = .ok (.lconst 1, 1) := by decide +kernel
theorem d36_7 : D36 7 = .ok (.lastore, 1) := by decide +kernel
theorem d36_8 : D36 8 = .ok (.dup, 1) := by decide +kernel
theorem d36_9 : D36 9 = .ok (.iconst 1, 1) := by decide +kernel
theorem d36_10 : D36 10 = .ok (.ldc2_w 29, 3) := by decide +kernel
theorem d36_13 : D36 13 = .ok (.lastore, 1) := by decide +kernel
theorem d36_14 : D36 14 = .ok (.dup, 1) := by decide +kernel
theorem d36_15 : D36 15 = .ok (.iconst 2, 1) := by decide +kernel
theorem d36_16 : D36 16 = .ok (.ldc2_w 31, 3) := by decide +kernel
theorem d36_19 : D36 19 = .ok (.lastore, 1) := by decide +kernel
theorem d36_20 : D36 20 = .ok (.dup, 1) := by decide +kernel
theorem d36_21 : D36 21 = .ok (.iconst 3, 1) := by decide +kernel
theorem d36_22 : D36 22 = .ok (.ldc2_w 33, 3) := by decide +kernel
theorem d36_25 : D36 25 = .ok (.lastore, 1) := by decide +kernel
theorem d36_26 : D36 26 = .ok (.dup, 1) := by decide +kernel
theorem d36_27 : D36 27 = .ok (.iconst 4, 1) := by decide +kernel
theorem d36_28 : D36 28 = .ok (.ldc2_w 35, 3) := by decide +kernel
theorem d36_31 : D36 31 = .ok (.lastore, 1) := by decide +kernel
theorem d36_32 : D36 32 = .ok (.dup, 1) := by decide +kernel
theorem d36_33 : D36 33 = .ok (.iconst 5, 1) := by decide +kernel
theorem d36_34 : D36 34 = .ok (.ldc2_w 37, 3) := by decide +kernel
theorem d36_37 : D36 37 = .ok (.lastore, 1) := by decide +kernel
theorem d36_38 : D36 38 = .ok (.dup, 1) := by decide +kernel
theorem d36_39 : D36 39 = .ok (.bipush 6, 2) := by decide +kernel
theorem d36_41 : D36 41 = .ok (.ldc2_w 39, 3) := by decide +kernel
theorem d36_44 : D36 44 = .ok (.lastore, 1) := by decide +kernel
theorem d36_45 : D36 45 = .ok (.dup, 1) := by decide +kernel
theorem d36_46 : D36 46 = .ok (.bipush 7, 2) := by decide +kernel
theorem d36_48 : D36 48 = .ok (.ldc2_w 41, 3) := by decide +kernel
theorem d36_51 : D36 51 = .ok (.lastore, 1) := by decide +kernel
theorem d36_52 : D36 52 = .ok (.dup, 1) := by decide +kernel
theorem d36_53 : D36 53 = .ok (.bipush 8, 2) := by decide +kernel
theorem d36_55 : D36 55 = .ok (.ldc2_w 43, 3) := by decide +kernel
theorem d36_58 : D36 58 = .ok (.lastore, 1) := by decide +kernel
theorem d36_59 : D36 59 = .ok (.dup, 1) := by decide +kernel
theorem d36_60 : D36 60 = .ok (.bipush 9, 2) := by decide +kernel
theorem d36_62 : D36 62 = .ok (.ldc2_w 45, 3) := by decide +kernel
theorem d36_65 : D36 65 = .ok (.lastore, 1) := by decide +kernel
theorem d36_66 : D36 66 = .ok (.astore_n 1, 1) := by decide +kernel
theorem d36_67 : D36 67 = .ok (.aload_n 1, 1) := by decide +kernel
theorem d36_68 : D36 68 = .ok (.iload_n 0, 1) := by decide +kernel
theorem d36_69 : D36 69 = .ok (.laload, 1) := by decide +kernel
theorem d36_70 : D36 70 = .ok (.lreturn, 1) := by decide +kernel
section Sm
variable {p : Program} {l : Launch} {e : Env} {R : Room} {s : State} {m : MethodId} {args : Array Value} {below : List Frame} {meth : Method} {c : Code} {T : State} {locs : List Loc} {cells slots : Nat} {P : Outcome → State → Prop} {pc : Nat} {Ls : Array Slot} {st : List Value}
theorem e_J (X : Stand p l e R s m args below meth c T locs cells slots) {h : Heap} (eT : T.heap = h) {cb : ByteArray} (hq : p.tables.exec = Jvm.exec ∧ c.code = cb) (hlk : meth.locks = false) {z : Int64} (hrt : meth.sig.returnType = some .long) (hd : decode cb pc = .ok (.lreturn, 1)) {Q : Option Value → Heap → List Loc → Prop} (hQ : Q (some (.long z)) h locs) (hcs : cells ≤ R.cells ∧ slots ≤ R.slots := by decide) :
  own_Go p.tables e below (own_P s Q R) (T.setTop (mkF m pc Ls [.long z])) := own_end X eT (v := (some (.long z))) (fun h => by rw [hrt] at h; cases h) hlk (fun fs hr => X.lreturnOut hq.1 hrt (hb hq.2 hd) hr) (Q := Q) hQ hcs.1 hcs.2
end Sm
def Q_rm36 (Z : State) (a0 : Array Value) (p1 : Int32) (h0 : Heap) (n0 : Nat) (v : Option Value) (h : Heap) (L : List Loc) : Prop := v = some (.long (own_p10 p1)) ∧ Fr n0 L ∧ Keep h0 h []
theorem rm36 (hw : HW a0 Z) (p1 : Int32) (h0 : Heap) (n0 : Nat) (Z0 : n0 ≤ h0.size) (hk0 : ¬ p1 < 0) (hk1 : p1 < (10 : Int32)) :
  own_Met l y36_ method_4_code 2 (some .long) (R_ 0 1 10 0) #[(.int p1)] Z h0 (Q_rm36 Z a0 p1 h0 n0) := by
 refine own_bd (own := "com/example/figurant/figurant/VerificationModeCountOfTimesPinLaw") rfl (plainFor_of_name pn_28) #[iv p1, .unset] ?_
 intro p e s m below meth c s₁ hx hby Hq hml hown hnm hlk hrt hZ X0 e0
 refine o_bipush X0 Hq 10 d36_0 rfl ?_
 obtain ⟨T_1, h_1, k_1, X_1, e_1, E_1, A_1, st_1⟩ := newP X0 hx hZ (w_ hw 184 rfl) e0 (g := (mkF m 2 #[iv p1, .unset] [(.int 10)])) rfl (hb hby d36_2) rfl (by decide) (cap := 10) (by decide) (by decide) (by decide) (by decide)
 obtain ⟨b_1, g_1⟩ : ∃ z, z = h0.size := ⟨_, rfl⟩
 rw [← g_1] at A_1 st_1
 have V_1 : Arv Z h_1 b_1 k_1 .long (10 : Int32) [(.long (0 : Int64)), (.long (0 : Int64)), (.long (0 : Int64)), (.long (0 : Int64)), (.long (0 : Int64)), (.long (0 : Int64)), (.long (0 : Int64)), (.long (0 : Int64)), (.long (0 : Int64)), (.long (0 : Int64))] (.long (0 : Int64)) := (Arv.new A_1 (by decide)).pad (pad_rep [] (.long (0 : Int64)) 10)
 have gg_1 : n0 ≤ b_1 := Nat.le_trans Z0 (Nat.le_of_eq g_1.symm)
 have sz_1 : h0.size ≤ b_1 := Nat.le_trans (Keep.refl h0 []).1 (Nat.le_of_eq g_1.symm)
 refine own_st st_1 ?_
 show own_Go _ _ _ _ (T_1.setTop (mkF m 4 #[iv p1, .unset] [(.ref b_1)]))
 refine o_dup X_1 Hq d36_4 rfl (o_iconst X_1 Hq 0 d36_5 rfl (o_lconst X_1 Hq 1 d36_6 rfl ?_))
 obtain ⟨cl_2, Ar_2, qk_2, Sz_2, Ng_2, Hs_2, Gs_2⟩ := id V_1
 obtain ⟨T_3, h_3, X_3, e_3, W_3, st_3⟩ := stJ X_1 hx hZ e_1 Ar_2 (j := (0 : Int32)) (inb_of Sz_2 ⟨by decide, by decide⟩) (g := (mkF m 7 #[iv p1, .unset] [(.long 1), (.int 0), (.ref b_1), (.ref b_1)])) rfl rfl (hb hby d36_7)
 refine own_st st_3 ?_
 have V_3 : Arv Z h_3 b_1 k_1 .long (10 : Int32) [(.long (1 : Int64)), (.long (0 : Int64)), (.long (0 : Int64)), (.long (0 : Int64)), (.long (0 : Int64)), (.long (0 : Int64)), (.long (0 : Int64)), (.long (0 : Int64)), (.long (0 : Int64)), (.long (0 : Int64))] (.long (0 : Int64)) := Arv.set Ar_2 qk_2 Sz_2 Ng_2 Hs_2 Gs_2 rfl W_3 0 rfl (Nat.le_of_ble_eq_true rfl)
 have N_3 := Fr.snoc X_3 (Fr.nil n0) gg_1
 show own_Go _ _ _ _ (T_3.setTop (mkF m 8 #[iv p1, .unset] [(.ref b_1)]))
 refine o_dup X_3 Hq d36_8 rfl (o_iconst X_3 Hq 1 d36_9 rfl (o_ldc2 X_3 Hq hown d36_10 (v_ hZ hw 151 rfl) ?_))
 obtain ⟨cl_4, Ar_4, qk_4, Sz_4, Ng_4, Hs_4, Gs_4⟩ := id V_3
 obtain ⟨T_5, h_5, X_5, e_5, W_5, st_5⟩ := stJ X_3 hx hZ e_3 Ar_4 (j := (1 : Int32)) (inb_of Sz_4 ⟨by decide, by decide⟩) (g := (mkF m 13 #[iv p1, .unset] [(.long 10), (.int 1), (.ref b_1), (.ref b_1)])) rfl rfl (hb hby d36_13)
 refine own_st st_5 ?_
 have V_5 : Arv Z h_5 b_1 k_1 .long (10 : Int32) [(.long (1 : Int64)), (.long (10 : Int64)), (.long (0 : Int64)), (.long (0 : Int64)), (.long (0 : Int64)), (.long (0 : Int64)), (.long (0 : Int64)), (.long (0 : Int64)), (.long (0 : Int64)), (.long (0 : Int64))] (.long (0 : Int64)) := Arv.set Ar_4 qk_4 Sz_4 Ng_4 Hs_4 Gs_4 rfl W_5 1 rfl (Nat.le_of_ble_eq_true rfl)
 have N_5 := Fr.snoc X_5 N_3 gg_1
 show own_Go _ _ _ _ (T_5.setTop (mkF m 14 #[iv p1, .unset] [(.ref b_1)]))
 refine o_dup X_5 Hq d36_14 rfl (o_iconst X_5 Hq 2 d36_15 rfl (o_ldc2 X_5 Hq hown d36_16 (v_ hZ hw 185 rfl) ?_))
 obtain ⟨cl_6, Ar_6, qk_6, Sz_6, Ng_6, Hs_6, Gs_6⟩ := id V_5
 obtain ⟨T_7, h_7, X_7, e_7, W_7, st_7⟩ := stJ X_5 hx hZ e_5 Ar_6 (j := (2 : Int32)) (inb_of Sz_6 ⟨by decide, by decide⟩) (g := (mkF m 19 #[iv p1, .unset] [(.long 100), (.int 2), (.ref b_1), (.ref b_1)])) rfl rfl (hb hby d36_19)
 refine own_st st_7 ?_
 have V_7 : Arv Z h_7 b_1 k_1 .long (10 : Int32) [(.long (1 : Int64)), (.long (10 : Int64)), (.long (100 : Int64)), (.long (0 : Int64)), (.long (0 : Int64)), (.long (0 : Int64)), (.long (0 : Int64)), (.long (0 : Int64)), (.long (0 : Int64)), (.long (0 : Int64))] (.long (0 : Int64)) := Arv.set Ar_6 qk_6 Sz_6 Ng_6 Hs_6 Gs_6 rfl W_7 2 rfl (Nat.le_of_ble_eq_true rfl)
 have N_7 := Fr.snoc X_7 N_5 gg_1
 show own_Go _ _ _ _ (T_7.setTop (mkF m 20 #[iv p1, .unset] [(.ref b_1)]))
 refine o_dup X_7 Hq d36_20 rfl (o_iconst X_7 Hq 3 d36_21 rfl (o_ldc2 X_7 Hq hown d36_22 (v_ hZ hw 186 rfl) ?_))
 obtain ⟨cl_8, Ar_8, qk_8, Sz_8, Ng_8, Hs_8, Gs_8⟩ := id V_7
 obtain ⟨T_9, h_9, X_9, e_9, W_9, st_9⟩ := stJ X_7 hx hZ e_7 Ar_8 (j := (3 : Int32)) (inb_of Sz_8 ⟨by decide, by decide⟩) (g := (mkF m 25 #[iv p1, .unset] [(.long 1000), (.int 3), (.ref b_1), (.ref b_1)])) rfl rfl (hb hby d36_25)
 refine own_st st_9 ?_
 have V_9 : Arv Z h_9 b_1 k_1 .long (10 : Int32) [(.long (1 : Int64)), (.long (10 : Int64)), (.long (100 : Int64)), (.long (1000 : Int64)), (.long (0 : Int64)), (.long (0 : Int64)), (.long (0 : Int64)), (.long (0 : Int64)), (.long (0 : Int64)), (.long (0 : Int64))] (.long (0 : Int64)) := Arv.set Ar_8 qk_8 Sz_8 Ng_8 Hs_8 Gs_8 rfl W_9 3 rfl (Nat.le_of_ble_eq_true rfl)
 have N_9 := Fr.snoc X_9 N_7 gg_1
 show own_Go _ _ _ _ (T_9.setTop (mkF m 26 #[iv p1, .unset] [(.ref b_1)]))
 refine o_dup X_9 Hq d36_26 rfl (o_iconst X_9 Hq 4 d36_27 rfl (o_ldc2 X_9 Hq hown d36_28 (v_ hZ hw 187 rfl) ?_))
 obtain ⟨cl_10, Ar_10, qk_10, Sz_10, Ng_10, Hs_10, Gs_10⟩ := id V_9
 obtain ⟨T_11, h_11, X_11, e_11, W_11, st_11⟩ := stJ X_9 hx hZ e_9 Ar_10 (j := (4 : Int32)) (inb_of Sz_10 ⟨by decide, by decide⟩) (g := (mkF m 31 #[iv p1, .unset] [(.long 10000), (.int 4), (.ref b_1), (.ref b_1)])) rfl rfl (hb hby d36_31)
 refine own_st st_11 ?_
 have V_11 : Arv Z h_11 b_1 k_1 .long (10 : Int32) [(.long (1 : Int64)), (.long (10 : Int64)), (.long (100 : Int64)), (.long (1000 : Int64)), (.long (10000 : Int64)), (.long (0 : Int64)), (.long (0 : Int64)), (.long (0 : Int64)), (.long (0 : Int64)), (.long (0 : Int64))] (.long (0 : Int64)) := Arv.set Ar_10 qk_10 Sz_10 Ng_10 Hs_10 Gs_10 rfl W_11 4 rfl (Nat.le_of_ble_eq_true rfl)
 have N_11 := Fr.snoc X_11 N_9 gg_1
 show own_Go _ _ _ _ (T_11.setTop (mkF m 32 #[iv p1, .unset] [(.ref b_1)]))
 refine o_dup X_11 Hq d36_32 rfl (o_iconst X_11 Hq 5 d36_33 rfl (o_ldc2 X_11 Hq hown d36_34 (v_ hZ hw 188 rfl) ?_))
 obtain ⟨cl_12, Ar_12, qk_12, Sz_12, Ng_12, Hs_12, Gs_12⟩ := id V_11
 obtain ⟨T_13, h_13, X_13, e_13, W_13, st_13⟩ := stJ X_11 hx hZ e_11 Ar_12 (j := (5 : Int32)) (inb_of Sz_12 ⟨by decide, by decide⟩) (g := (mkF m 37 #[iv p1, .unset] [(.long 100000), (.int 5), (.ref b_1), (.ref b_1)])) rfl rfl (hb hby d36_37)
 refine own_st st_13 ?_
 have V_13 : Arv Z h_13 b_1 k_1 .long (10 : Int32) [(.long (1 : Int64)), (.long (10 : Int64)), (.long (100 : Int64)), (.long (1000 : Int64)), (.long (10000 : Int64)), (.long (100000 : Int64)), (.long (0 : Int64)), (.long (0 : Int64)), (.long (0 : Int64)), (.long (0 : Int64))] (.long (0 : Int64)) := Arv.set Ar_12 qk_12 Sz_12 Ng_12 Hs_12 Gs_12 rfl W_13 5 rfl (Nat.le_of_ble_eq_true rfl)
 have N_13 := Fr.snoc X_13 N_11 gg_1
 show own_Go _ _ _ _ (T_13.setTop (mkF m 38 #[iv p1, .unset] [(.ref b_1)]))
 refine o_dup X_13 Hq d36_38 rfl (o_bipush X_13 Hq 6 d36_39 rfl (o_ldc2 X_13 Hq hown d36_41 (v_ hZ hw 189 rfl) ?_))
 obtain ⟨cl_14, Ar_14, qk_14, Sz_14, Ng_14, Hs_14, Gs_14⟩ := id V_13
 obtain ⟨T_15, h_15, X_15, e_15, W_15, st_15⟩ := stJ X_13 hx hZ e_13 Ar_14 (j := (6 : Int32)) (inb_of Sz_14 ⟨by decide, by decide⟩) (g := (mkF m 44 #[iv p1, .unset] [(.long 1000000), (.int 6), (.ref b_1), (.ref b_1)])) rfl rfl (hb hby d36_44)
 refine own_st st_15 ?_
 have V_15 : Arv Z h_15 b_1 k_1 .long (10 : Int32) [(.long (1 : Int64)), (.long (10 : Int64)), (.long (100 : Int64)), (.long (1000 : Int64)), (.long (10000 : Int64)), (.long (100000 : Int64)), (.long (1000000 : Int64)), (.long (0 : Int64)), (.long (0 : Int64)), (.long (0 : Int64))] (.long (0 : Int64)) := Arv.set Ar_14 qk_14 Sz_14 Ng_14 Hs_14 Gs_14 rfl W_15 6 rfl (Nat.le_of_ble_eq_true rfl)
 have N_15 := Fr.snoc X_15 N_13 gg_1
 show own_Go _ _ _ _ (T_15.setTop (mkF m 45 #[iv p1, .unset] [(.ref b_1)]))
 refine o_dup X_15 Hq d36_45 rfl (o_bipush X_15 Hq 7 d36_46 rfl (o_ldc2 X_15 Hq hown d36_48 (v_ hZ hw 190 rfl) ?_))
 obtain ⟨cl_16, Ar_16, qk_16, Sz_16, Ng_16, Hs_16, Gs_16⟩ := id V_15
 obtain ⟨T_17, h_17, X_17, e_17, W_17, st_17⟩ := stJ X_15 hx hZ e_15 Ar_16 (j := (7 : Int32)) (inb_of Sz_16 ⟨by decide, by decide⟩) (g := (mkF m 51 #[iv p1, .unset] [(.long 10000000), (.int 7), (.ref b_1), (.ref b_1)])) rfl rfl (hb hby d36_51)
 refine own_st st_17 ?_
 have V_17 : Arv Z h_17 b_1 k_1 .long (10 : Int32) [(.long (1 : Int64)), (.long (10 : Int64)), (.long (100 : Int64)), (.long (1000 : Int64)), (.long (10000 : Int64)), (.long (100000 : Int64)), (.long (1000000 : Int64)), (.long (10000000 : Int64)), (.long (0 : Int64)), (.long (0 : Int64))] (.long (0 : Int64)) := Arv.set Ar_16 qk_16 Sz_16 Ng_16 Hs_16 Gs_16 rfl W_17 7 rfl (Nat.le_of_ble_eq_true rfl)
 have N_17 := Fr.snoc X_17 N_15 gg_1
 show own_Go _ _ _ _ (T_17.setTop (mkF m 52 #[iv p1, .unset] [(.ref b_1)]))
 refine o_dup X_17 Hq d36_52 rfl (o_bipush X_17 Hq 8 d36_53 rfl (o_ldc2 X_17 Hq hown d36_55 (v_ hZ hw 191 rfl) ?_))
 obtain ⟨cl_18, Ar_18, qk_18, Sz_18, Ng_18, Hs_18, Gs_18⟩ := id V_17
 obtain ⟨T_19, h_19, X_19, e_19, W_19, st_19⟩ := stJ X_17 hx hZ e_17 Ar_18 (j := (8 : Int32)) (inb_of Sz_18 ⟨by decide, by decide⟩) (g := (mkF m 58 #[iv p1, .unset] [(.long 100000000), (.int 8), (.ref b_1), (.ref b_1)])) rfl rfl (hb hby d36_58)
 refine own_st st_19 ?_
 have V_19 : Arv Z h_19 b_1 k_1 .long (10 : Int32) [(.long (1 : Int64)), (.long (10 : Int64)), (.long (100 : Int64)), (.long (1000 : Int64)), (.long (10000 : Int64)), (.long (100000 : Int64)), (.long (1000000 : Int64)), (.long (10000000 : Int64)), (.long (100000000 : Int64)), (.long (0 : Int64))] (.long (0 : Int64)) := Arv.set Ar_18 qk_18 Sz_18 Ng_18 Hs_18 Gs_18 rfl W_19 8 rfl (Nat.le_of_ble_eq_true rfl)
 have N_19 := Fr.snoc X_19 N_17 gg_1
 show own_Go _ _ _ _ (T_19.setTop (mkF m 59 #[iv p1, .unset] [(.ref b_1)]))
 refine o_dup X_19 Hq d36_59 rfl (o_bipush X_19 Hq 9 d36_60 rfl (o_ldc2 X_19 Hq hown d36_62 (v_ hZ hw 192 rfl) ?_))
 obtain ⟨cl_20, Ar_20, qk_20, Sz_20, Ng_20, Hs_20, Gs_20⟩ := id V_19
 obtain ⟨T_21, h_21, X_21, e_21, W_21, st_21⟩ := stJ X_19 hx hZ e_19 Ar_20 (j := (9 : Int32)) (inb_of Sz_20 ⟨by decide, by decide⟩) (g := (mkF m 65 #[iv p1, .unset] [(.long 1000000000), (.int 9), (.ref b_1), (.ref b_1)])) rfl rfl (hb hby d36_65)
 refine own_st st_21 ?_
 have V_21 : Arv Z h_21 b_1 k_1 .long (10 : Int32) [(.long (1 : Int64)), (.long (10 : Int64)), (.long (100 : Int64)), (.long (1000 : Int64)), (.long (10000 : Int64)), (.long (100000 : Int64)), (.long (1000000 : Int64)), (.long (10000000 : Int64)), (.long (100000000 : Int64)), (.long (1000000000 : Int64))] (.long (0 : Int64)) := Arv.set Ar_20 qk_20 Sz_20 Ng_20 Hs_20 Gs_20 rfl W_21 9 rfl (Nat.le_of_ble_eq_true rfl)
 have N_21 := Fr.snoc X_21 N_19 gg_1
 show own_Go _ _ _ _ (T_21.setTop (mkF m 66 #[iv p1, .unset] [(.ref b_1)]))
 refine o_astoreN X_21 Hq d36_66 rfl (l' := #[iv p1, rv b_1]) rfl (o_aloadN X_21 Hq d36_67 rfl rfl (o_iloadN X_21 Hq d36_68 rfl ?_))
 obtain ⟨cl_22, Ar_22, qk_22, Sz_22, Ng_22, Hs_22, Gs_22⟩ := id V_21
 refine own_st (X_21.laload hx (j := p1) (v := (.long (own_p10 p1))) (by rw [e_21]; exact Ar_22.1) (State.isArrayOf_alike hZ.alike Ar_22.2.1) Ar_22.2.2 (inb_of Sz_22 ⟨hk0, hk1⟩) (Hs_22.at (j := p1) (inb_of Sz_22 ⟨hk0, hk1⟩) (own_p10_get hk0 hk1)) (g := (mkF m 69 #[iv p1, rv b_1] [(.int p1), (.ref b_1)])) rfl rfl (hb hby d36_69)) ?_
 show own_Go _ _ _ _ (T_21.setTop (mkF m 70 #[iv p1, rv b_1] [(.long (own_p10 p1))]))
 have Kp_23 : Keep h0 h_21 [] := ((((((((((((Keep.refl h0 []).ext E_1).wr W_3 (Or.inr sz_1)).wr W_5 (Or.inr sz_1)).wr W_7 (Or.inr sz_1)).wr W_9 (Or.inr sz_1)).wr W_11 (Or.inr sz_1)).wr W_13 (Or.inr sz_1)).wr W_15 (Or.inr sz_1)).wr W_17 (Or.inr sz_1)).wr W_19 (Or.inr sz_1)).wr W_21 (Or.inr sz_1))
 exact e_J X_21 e_21 Hq hlk hrt d36_70 ⟨rfl, N_21, Kp_23⟩
abbrev D35 := decode method_6_code
theorem d35_0 : D35 0 = .ok (.iload_n 0, 1) := by decide +kernel
theorem d35_1 : D35 1 = .ok (.iload 4, 2) := by decide +kernel
theorem d35_3 : D35 3 = .ok (.if_icmp .ge 39, 3) := by decide +kernel
theorem d35_6 : D35 6 = .ok (.iload_n 3, 1) := by decide +kernel
theorem d35_7 : D35 7 = .ok (.ifCond .eq 10, 3) := by decide +kernel
theorem d35_17 : D35 17 = .ok (.iload 4, 2) := by decide +kernel
theorem d35_19 : D35 19 = .ok (.iconst 1, 1) := by decide +kernel
theorem d35_20 : D35 20 = .ok (.isub, 1) := by decide +kernel
theorem d35_21 : D35 21 = .ok (.iload_n 0, 1) := by decide +kernel
theorem d35_22 : D35 22 = .ok (.isub, 1) := by decide +kernel
theorem d35_23 : D35 23 = .ok (.istore 5, 2) := by decide +kernel
theorem d35_25 : D35 25 = .ok (.bipush 48, 2) := by decide +kernel
theorem d35_27 : D35 27 = .ok (.lload_n 1, 1) := by decide +kernel
theorem d35_28 : D35 28 = .ok (.iload 5, 2) := by decide +kernel
theorem d35_30 : D35 30 = .ok (.invokestatic 55, 3) := by decide +kernel
theorem pd_26 : parseMethodDescriptor "(I)J" = some ⟨[.int], some .long⟩ := by decide +kernel
theorem k35_55 {a0 : Array Value} {Z : State} (hw : HW a0 Z) : own_KS a0 Z "com/example/figurant/figurant/VerificationModeCountOfTimesPinLaw" "" 55 y36_ y36_ method_4_code 2 (some .long) 1 := ⟨⟨(w_ hw 181 rfl), ⟨_, _, pd_26, rfl⟩, by decide⟩, (w_ hw 182 rfl), (w_ hw 149 rfl), (w_ hw 183 rfl)⟩
theorem d35_33 : D35 33 = .ok (.ldiv, 1) := by decide +kernel
theorem d35_34 : D35 34 = .ok (.ldc2_w 29, 3) := by decide +kernel
theorem d35_37 : D35 37 = .ok (.lrem, 1) := by decide +kernel
theorem d35_38 : D35 38 = .ok (.l2i, 1) := by decide +kernel
theorem d35_39 : D35 39 = .ok (.iadd, 1) := by decide +kernel
theorem d35_40 : D35 40 = .ok (.i2c, 1) := by decide +kernel
theorem d35_41 : D35 41 = .ok (.ireturn, 1) := by decide +kernel
theorem d35_10 : D35 10 = .ok (.iload_n 0, 1) := by decide +kernel
theorem d35_11 : D35 11 = .ok (.ifCond .ne 6, 3) := by decide +kernel
theorem d35_14 : D35 14 = .ok (.bipush 45, 2) := by decide +kernel
theorem d35_16 : D35 16 = .ok (.ireturn, 1) := by decide +kernel
theorem d35_42 : D35 42 = .ok (.ldc 59, 2) := by decide +kernel
theorem d35_44 : D35 44 = .ok (.iload_n 0, 1) := by decide +kernel
theorem d35_45 : D35 45 = .ok (.iload 4, 2) := by decide +kernel
theorem d35_47 : D35 47 = .ok (.isub, 1) := by decide +kernel
theorem d35_48 : D35 48 = .ok (.invokevirtual 47, 3) := by decide +kernel
theorem pd_27 : parseMethodDescriptor "(I)C" = some ⟨[.int], some .char⟩ := by decide +kernel
theorem k35_47U1 {a0 : Array Value} {Z : State} (hw : HW a0 Z) : own_KU a0 Z "com/example/figurant/figurant/VerificationModeCountOfTimesPinLaw" "java/lang/String" 47 y6_ y6_ jdk_42_method_56_code 2 (some .char) 1 := ⟨⟨(w_ hw 156 rfl), ⟨_, _, pd_27, rfl⟩, by decide⟩, (w_ hw 157 rfl), (w_ hw 159 rfl), (w_ hw 158 rfl), (w_ hw 20 rfl), (w_ hw 160 rfl)⟩
theorem d35_51 : D35 51 = .ok (.ireturn, 1) := by decide +kernel
theorem ef_rm35 (m : MethodId) (p1 : Int32) (q2 : Int64) (p3 p4 : Int32) : entryFrame m #[(.int p1), (.long q2), (.int p3), (.int p4)] 6 = mkF m 0 #[iv p1, .val (.long q2), .second, iv p3, iv p4, .unset] [] := by first | (simp [entryFrame, mkF, argsToLocals, Value.category]; done) | rfl
def Q_rm35 (Z : State) (a0 : Array Value) (p1 : Int32) (q2 : Int64) (p3 p4 w : Int32) (sfv : Value) (h0 : Heap) (n0 : Nat) (v : Option Value) (h : Heap) (L : List Loc) : Prop := v = some (.int (own_xp p1 q2 p3 p4)) ∧ Fr n0 L ∧ Keep h0 h []
theorem rm35 (l : Launch) (Z : State) (a0 : Array Value) (hw : HW a0 Z) (ws : List Jvm.Cond) (p1 : Int32) (q2 : Int64) (p3 p4 w : Int32) (sfv : Value) (h0 : Heap) (n0 : Nat) (Z0 : n0 ≤ h0.size) (hk : own_okx p1 p3 p4) (S1 : Sta Z h0 "java/lang/String" "COMPACT_STRINGS" "Z" (.int w)) (hw0 : ¬ w = (0 : Int32)) (S2 : Sta Z h0 "jdk/internal/util/Preconditions" "SIOOBE_FORMATTER" "Ljava/util/function/BiFunction;" sfv) (hsf : sfv.isRef = true) :
  MetFree l y37_ (head1 (Jvm.Cond.code y37_ method_6_code 6 (some .char) :: ws) (R_ 4 2 28 53)) (fun a U => a = #[(.int p1), (.long q2), (.int p3), (.int p4)] ∧ Z.Warmed39 U.vm ∧ U.heap = h0 ∧ CHv Z consts_1 U.vm h0) (fun _ _ _ _ _ => True) (fun _ U o U' => ∃ v L, o = .returned v ∧ Q_rm35 Z a0 p1 q2 p3 p4 w sfv h0 n0 v U'.heap L ∧ CHr Z consts_1 U.vm U.heap U'.vm U'.heap ∧ ReturnedEndW U o U' L (R_ 4 2 28 53).cells (R_ 4 2 28 53).slots) := by
 refine MetFree.of_bodySF (plainFor_of_name pn_28) hisR ?_
 intro p e s m args below meth c s₁ Bd hml0 hP hK
 obtain ⟨rfl, hZ, hh, hC0⟩ := hP
 have hx := Bd.exec
 have hby := Bd.bytes
 have hml : c.maxLocals = 6 := hml0
 have hown : s.vm.findClass "com/example/figurant/figurant/VerificationModeCountOfTimesPinLaw" = some m.cls := findClass_of_methodNamed Bd.named
 have hnm := (name_of_methodNamed Bd.named Bd.method).1
 have hlk : meth.locks = false := BodyLoose.notSynchronized (by assumption)
 have X0 : Stand p l e (R_ 4 2 28 53) (s.setVm s.vm) m #[(.int p1), (.long q2), (.int p3), (.int p4)] below meth c s₁ [] 0 0 := Stand.of_body Bd
 have e0 : s₁.heap = h0 := by rw [← hh, Bd.state]; rfl
 have N0 := Fr.nil n0
 have Hq := And.intro hx hby
 have hrt := Bd.returns
 show own_Go p.tables e below (fun o U' => ∃ v L, o = .returned v ∧ Q_rm35 Z a0 p1 q2 p3 p4 w sfv h0 n0 v U'.heap L ∧ CHr Z consts_1 s.vm s.heap U'.vm U'.heap ∧ ReturnedEndW s o U' L (R_ 4 2 28 53).cells (R_ 4 2 28 53).slots) (s₁.setTop (entryFrame m #[(.int p1), (.long q2), (.int p3), (.int p4)] 6))
 refine own_st (fun t k => castTop (ef_rm35 m p1 q2 p3 p4) k) ?_
 have hEL : EW Z a0 consts_1 := own_EW hw
 have hS0 : s.Since s.vm h0.size := (State.WarmedH.refl s).since _
 have Cr0 : CHr Z consts_1 s.vm s.heap s.vm h0 := by rw [hh]; exact CHr.refl hC0
 show own_Go _ _ _ _ (s₁.setTop (mkF m 0 #[iv p1, .val (.long q2), .second, iv p3, iv p4, .unset] []))
 refine o_iloadN X0 Hq d35_0 rfl (o_iload X0 Hq d35_1 rfl ?_)
 by_cases hc3__1 : p1 < p4
 ·refine o_icmpNo X0 Hq d35_3 (tlt hc3__1).2.1 (o_iloadN X0 Hq d35_6 rfl ?_)
  by_cases hc7__2 : p3 = (0 : Int32)
  ·refine o_ifYes X0 Hq (pc' := 17) d35_7 (teq hc7__2).1 (o_iload X0 Hq d35_17 rfl (o_iconst X0 Hq 1 d35_19 rfl (o_isub X0 Hq d35_20 (o_iloadN X0 Hq d35_21 rfl (o_isub X0 Hq d35_22 (o_istore X0 Hq d35_23 (l' := #[iv p1, .val (.long q2), .second, iv p3, iv p4, iv ((p4 - (1 : Int32)) - p1)]) rfl (o_bipush X0 Hq 48 d35_25 rfl (o_lloadN X0 Hq d35_27 rfl (o_iload X0 Hq d35_28 rfl ?_)))))))))
   refine c_S1 X0 Hq e0 hZ hown hml (k35_55 hw) (rm36 hw ((p4 - (1 : Int32)) - p1)  h0 n0 Z0 (hk.1 hc3__1 (Or.inl hc7__2)).1 (hk.1 hc3__1 (Or.inl hc7__2)).2) d35_30 ?_ 3
   rintro T_3 L_3 _ X_3 ⟨⟨⟩, Nq_3, K_3⟩
   have N_3 := Fr.app N0 Nq_3
   refine o_ldiv X_3 Hq d35_33 (own_p10nz _) (o_ldc2 X_3 Hq hown d35_34 (v_ hZ hw 151 rfl) (o_lrem X_3 Hq d35_37 (by decide) (o_l2i X_3 Hq d35_38 (o_iadd X_3 Hq d35_39 (o_i2c X_3 Hq d35_40 ?_)))))
   have Kp_4 : Keep h0 T_3.heap [] := ((Keep.refl h0 []).trans K_3 all0)
   have Cx_5 := CHr.keep K_3 sf0 Cr0.1
   have Cr_5 := Cr0.trans Cx_5
   have Ks_6 := (Nat.le_trans (Nat.le_refl h0.size) K_3.1)
   exact own_endC X_3 hS0 rfl Ks_6 (v := some (.int (nar .char (((48 : Int32) + (((q2 / (own_p10 ((p4 - (1 : Int32)) - p1))) - (q2 / (own_p10 ((p4 - (1 : Int32)) - p1))) / (10 : Int64) * (10 : Int64)).toInt32)).toUInt32.toUInt16.toUInt32.toInt32)))) (fun h => by rw [hrt] at h; cases h) hlk (fun fs hr => retN X_3 hx (z := (((48 : Int32) + (((q2 / (own_p10 ((p4 - (1 : Int32)) - p1))) - (q2 / (own_p10 ((p4 - (1 : Int32)) - p1))) / (10 : Int64) * (10 : Int64)).toInt32)).toUInt32.toUInt16.toUInt32.toInt32)) (t := .char) hrt (by simp) (hb hby d35_41) hr) hZ hEL Cr_5 (Q := Q_rm35 Z a0 p1 q2 p3 p4 w sfv h0 n0) ⟨(congrArg (fun z => some (Value.int z)) (by unfold own_xp; rw [if_pos hc3__1, if_pos hc7__2] <;> rfl)), N_3, Kp_4⟩ (by decide) (by decide)
  ·refine o_ifNo X0 Hq d35_7 (feq hc7__2).1 (o_iloadN X0 Hq d35_10 rfl ?_)
   by_cases hc11__7 : p1 = (0 : Int32)
   ·refine o_ifNo X0 Hq d35_11 (teq hc11__7).2 (o_bipush X0 Hq 45 d35_14 rfl ?_)
    have Ks_8 := (Nat.le_refl h0.size)
    exact own_endC X0 hS0 e0 Ks_8 (v := some (.int (45 : Int32))) (fun h => by rw [hrt] at h; cases h) hlk (fun fs hr => retN X0 hx (z := (45 : Int32)) (t := .char) hrt (by simp) (hb hby d35_16) hr) hZ hEL Cr0 (Q := Q_rm35 Z a0 p1 q2 p3 p4 w sfv h0 n0) ⟨(congrArg (fun z => some (Value.int z)) (by unfold own_xp; rw [if_pos hc3__1, if_neg hc7__2, if_pos hc11__7] <;> rfl)), N0, (Keep.refl h0 [])⟩ (by decide) (by decide)
   ·refine o_ifYes X0 Hq (pc' := 17) d35_11 (feq hc11__7).2 (o_iload X0 Hq d35_17 rfl (o_iconst X0 Hq 1 d35_19 rfl (o_isub X0 Hq d35_20 (o_iloadN X0 Hq d35_21 rfl (o_isub X0 Hq d35_22 (o_istore X0 Hq d35_23 (l' := #[iv p1, .val (.long q2), .second, iv p3, iv p4, iv ((p4 - (1 : Int32)) - p1)]) rfl (o_bipush X0 Hq 48 d35_25 rfl (o_lloadN X0 Hq d35_27 rfl (o_iload X0 Hq d35_28 rfl ?_)))))))))
    refine c_S1 X0 Hq e0 hZ hown hml (k35_55 hw) (rm36 hw ((p4 - (1 : Int32)) - p1)  h0 n0 Z0 (hk.1 hc3__1 (Or.inr hc11__7)).1 (hk.1 hc3__1 (Or.inr hc11__7)).2) d35_30 ?_ 3
    rintro T_9 L_9 _ X_9 ⟨⟨⟩, Nq_9, K_9⟩
    have N_9 := Fr.app N0 Nq_9
    refine o_ldiv X_9 Hq d35_33 (own_p10nz _) (o_ldc2 X_9 Hq hown d35_34 (v_ hZ hw 151 rfl) (o_lrem X_9 Hq d35_37 (by decide) (o_l2i X_9 Hq d35_38 (o_iadd X_9 Hq d35_39 (o_i2c X_9 Hq d35_40 ?_)))))
    have Kp_10 : Keep h0 T_9.heap [] := ((Keep.refl h0 []).trans K_9 all0)
    have Cx_11 := CHr.keep K_9 sf0 Cr0.1
    have Cr_11 := Cr0.trans Cx_11
    have Ks_12 := (Nat.le_trans (Nat.le_refl h0.size) K_9.1)
    exact own_endC X_9 hS0 rfl Ks_12 (v := some (.int (nar .char (((48 : Int32) + (((q2 / (own_p10 ((p4 - (1 : Int32)) - p1))) - (q2 / (own_p10 ((p4 - (1 : Int32)) - p1))) / (10 : Int64) * (10 : Int64)).toInt32)).toUInt32.toUInt16.toUInt32.toInt32)))) (fun h => by rw [hrt] at h; cases h) hlk (fun fs hr => retN X_9 hx (z := (((48 : Int32) + (((q2 / (own_p10 ((p4 - (1 : Int32)) - p1))) - (q2 / (own_p10 ((p4 - (1 : Int32)) - p1))) / (10 : Int64) * (10 : Int64)).toInt32)).toUInt32.toUInt16.toUInt32.toInt32)) (t := .char) hrt (by simp) (hb hby d35_41) hr) hZ hEL Cr_11 (Q := Q_rm35 Z a0 p1 q2 p3 p4 w sfv h0 n0) ⟨(congrArg (fun z => some (Value.int z)) (by unfold own_xp; rw [if_pos hc3__1, if_neg hc7__2, if_neg hc11__7] <;> rfl)), N_9, Kp_10⟩ (by decide) (by decide)
 ·refine o_icmpYes X0 Hq (pc' := 42) d35_3 (flt hc3__1).2.1 ?_
  have Ks_14 := (Nat.le_refl h0.size)
  obtain ⟨la_13, T_13, h_13, k_13, lb_13, lk_13, X_13, e_13, E_13, hS_13, hk_13, hZ_13, hown_13, LE_13, LC_13, LV_13, LA_13, -, -, Cl_13, -, Sn_13, st_13⟩ := ldcCH X0 hx hZ hown (w_ hw 193 rfl) (own_atoms hw) e0 hS0 Ks_14 hEL (List.mem_of_getElem? (i := 2) rfl) Cr0.1 (vs := [(.int (32 : Int32)), (.int (116 : Int32)), (.int (105 : Int32)), (.int (109 : Int32)), (.int (101 : Int32)), (.int (115 : Int32))]) (z := (6 : Int32)) ⟨by decide, rfl⟩ (by decide) rfl (g := (mkF m 42 #[iv p1, .val (.long q2), .second, iv p3, iv p4, .unset] [])) rfl (hb hby d35_42) (n := 24) (by decide) (by decide) (by decide) (by decide)
  have Cr_13 := Cr0.trans Cl_13
  refine own_st st_13 ?_
  show own_Go _ _ _ _ (T_13.setTop (mkF m 44 #[iv p1, .val (.long q2), .second, iv p3, iv p4, .unset] [(.ref la_13)]))
  have Lx_15 : Arv Z h_13 lb_13 lk_13 .byte (6 : Int32) (own_LI own_txf (6 : Int32)) (.int (0 : Int32)) := own_Arv_cg rfl LA_13
  refine o_iloadN X_13 Hq d35_44 rfl (o_iload X_13 Hq d35_45 rfl (o_isub X_13 Hq d35_47 ?_))
  have Fa_17 := (S1.ext E_13)
  have Fa_18 := (S2.ext E_13)
  have Zs_19 : n0 ≤ h_13.size := (Nat.le_trans Z0 E_13.1)
  refine c_U1 X_13 Hq e_13 hZ_13 hown_13 hml (k35_47U1 hw) (rm30 hw la_13 (p1 - p4) lb_13 lk_13 (6 : Int32) (own_LI own_txf (6 : Int32)) (.int (0 : Int32)) w sfv own_TX h_13 n0 Zs_19 LE_13 LV_13 LC_13 Lx_15 Fa_17 hw0 own_txF own_txb Fa_18 hsf (hk.2 hc3__1).1 (hk.2 hc3__1).2) LE_13 d35_48 ?_ 0
  rintro T_16 L_16 _ X_16 ⟨⟨⟩, Nq_16, e_16⟩
  have N_16 := Fr.app N0 Nq_16
  have Kp_20 : Keep h0 h_13 [] := ((Keep.refl h0 []).ext E_13)
  have Ks_21 := hk_13
  exact own_endC X_16 hS_13 e_16 Ks_21 (v := some (.int (nar .char (own_TX (p1 - p4))))) (fun h => by rw [hrt] at h; cases h) hlk (fun fs hr => retN X_16 hx (z := (own_TX (p1 - p4))) (t := .char) hrt (by simp) (hb hby d35_51) hr) hZ_13 hEL Cr_13 (Q := Q_rm35 Z a0 p1 q2 p3 p4 w sfv h0 n0) ⟨(congrArg (fun z => some (Value.int z)) ((own_nc (own_txb _).1 (own_txb _).2).trans (by unfold own_xp; rw [if_neg hc3__1]))), N_16, Kp_20⟩ (by decide) (by decide)
abbrev D29 := decode method_5_code
theorem d29_0 : D29 0 = .ok (.iload_n 1, 1) := by decide +kernel
theorem d29_1 : D29 1 = .ok (.iload 6, 2) := by decide +kernel
theorem d29_3 : D29 3 = .ok (.if_icmp .lt 5, 3) := by decide +kernel
theorem d29_8 : D29 8 = .ok (.aload_n 0, 1) := by decide +kernel
theorem d29_9 : D29 9 = .ok (.iload_n 1, 1) := by decide +kernel
theorem d29_10 : D29 10 = .ok (.invokevirtual 47, 3) := by decide +kernel
theorem k29_47U1 {a0 : Array Value} {Z : State} (hw : HW a0 Z) : own_KU a0 Z "com/example/figurant/figurant/VerificationModeCountOfTimesPinLaw" "java/lang/String" 47 y6_ y6_ jdk_42_method_56_code 2 (some .char) 1 := ⟨⟨(w_ hw 156 rfl), ⟨_, _, pd_27, rfl⟩, by decide⟩, (w_ hw 157 rfl), (w_ hw 159 rfl), (w_ hw 158 rfl), (w_ hw 20 rfl), (w_ hw 160 rfl)⟩
theorem d29_13 : D29 13 = .ok (.iload_n 1, 1) := by decide +kernel
theorem d29_14 : D29 14 = .ok (.lload_n 2, 1) := by decide +kernel
theorem d29_15 : D29 15 = .ok (.iload 4, 2) := by decide +kernel
theorem d29_17 : D29 17 = .ok (.iload 5, 2) := by decide +kernel
theorem d29_19 : D29 19 = .ok (.invokestatic 51, 3) := by decide +kernel
theorem pd_28 : parseMethodDescriptor "(IJZI)C" = some ⟨[.int, .long, .boolean, .int], some .char⟩ := by decide +kernel
theorem d29_22 : D29 22 = .ok (.if_icmp .ne 7, 3) := by decide +kernel
theorem d29_25 : D29 25 = .ok (.iconst 1, 1) := by decide +kernel
theorem d29_26 : D29 26 = .ok (.goto 4, 3) := by decide +kernel
theorem d29_30 : D29 30 = .ok (.ireturn, 1) := by decide +kernel
theorem d29_6 : D29 6 = .ok (.iconst 1, 1) := by decide +kernel
theorem d29_7 : D29 7 = .ok (.ireturn, 1) := by decide +kernel
theorem ef_rm29 (m : MethodId) (a1 : Addr) (p2 : Int32) (q3 : Int64) (p4 p5 p6 : Int32) : entryFrame m #[(.ref a1), (.int p2), (.long q3), (.int p4), (.int p5), (.int p6)] 7 = mkF m 0 #[rv a1, iv p2, .val (.long q3), .second, iv p4, iv p5, iv p6] [] := by first | (simp [entryFrame, mkF, argsToLocals, Value.category]; done) | rfl
def Q_rm29 (Z : State) (a0 : Array Value) (a1 : Addr) (p2 : Int32) (q3 : Int64) (p4 p5 p6 : Int32) (b : Addr) (k1 : ClassId) (N : Int32) (vs : List Value) (d1 : Value) (w : Int32) (sfv : Value) (f : Int32 → Int32) (h0 : Heap) (n0 : Nat) (v : Option Value) (h : Heap) (L : List Loc) : Prop := v = some (.int (1 : Int32)) ∧ Fr n0 L ∧ Keep h0 h []
theorem rm29 (l : Launch) (Z : State) (a0 : Array Value) (hw : HW a0 Z) (ws : List Jvm.Cond) (a1 : Addr) (p2 : Int32) (q3 : Int64) (p4 p5 p6 : Int32) (b : Addr) (k1 : ClassId) (N : Int32) (vs : List Value) (d1 : Value) (w : Int32) (sfv : Value) (f : Int32 → Int32) (h0 : Heap) (n0 : Nat) (Z0 : n0 ≤ h0.size) (E_s : Exa Z h0 a1 "java/lang/String") (F_v : Fld Z h0 a1 "java/lang/String" "value" "[B" (.ref b)) (F_c : Fld Z h0 a1 "java/lang/String" "coder" "B" (.int (0 : Int32))) (V_s : Arv Z h0 b k1 .byte N vs d1) (S1 : Sta Z h0 "java/lang/String" "COMPACT_STRINGS" "Z" (.int w)) (hw0 : ¬ w = (0 : Int32)) (hat : ∀ i : Int32, ¬ i < 0 → i < N → vs.getD i.toNatClampNeg d1 = .int (((f i).toInt8.toInt32).toInt8.toInt32)) (hf : ∀ i : Int32, ¬ (255 : Int32) < f i ∧ ¬ f i < 0) (S2 : Sta Z h0 "jdk/internal/util/Preconditions" "SIOOBE_FORMATTER" "Ljava/util/function/BiFunction;" sfv) (hsf : sfv.isRef = true) (hA : own_AT N f p2 q3 p4 p5 p6) :
  MetFree l y0_ (head1 (Jvm.Cond.code y0_ method_5_code 7 (some .boolean) :: ws) (R_ 5 2 28 71)) (fun a U => a = #[(.ref a1), (.int p2), (.long q3), (.int p4), (.int p5), (.int p6)] ∧ Z.Warmed39 U.vm ∧ U.heap = h0 ∧ CHv Z consts_1 U.vm h0) (fun _ _ _ _ _ => True) (fun _ U o U' => ∃ v L, o = .returned v ∧ Q_rm29 Z a0 a1 p2 q3 p4 p5 p6 b k1 N vs d1 w sfv f h0 n0 v U'.heap L ∧ CHr Z consts_1 U.vm U.heap U'.vm U'.heap ∧ ReturnedEndW U o U' L (R_ 5 2 28 71).cells (R_ 5 2 28 71).slots) := by
 refine MetFree.of_bodySF (plainFor_of_name pn_28) hisR ?_
 intro p e s m args below meth c s₁ Bd hml0 hP hK
 obtain ⟨rfl, hZ, hh, hC0⟩ := hP
 have hx := Bd.exec
 have hby := Bd.bytes
 have hml : c.maxLocals = 7 := hml0
 have hown : s.vm.findClass "com/example/figurant/figurant/VerificationModeCountOfTimesPinLaw" = some m.cls := findClass_of_methodNamed Bd.named
 have hnm := (name_of_methodNamed Bd.named Bd.method).1
 have hlk : meth.locks = false := BodyLoose.notSynchronized (by assumption)
 have X0 : Stand p l e (R_ 5 2 28 71) (s.setVm s.vm) m #[(.ref a1), (.int p2), (.long q3), (.int p4), (.int p5), (.int p6)] below meth c s₁ [] 0 0 := Stand.of_body Bd
 have e0 : s₁.heap = h0 := by rw [← hh, Bd.state]; rfl
 have N0 := Fr.nil n0
 have Hq := And.intro hx hby
 have hrt := Bd.returns
 show own_Go p.tables e below (fun o U' => ∃ v L, o = .returned v ∧ Q_rm29 Z a0 a1 p2 q3 p4 p5 p6 b k1 N vs d1 w sfv f h0 n0 v U'.heap L ∧ CHr Z consts_1 s.vm s.heap U'.vm U'.heap ∧ ReturnedEndW s o U' L (R_ 5 2 28 71).cells (R_ 5 2 28 71).slots) (s₁.setTop (entryFrame m #[(.ref a1), (.int p2), (.long q3), (.int p4), (.int p5), (.int p6)] 7))
 refine own_st (fun t k => castTop (ef_rm29 m a1 p2 q3 p4 p5 p6) k) ?_
 have hEL : EW Z a0 consts_1 := own_EW hw
 have hS0 : s.Since s.vm h0.size := (State.WarmedH.refl s).since _
 have Cr0 : CHr Z consts_1 s.vm s.heap s.vm h0 := by rw [hh]; exact CHr.refl hC0
 show own_Go _ _ _ _ (s₁.setTop (mkF m 0 #[rv a1, iv p2, .val (.long q3), .second, iv p4, iv p5, iv p6] []))
 refine o_iloadN X0 Hq d29_0 rfl (o_iload X0 Hq d29_1 rfl ?_)
 by_cases hc3__1 : p2 < p6
 ·refine o_icmpYes X0 Hq (pc' := 8) d29_3 (tlt hc3__1).1 (o_aloadN X0 Hq d29_8 rfl rfl (o_iloadN X0 Hq d29_9 rfl ?_))
  refine c_U1 X0 Hq e0 hZ hown hml (k29_47U1 hw) (rm30 hw a1 p2 b k1 N vs d1 w sfv f h0 n0 Z0 E_s F_v F_c V_s S1 hw0 hat hf S2 hsf (hA hc3__1).1.1 (hA hc3__1).1.2) E_s d29_10 ?_ 0
  rintro T_2 L_2 _ X_2 ⟨⟨⟩, Nq_2, e_2⟩
  have N_2 := Fr.app N0 Nq_2
  refine o_iloadN X_2 Hq d29_13 rfl (o_lloadN X_2 Hq d29_14 rfl (o_iload X_2 Hq d29_15 rfl (o_iload X_2 Hq d29_17 rfl ?_)))
  have Ks_4 := (Nat.le_refl h0.size)
  obtain ⟨_, _, ⟨T_3, L_3, k_3, n_3⟩, -, X_3, hSq_3, hgq_3, ⟨Lc_3, hQ_3, l_3, y_3, z_3, hCq_3⟩, st_3⟩ := callSS X_2 hx (y := y37_) hown (v_ hZ hw 178 rfl) (v_ hZ hw 179 rfl) (v_ hZ hw 149 rfl) (v_ hZ hw 180 rfl) (by decide) (backOfSH (W := 1) (rm35 l Z a0 hw [] p2 q3 p4 p5 w sfv h0 n0 Z0 (hA hc3__1).2.1 S1 hw0 S2 hsf) hZ (w_ hw 180 rfl) (w_ hw 149 rfl) (by decide) (by decide) hEL Cr0.1) (g := (mkF m 19 #[rv a1, iv p2, .val (.long q3), .second, iv p4, iv p5, iv p6] [(.int p5), (.int p4), (.long q3), (.int p2), (.int (f p2))])) rfl (by rw [hml]; rfl) (argsL := [(.int p2), (.long q3), (.int p4), (.int p5)]) (rest := [(.int (f p2))]) (lenOf pd_28 rfl) rfl (z_ rfl) (hb hby d29_19) (fun _ _ => ⟨rfl, e_2, (by decide : 0 + 2 ≤ _), (by decide : 0 + 28 ≤ _)⟩)
  dsimp only [Pt.U, Pt.locs, Pt.cells, Pt.slots] at X_3 l_3 y_3 z_3 st_3 hQ_3 hSq_3 hgq_3 hCq_3
  subst l_3 y_3 z_3
  obtain ⟨Xr_3, hSr_3, hZr_3, hownr_3⟩ := rebS hS0 (Nat.le_trans Ks_4 (Nat.le_of_eq (congrArg Array.size (e_2).symm))) X_3 hSq_3 hgq_3 hZ hown
  obtain ⟨rfl, Nq_3, K_3⟩ := hQ_3
  have N_3 := Fr.app N_2 Nq_3
  have Cr_3 := Cr0.trans hCq_3
  refine own_tr st_3 ?_
  show own_Go _ _ _ _ (T_3.setTop (mkF m 22 #[rv a1, iv p2, .val (.long q3), .second, iv p4, iv p5, iv p6] [(.int (own_xp p2 q3 p4 p5)), (.int (f p2))]))
  refine o_icmpNo Xr_3 Hq d29_22 (teq (hA hc3__1).2.2).2 (o_iconst Xr_3 Hq 1 d29_25 rfl (o_goto Xr_3 Hq (pc' := 30) d29_26 ?_))
  have Kp_5 : Keep h0 T_3.heap [] := ((Keep.refl h0 []).trans K_3 all0)
  have Ks_6 := (Nat.le_refl T_3.heap.size)
  exact own_endC Xr_3 hSr_3 rfl Ks_6 (v := some (.int (1 : Int32))) (fun h => by rw [hrt] at h; cases h) hlk (fun fs hr => retN Xr_3 hx (z := (1 : Int32)) (t := .boolean) hrt (by simp) (hb hby d29_30) hr) hZr_3 hEL Cr_3 (Q := Q_rm29 Z a0 a1 p2 q3 p4 p5 p6 b k1 N vs d1 w sfv f h0 n0) ⟨rfl, N_3, Kp_5⟩ (by decide) (by decide)
 ·refine o_icmpNo X0 Hq d29_3 (flt hc3__1).1 (o_iconst X0 Hq 1 d29_6 rfl ?_)
  have Ks_7 := (Nat.le_refl h0.size)
  exact own_endC X0 hS0 e0 Ks_7 (v := some (.int (1 : Int32))) (fun h => by rw [hrt] at h; cases h) hlk (fun fs hr => retN X0 hx (z := (1 : Int32)) (t := .boolean) hrt (by simp) (hb hby d29_7) hr) hZ hEL Cr0 (Q := Q_rm29 Z a0 a1 p2 q3 p4 p5 p6 b k1 N vs d1 w sfv f h0 n0) ⟨rfl, N0, (Keep.refl h0 [])⟩ (by decide) (by decide)
def Q_rm0 (Z : State) (a0 : Array Value) (p1 : Int32) (aO aT : Addr) (kO kT : ClassId) (vO vT : List Value) (dO dT : Value) (w : Int32) (sfv : Value) (h0 : Heap) (n0 : Nat) (v : Option Value) (h : Heap) (L : List Loc) : Prop := v = some (.int (1 : Int32)) ∧ Fr n0 L ∧ Keep h0 h []
theorem k0_19U1 {a0 : Array Value} {Z : State} (hw : HW a0 Z) : own_KU a0 Z "com/example/figurant/figurant/VerificationModeCountOfTimesPinLaw" "java/lang/String" 19 y5_ y5_ jdk_42_method_54_code 1 (some .int) 0 := ⟨⟨(w_ hw 152 rfl), ⟨_, _, pd_15, rfl⟩, by decide⟩, (w_ hw 72 rfl), (w_ hw 74 rfl), (w_ hw 73 rfl), (w_ hw 20 rfl), (w_ hw 75 rfl)⟩
theorem pd_29 : parseMethodDescriptor "(Ljava/lang/String;IJZII)Z" = some ⟨[(.object "java/lang/String"), .int, .long, .boolean, .int, .int], some .boolean⟩ := by decide +kernel
section Sm
variable {p : Program} {l : Launch} {e : Env} {R : Room} {s : State} {m : MethodId} {args : Array Value} {below : List Frame} {meth : Method} {c : Code} {T : State} {locs : List Loc} {cells slots : Nat} {P : Outcome → State → Prop} {pc : Nat} {Ls : Array Slot} {st : List Value}
theorem e_ZW {vm₁ : Vm} (X : Stand p l e R (s.setVm vm₁) m args below meth c T locs cells slots) {n : Nat} (hS : s.Since vm₁ n) {h : Heap} (eT : T.heap = h) (hn : n ≤ h.size) {cb : ByteArray} (hq : p.tables.exec = Jvm.exec ∧ c.code = cb) (hlk : meth.locks = false) {z : Int32} {rest : List Value} (hrt : meth.sig.returnType = some .boolean) (hd : decode cb pc = .ok (.ireturn, 1)) {Q : Option Value → Heap → List Loc → Prop} (hQ : Q (some (.int (nar .boolean z))) h locs) (hcs : cells ≤ R.cells ∧ slots ≤ R.slots := by decide) :
  own_Go p.tables e below (own_PW s Q R) (T.setTop (mkF m pc Ls (.int z :: rest))) := own_endW X hS eT hn (v := (some (.int (nar .boolean z)))) (fun h => by rw [hrt] at h; cases h) hlk (fun fs hr => retN X hq.1 (z := z) (t := .boolean) hrt (by simp) (hb hq.2 hd) hr) (Q := Q) hQ hcs.1 hcs.2
end Sm
theorem own_rest {p : Program} {l : Launch} {e : Env} {s : State} {m : MethodId} {below : List Frame} {meth : Method} {c : Code} {T : State} {locs : List Loc} {Z : State} {a0 : Array Value} {h h0 : Heap} {n0 : Nat} {vm : Vm} {kS : Nat} (p1 : Int32) (aO aT : Addr) (kO kT : ClassId) (vO vT : List Value) (dO dT : Value) (w : Int32) (sfv : Value) (r tt : Addr) (kt : ClassId) (ngv : Int32) (q : Int64) (s5 s6 : Slot)
  (X : Stand p l e room_1 (s.setVm vm) m #[(.int p1)] below meth c T locs 7 103) (hx : p.tables.exec = Jvm.exec) (hZ : Z.Warmed39 (s.setVm vm).vm) (hw : HW a0 Z) (hby : c.code = code) (hml : c.maxLocals = 9) (hown : (s.setVm vm).vm.findClass "com/example/figurant/figurant/VerificationModeCountOfTimesPinLaw" = some m.cls) (hret : meth.sig.returnType = some .boolean) (hlk : meth.locks = false) (eT : T.heap = h) (N : Fr n0 locs) (Zh : n0 ≤ h.size) (Kh : Keep h0 h []) (hS : s.Since vm kS) (hk : kS ≤ h.size) (E_s : Exa Z h r "java/lang/String") (F_v : Fld Z h r "java/lang/String" "value" "[B" (.ref tt)) (F_c : Fld Z h r "java/lang/String" "coder" "B" (.int (0 : Int32))) (V_s : Arv Z h tt kt .byte (own_len p1) (own_LI (own_ft p1) (own_len p1)) (.int (0 : Int32))) (S1 : Sta Z h "java/lang/String" "COMPACT_STRINGS" "Z" (.int w)) (S2 : Sta Z h "jdk/internal/util/Preconditions" "SIOOBE_FORMATTER" "Ljava/util/function/BiFunction;" sfv) (hw0 : ¬ w = (0 : Int32)) (hsf : sfv.isRef = true) (hqq : q.toInt = own_abs p1) (hg0 : ngv = (0 : Int32) → own_ng p1 = 0) (hg1 : ¬ ngv = (0 : Int32) → own_ng p1 = 1) (hcv : CHv Z consts_1 vm h) :
  own_Go p.tables e below (own_PW s (Q_rm0 Z a0 p1 aO aT kO kT vO vT dO dT w sfv h0 n0) room_1) (T.setTop (mkF m 76 #[iv p1, rv r, iv ngv, .val (.long q), .second, s5, s6, iv (own_size p1), iv (own_len p1)] [])) := by
 have Hq := And.intro hx hby
 have hrt := hret
 have hEL : EW Z a0 consts_1 := own_EW hw
 refine o_aloadN X Hq at_76 rfl rfl (o_ifnullNo X Hq at_77 (o_aloadN X Hq at_80 rfl rfl ?_))
 refine c_U0 X Hq eT hZ hown hml (k0_19U1 hw) (rmlenN hw r tt kt (own_len p1) (own_LI (own_ft p1) (own_len p1)) (.int (0 : Int32)) w h n0 Zh E_s F_v F_c V_s S1 hw0) E_s at_81 ?_ 0
 rintro T_1 L_1 _ X_1 ⟨⟨⟩, Nq_1, e_1⟩
 have N_1 := Fr.app N Nq_1
 refine o_iload X_1 Hq at_84 rfl (o_icmpYes X_1 Hq (pc' := 91) at_86 (teq (rfl : (own_len p1) = (own_len p1))).1 (o_aloadN X_1 Hq at_91 rfl rfl (o_iconst X_1 Hq 0 at_92 rfl (o_lloadN X_1 Hq at_93 rfl (o_iloadN X_1 Hq at_94 rfl (o_iload X_1 Hq at_95 rfl (o_iload X_1 Hq at_97 rfl ?_)))))))
 have Ks_3 := hk
 obtain ⟨_, _, ⟨T_2, L_2, k_2, n_2⟩, -, X_2, hSq_2, hgq_2, ⟨Lc_2, hQ_2, l_2, y_2, z_2, hCq_2⟩, st_2⟩ := callSS X_1 hx (y := y0_) hown (v_ hZ hw 153 rfl) (v_ hZ hw 154 rfl) (v_ hZ hw 149 rfl) (v_ hZ hw 155 rfl) (by decide) (backOfSH (W := 0) (rm29 l Z a0 hw [] r (0 : Int32) q ngv (own_size p1) (own_len p1) tt kt (own_len p1) (own_LI (own_ft p1) (own_len p1)) (.int (0 : Int32)) w sfv (own_F p1) h n0 Zh E_s F_v F_c V_s S1 hw0 (own_Fat _ _) (own_Fb _) S2 hsf (own_ATk hqq hg0 hg1 (by decide))) hZ (w_ hw 155 rfl) (w_ hw 149 rfl) (by decide) (by decide) hEL hcv) (g := (mkF m 99 #[iv p1, rv r, iv ngv, .val (.long q), .second, s5, s6, iv (own_size p1), iv (own_len p1)] [(.int (own_len p1)), (.int (own_size p1)), (.int ngv), (.long q), (.int 0), (.ref r)])) rfl (by rw [hml]; rfl) (argsL := [(.ref r), (.int 0), (.long q), (.int ngv), (.int (own_size p1)), (.int (own_len p1))]) (rest := []) (lenOf pd_29 rfl) rfl (z_ rfl) (hb hby at_99) (fun _ _ => ⟨rfl, e_1, (by decide : 7 + 2 ≤ _), (by decide : 103 + 28 ≤ _)⟩)
 dsimp only [Pt.U, Pt.locs, Pt.cells, Pt.slots] at X_2 l_2 y_2 z_2 st_2 hQ_2 hSq_2 hgq_2 hCq_2
 subst l_2 y_2 z_2
 obtain ⟨Xr_2, hSr_2, hZr_2, hownr_2⟩ := rebS hS (Nat.le_trans Ks_3 (Nat.le_of_eq (congrArg Array.size (e_1).symm))) X_2 hSq_2 hgq_2 hZ hown
 obtain ⟨rfl, Nq_2, K_2⟩ := hQ_2
 have N_2 := Fr.app N_1 Nq_2
 refine own_tr st_2 ?_
 show own_Go _ _ _ _ (T_2.setTop (mkF m 102 #[iv p1, rv r, iv ngv, .val (.long q), .second, s5, s6, iv (own_size p1), iv (own_len p1)] [(.int 1)]))
 refine o_ifNo Xr_2 Hq at_102 (by decide) (o_aloadN Xr_2 Hq at_105 rfl rfl (o_iconst Xr_2 Hq 1 at_106 rfl (o_lloadN Xr_2 Hq at_107 rfl (o_iloadN Xr_2 Hq at_108 rfl (o_iload Xr_2 Hq at_109 rfl (o_iload Xr_2 Hq at_111 rfl ?_))))))
 have Fa_5 := (E_s.keep K_2)
 have Fa_6 := (F_v.keep K_2 nin0)
 have Fa_7 := (F_c.keep K_2 nin0)
 have Fa_8 := (V_s.keep K_2 nin0)
 have Fa_9 := (own_Sta_keep S1 K_2 ns0)
 have Fa_10 := (own_Sta_keep S2 K_2 ns0)
 have Zs_11 : n0 ≤ T_2.heap.size := (Nat.le_trans Zh K_2.1)
 have Ks_12 := (Nat.le_refl T_2.heap.size)
 obtain ⟨_, _, ⟨T_4, L_4, k_4, n_4⟩, -, X_4, hSq_4, hgq_4, ⟨Lc_4, hQ_4, l_4, y_4, z_4, hCq_4⟩, st_4⟩ := callSS Xr_2 hx (y := y0_) hownr_2 (v_ hZr_2 hw 153 rfl) (v_ hZr_2 hw 154 rfl) (v_ hZr_2 hw 149 rfl) (v_ hZr_2 hw 155 rfl) (by decide) (backOfSH (W := 0) (rm29 l Z a0 hw [] r (1 : Int32) q ngv (own_size p1) (own_len p1) tt kt (own_len p1) (own_LI (own_ft p1) (own_len p1)) (.int (0 : Int32)) w sfv (own_F p1) T_2.heap n0 Zs_11 Fa_5 Fa_6 Fa_7 Fa_8 Fa_9 hw0 (own_Fat _ _) (own_Fb _) Fa_10 hsf (own_ATk hqq hg0 hg1 (by decide))) hZr_2 (w_ hw 155 rfl) (w_ hw 149 rfl) (by decide) (by decide) hEL hCq_2.1) (g := (mkF m 113 #[iv p1, rv r, iv ngv, .val (.long q), .second, s5, s6, iv (own_size p1), iv (own_len p1)] [(.int (own_len p1)), (.int (own_size p1)), (.int ngv), (.long q), (.int 1), (.ref r)])) rfl (by rw [hml]; rfl) (argsL := [(.ref r), (.int 1), (.long q), (.int ngv), (.int (own_size p1)), (.int (own_len p1))]) (rest := []) (lenOf pd_29 rfl) rfl (z_ rfl) (hb hby at_113) (fun _ _ => ⟨rfl, rfl, (by decide : 9 + 2 ≤ _), (by decide : 131 + 28 ≤ _)⟩)
 dsimp only [Pt.U, Pt.locs, Pt.cells, Pt.slots] at X_4 l_4 y_4 z_4 st_4 hQ_4 hSq_4 hgq_4 hCq_4
 subst l_4 y_4 z_4
 obtain ⟨Xr_4, hSr_4, hZr_4, hownr_4⟩ := rebS hSr_2 (Nat.le_trans Ks_12 (Nat.le_of_eq (congrArg Array.size (rfl : T_2.heap = _).symm))) X_4 hSq_4 hgq_4 hZr_2 hownr_2
 obtain ⟨rfl, Nq_4, K_4⟩ := hQ_4
 have N_4 := Fr.app N_2 Nq_4
 refine own_tr st_4 ?_
 show own_Go _ _ _ _ (T_4.setTop (mkF m 116 #[iv p1, rv r, iv ngv, .val (.long q), .second, s5, s6, iv (own_size p1), iv (own_len p1)] [(.int 1)]))
 refine o_ifNo Xr_4 Hq at_116 (by decide) (o_aloadN Xr_4 Hq at_119 rfl rfl (o_iconst Xr_4 Hq 2 at_120 rfl (o_lloadN Xr_4 Hq at_121 rfl (o_iloadN Xr_4 Hq at_122 rfl (o_iload Xr_4 Hq at_123 rfl (o_iload Xr_4 Hq at_125 rfl ?_))))))
 have Fa_14 := (Fa_5.keep K_4)
 have Fa_15 := (Fa_6.keep K_4 nin0)
 have Fa_16 := (Fa_7.keep K_4 nin0)
 have Fa_17 := (Fa_8.keep K_4 nin0)
 have Fa_18 := (own_Sta_keep Fa_9 K_4 ns0)
 have Fa_19 := (own_Sta_keep Fa_10 K_4 ns0)
 have Zs_20 : n0 ≤ T_4.heap.size := (Nat.le_trans Zs_11 K_4.1)
 have Ks_21 := (Nat.le_refl T_4.heap.size)
 obtain ⟨_, _, ⟨T_13, L_13, k_13, n_13⟩, -, X_13, hSq_13, hgq_13, ⟨Lc_13, hQ_13, l_13, y_13, z_13, hCq_13⟩, st_13⟩ := callSS Xr_4 hx (y := y0_) hownr_4 (v_ hZr_4 hw 153 rfl) (v_ hZr_4 hw 154 rfl) (v_ hZr_4 hw 149 rfl) (v_ hZr_4 hw 155 rfl) (by decide) (backOfSH (W := 0) (rm29 l Z a0 hw [] r (2 : Int32) q ngv (own_size p1) (own_len p1) tt kt (own_len p1) (own_LI (own_ft p1) (own_len p1)) (.int (0 : Int32)) w sfv (own_F p1) T_4.heap n0 Zs_20 Fa_14 Fa_15 Fa_16 Fa_17 Fa_18 hw0 (own_Fat _ _) (own_Fb _) Fa_19 hsf (own_ATk hqq hg0 hg1 (by decide))) hZr_4 (w_ hw 155 rfl) (w_ hw 149 rfl) (by decide) (by decide) hEL hCq_4.1) (g := (mkF m 127 #[iv p1, rv r, iv ngv, .val (.long q), .second, s5, s6, iv (own_size p1), iv (own_len p1)] [(.int (own_len p1)), (.int (own_size p1)), (.int ngv), (.long q), (.int 2), (.ref r)])) rfl (by rw [hml]; rfl) (argsL := [(.ref r), (.int 2), (.long q), (.int ngv), (.int (own_size p1)), (.int (own_len p1))]) (rest := []) (lenOf pd_29 rfl) rfl (z_ rfl) (hb hby at_127) (fun _ _ => ⟨rfl, rfl, (by decide : 11 + 2 ≤ _), (by decide : 159 + 28 ≤ _)⟩)
 dsimp only [Pt.U, Pt.locs, Pt.cells, Pt.slots] at X_13 l_13 y_13 z_13 st_13 hQ_13 hSq_13 hgq_13 hCq_13
 subst l_13 y_13 z_13
 obtain ⟨Xr_13, hSr_13, hZr_13, hownr_13⟩ := rebS hSr_4 (Nat.le_trans Ks_21 (Nat.le_of_eq (congrArg Array.size (rfl : T_4.heap = _).symm))) X_13 hSq_13 hgq_13 hZr_4 hownr_4
 obtain ⟨rfl, Nq_13, K_13⟩ := hQ_13
 have N_13 := Fr.app N_4 Nq_13
 refine own_tr st_13 ?_
 show own_Go _ _ _ _ (T_13.setTop (mkF m 130 #[iv p1, rv r, iv ngv, .val (.long q), .second, s5, s6, iv (own_size p1), iv (own_len p1)] [(.int 1)]))
 refine o_ifNo Xr_13 Hq at_130 (by decide) (o_aloadN Xr_13 Hq at_133 rfl rfl (o_iconst Xr_13 Hq 3 at_134 rfl (o_lloadN Xr_13 Hq at_135 rfl (o_iloadN Xr_13 Hq at_136 rfl (o_iload Xr_13 Hq at_137 rfl (o_iload Xr_13 Hq at_139 rfl ?_))))))
 have Fa_23 := (Fa_14.keep K_13)
 have Fa_24 := (Fa_15.keep K_13 nin0)
 have Fa_25 := (Fa_16.keep K_13 nin0)
 have Fa_26 := (Fa_17.keep K_13 nin0)
 have Fa_27 := (own_Sta_keep Fa_18 K_13 ns0)
 have Fa_28 := (own_Sta_keep Fa_19 K_13 ns0)
 have Zs_29 : n0 ≤ T_13.heap.size := (Nat.le_trans Zs_20 K_13.1)
 have Ks_30 := (Nat.le_refl T_13.heap.size)
 obtain ⟨_, _, ⟨T_22, L_22, k_22, n_22⟩, -, X_22, hSq_22, hgq_22, ⟨Lc_22, hQ_22, l_22, y_22, z_22, hCq_22⟩, st_22⟩ := callSS Xr_13 hx (y := y0_) hownr_13 (v_ hZr_13 hw 153 rfl) (v_ hZr_13 hw 154 rfl) (v_ hZr_13 hw 149 rfl) (v_ hZr_13 hw 155 rfl) (by decide) (backOfSH (W := 0) (rm29 l Z a0 hw [] r (3 : Int32) q ngv (own_size p1) (own_len p1) tt kt (own_len p1) (own_LI (own_ft p1) (own_len p1)) (.int (0 : Int32)) w sfv (own_F p1) T_13.heap n0 Zs_29 Fa_23 Fa_24 Fa_25 Fa_26 Fa_27 hw0 (own_Fat _ _) (own_Fb _) Fa_28 hsf (own_ATk hqq hg0 hg1 (by decide))) hZr_13 (w_ hw 155 rfl) (w_ hw 149 rfl) (by decide) (by decide) hEL hCq_13.1) (g := (mkF m 141 #[iv p1, rv r, iv ngv, .val (.long q), .second, s5, s6, iv (own_size p1), iv (own_len p1)] [(.int (own_len p1)), (.int (own_size p1)), (.int ngv), (.long q), (.int 3), (.ref r)])) rfl (by rw [hml]; rfl) (argsL := [(.ref r), (.int 3), (.long q), (.int ngv), (.int (own_size p1)), (.int (own_len p1))]) (rest := []) (lenOf pd_29 rfl) rfl (z_ rfl) (hb hby at_141) (fun _ _ => ⟨rfl, rfl, (by decide : 13 + 2 ≤ _), (by decide : 187 + 28 ≤ _)⟩)
 dsimp only [Pt.U, Pt.locs, Pt.cells, Pt.slots] at X_22 l_22 y_22 z_22 st_22 hQ_22 hSq_22 hgq_22 hCq_22
 subst l_22 y_22 z_22
 obtain ⟨Xr_22, hSr_22, hZr_22, hownr_22⟩ := rebS hSr_13 (Nat.le_trans Ks_30 (Nat.le_of_eq (congrArg Array.size (rfl : T_13.heap = _).symm))) X_22 hSq_22 hgq_22 hZr_13 hownr_13
 obtain ⟨rfl, Nq_22, K_22⟩ := hQ_22
 have N_22 := Fr.app N_13 Nq_22
 refine own_tr st_22 ?_
 show own_Go _ _ _ _ (T_22.setTop (mkF m 144 #[iv p1, rv r, iv ngv, .val (.long q), .second, s5, s6, iv (own_size p1), iv (own_len p1)] [(.int 1)]))
 refine o_ifNo Xr_22 Hq at_144 (by decide) (o_aloadN Xr_22 Hq at_147 rfl rfl (o_iconst Xr_22 Hq 4 at_148 rfl (o_lloadN Xr_22 Hq at_149 rfl (o_iloadN Xr_22 Hq at_150 rfl (o_iload Xr_22 Hq at_151 rfl (o_iload Xr_22 Hq at_153 rfl ?_))))))
 have Fa_32 := (Fa_23.keep K_22)
 have Fa_33 := (Fa_24.keep K_22 nin0)
 have Fa_34 := (Fa_25.keep K_22 nin0)
 have Fa_35 := (Fa_26.keep K_22 nin0)
 have Fa_36 := (own_Sta_keep Fa_27 K_22 ns0)
 have Fa_37 := (own_Sta_keep Fa_28 K_22 ns0)
 have Zs_38 : n0 ≤ T_22.heap.size := (Nat.le_trans Zs_29 K_22.1)
 have Ks_39 := (Nat.le_refl T_22.heap.size)
 obtain ⟨_, _, ⟨T_31, L_31, k_31, n_31⟩, -, X_31, hSq_31, hgq_31, ⟨Lc_31, hQ_31, l_31, y_31, z_31, hCq_31⟩, st_31⟩ := callSS Xr_22 hx (y := y0_) hownr_22 (v_ hZr_22 hw 153 rfl) (v_ hZr_22 hw 154 rfl) (v_ hZr_22 hw 149 rfl) (v_ hZr_22 hw 155 rfl) (by decide) (backOfSH (W := 0) (rm29 l Z a0 hw [] r (4 : Int32) q ngv (own_size p1) (own_len p1) tt kt (own_len p1) (own_LI (own_ft p1) (own_len p1)) (.int (0 : Int32)) w sfv (own_F p1) T_22.heap n0 Zs_38 Fa_32 Fa_33 Fa_34 Fa_35 Fa_36 hw0 (own_Fat _ _) (own_Fb _) Fa_37 hsf (own_ATk hqq hg0 hg1 (by decide))) hZr_22 (w_ hw 155 rfl) (w_ hw 149 rfl) (by decide) (by decide) hEL hCq_22.1) (g := (mkF m 155 #[iv p1, rv r, iv ngv, .val (.long q), .second, s5, s6, iv (own_size p1), iv (own_len p1)] [(.int (own_len p1)), (.int (own_size p1)), (.int ngv), (.long q), (.int 4), (.ref r)])) rfl (by rw [hml]; rfl) (argsL := [(.ref r), (.int 4), (.long q), (.int ngv), (.int (own_size p1)), (.int (own_len p1))]) (rest := []) (lenOf pd_29 rfl) rfl (z_ rfl) (hb hby at_155) (fun _ _ => ⟨rfl, rfl, (by decide : 15 + 2 ≤ _), (by decide : 215 + 28 ≤ _)⟩)
 dsimp only [Pt.U, Pt.locs, Pt.cells, Pt.slots] at X_31 l_31 y_31 z_31 st_31 hQ_31 hSq_31 hgq_31 hCq_31
 subst l_31 y_31 z_31
 obtain ⟨Xr_31, hSr_31, hZr_31, hownr_31⟩ := rebS hSr_22 (Nat.le_trans Ks_39 (Nat.le_of_eq (congrArg Array.size (rfl : T_22.heap = _).symm))) X_31 hSq_31 hgq_31 hZr_22 hownr_22
 obtain ⟨rfl, Nq_31, K_31⟩ := hQ_31
 have N_31 := Fr.app N_22 Nq_31
 refine own_tr st_31 ?_
 show own_Go _ _ _ _ (T_31.setTop (mkF m 158 #[iv p1, rv r, iv ngv, .val (.long q), .second, s5, s6, iv (own_size p1), iv (own_len p1)] [(.int 1)]))
 refine o_ifNo Xr_31 Hq at_158 (by decide) (o_aloadN Xr_31 Hq at_161 rfl rfl (o_iconst Xr_31 Hq 5 at_162 rfl (o_lloadN Xr_31 Hq at_163 rfl (o_iloadN Xr_31 Hq at_164 rfl (o_iload Xr_31 Hq at_165 rfl (o_iload Xr_31 Hq at_167 rfl ?_))))))
 have Fa_41 := (Fa_32.keep K_31)
 have Fa_42 := (Fa_33.keep K_31 nin0)
 have Fa_43 := (Fa_34.keep K_31 nin0)
 have Fa_44 := (Fa_35.keep K_31 nin0)
 have Fa_45 := (own_Sta_keep Fa_36 K_31 ns0)
 have Fa_46 := (own_Sta_keep Fa_37 K_31 ns0)
 have Zs_47 : n0 ≤ T_31.heap.size := (Nat.le_trans Zs_38 K_31.1)
 have Ks_48 := (Nat.le_refl T_31.heap.size)
 obtain ⟨_, _, ⟨T_40, L_40, k_40, n_40⟩, -, X_40, hSq_40, hgq_40, ⟨Lc_40, hQ_40, l_40, y_40, z_40, hCq_40⟩, st_40⟩ := callSS Xr_31 hx (y := y0_) hownr_31 (v_ hZr_31 hw 153 rfl) (v_ hZr_31 hw 154 rfl) (v_ hZr_31 hw 149 rfl) (v_ hZr_31 hw 155 rfl) (by decide) (backOfSH (W := 0) (rm29 l Z a0 hw [] r (5 : Int32) q ngv (own_size p1) (own_len p1) tt kt (own_len p1) (own_LI (own_ft p1) (own_len p1)) (.int (0 : Int32)) w sfv (own_F p1) T_31.heap n0 Zs_47 Fa_41 Fa_42 Fa_43 Fa_44 Fa_45 hw0 (own_Fat _ _) (own_Fb _) Fa_46 hsf (own_ATk hqq hg0 hg1 (by decide))) hZr_31 (w_ hw 155 rfl) (w_ hw 149 rfl) (by decide) (by decide) hEL hCq_31.1) (g := (mkF m 169 #[iv p1, rv r, iv ngv, .val (.long q), .second, s5, s6, iv (own_size p1), iv (own_len p1)] [(.int (own_len p1)), (.int (own_size p1)), (.int ngv), (.long q), (.int 5), (.ref r)])) rfl (by rw [hml]; rfl) (argsL := [(.ref r), (.int 5), (.long q), (.int ngv), (.int (own_size p1)), (.int (own_len p1))]) (rest := []) (lenOf pd_29 rfl) rfl (z_ rfl) (hb hby at_169) (fun _ _ => ⟨rfl, rfl, (by decide : 17 + 2 ≤ _), (by decide : 243 + 28 ≤ _)⟩)
 dsimp only [Pt.U, Pt.locs, Pt.cells, Pt.slots] at X_40 l_40 y_40 z_40 st_40 hQ_40 hSq_40 hgq_40 hCq_40
 subst l_40 y_40 z_40
 obtain ⟨Xr_40, hSr_40, hZr_40, hownr_40⟩ := rebS hSr_31 (Nat.le_trans Ks_48 (Nat.le_of_eq (congrArg Array.size (rfl : T_31.heap = _).symm))) X_40 hSq_40 hgq_40 hZr_31 hownr_31
 obtain ⟨rfl, Nq_40, K_40⟩ := hQ_40
 have N_40 := Fr.app N_31 Nq_40
 refine own_tr st_40 ?_
 show own_Go _ _ _ _ (T_40.setTop (mkF m 172 #[iv p1, rv r, iv ngv, .val (.long q), .second, s5, s6, iv (own_size p1), iv (own_len p1)] [(.int 1)]))
 refine o_ifNo Xr_40 Hq at_172 (by decide) (o_aloadN Xr_40 Hq at_175 rfl rfl (o_bipush Xr_40 Hq 6 at_176 rfl (o_lloadN Xr_40 Hq at_178 rfl (o_iloadN Xr_40 Hq at_179 rfl (o_iload Xr_40 Hq at_180 rfl (o_iload Xr_40 Hq at_182 rfl ?_))))))
 have Fa_50 := (Fa_41.keep K_40)
 have Fa_51 := (Fa_42.keep K_40 nin0)
 have Fa_52 := (Fa_43.keep K_40 nin0)
 have Fa_53 := (Fa_44.keep K_40 nin0)
 have Fa_54 := (own_Sta_keep Fa_45 K_40 ns0)
 have Fa_55 := (own_Sta_keep Fa_46 K_40 ns0)
 have Zs_56 : n0 ≤ T_40.heap.size := (Nat.le_trans Zs_47 K_40.1)
 have Ks_57 := (Nat.le_refl T_40.heap.size)
 obtain ⟨_, _, ⟨T_49, L_49, k_49, n_49⟩, -, X_49, hSq_49, hgq_49, ⟨Lc_49, hQ_49, l_49, y_49, z_49, hCq_49⟩, st_49⟩ := callSS Xr_40 hx (y := y0_) hownr_40 (v_ hZr_40 hw 153 rfl) (v_ hZr_40 hw 154 rfl) (v_ hZr_40 hw 149 rfl) (v_ hZr_40 hw 155 rfl) (by decide) (backOfSH (W := 0) (rm29 l Z a0 hw [] r (6 : Int32) q ngv (own_size p1) (own_len p1) tt kt (own_len p1) (own_LI (own_ft p1) (own_len p1)) (.int (0 : Int32)) w sfv (own_F p1) T_40.heap n0 Zs_56 Fa_50 Fa_51 Fa_52 Fa_53 Fa_54 hw0 (own_Fat _ _) (own_Fb _) Fa_55 hsf (own_ATk hqq hg0 hg1 (by decide))) hZr_40 (w_ hw 155 rfl) (w_ hw 149 rfl) (by decide) (by decide) hEL hCq_40.1) (g := (mkF m 184 #[iv p1, rv r, iv ngv, .val (.long q), .second, s5, s6, iv (own_size p1), iv (own_len p1)] [(.int (own_len p1)), (.int (own_size p1)), (.int ngv), (.long q), (.int 6), (.ref r)])) rfl (by rw [hml]; rfl) (argsL := [(.ref r), (.int 6), (.long q), (.int ngv), (.int (own_size p1)), (.int (own_len p1))]) (rest := []) (lenOf pd_29 rfl) rfl (z_ rfl) (hb hby at_184) (fun _ _ => ⟨rfl, rfl, (by decide : 19 + 2 ≤ _), (by decide : 271 + 28 ≤ _)⟩)
 dsimp only [Pt.U, Pt.locs, Pt.cells, Pt.slots] at X_49 l_49 y_49 z_49 st_49 hQ_49 hSq_49 hgq_49 hCq_49
 subst l_49 y_49 z_49
 obtain ⟨Xr_49, hSr_49, hZr_49, hownr_49⟩ := rebS hSr_40 (Nat.le_trans Ks_57 (Nat.le_of_eq (congrArg Array.size (rfl : T_40.heap = _).symm))) X_49 hSq_49 hgq_49 hZr_40 hownr_40
 obtain ⟨rfl, Nq_49, K_49⟩ := hQ_49
 have N_49 := Fr.app N_40 Nq_49
 refine own_tr st_49 ?_
 show own_Go _ _ _ _ (T_49.setTop (mkF m 187 #[iv p1, rv r, iv ngv, .val (.long q), .second, s5, s6, iv (own_size p1), iv (own_len p1)] [(.int 1)]))
 refine o_ifNo Xr_49 Hq at_187 (by decide) (o_aloadN Xr_49 Hq at_190 rfl rfl (o_bipush Xr_49 Hq 7 at_191 rfl (o_lloadN Xr_49 Hq at_193 rfl (o_iloadN Xr_49 Hq at_194 rfl (o_iload Xr_49 Hq at_195 rfl (o_iload Xr_49 Hq at_197 rfl ?_))))))
 have Fa_59 := (Fa_50.keep K_49)
 have Fa_60 := (Fa_51.keep K_49 nin0)
 have Fa_61 := (Fa_52.keep K_49 nin0)
 have Fa_62 := (Fa_53.keep K_49 nin0)
 have Fa_63 := (own_Sta_keep Fa_54 K_49 ns0)
 have Fa_64 := (own_Sta_keep Fa_55 K_49 ns0)
 have Zs_65 : n0 ≤ T_49.heap.size := (Nat.le_trans Zs_56 K_49.1)
 have Ks_66 := (Nat.le_refl T_49.heap.size)
 obtain ⟨_, _, ⟨T_58, L_58, k_58, n_58⟩, -, X_58, hSq_58, hgq_58, ⟨Lc_58, hQ_58, l_58, y_58, z_58, hCq_58⟩, st_58⟩ := callSS Xr_49 hx (y := y0_) hownr_49 (v_ hZr_49 hw 153 rfl) (v_ hZr_49 hw 154 rfl) (v_ hZr_49 hw 149 rfl) (v_ hZr_49 hw 155 rfl) (by decide) (backOfSH (W := 0) (rm29 l Z a0 hw [] r (7 : Int32) q ngv (own_size p1) (own_len p1) tt kt (own_len p1) (own_LI (own_ft p1) (own_len p1)) (.int (0 : Int32)) w sfv (own_F p1) T_49.heap n0 Zs_65 Fa_59 Fa_60 Fa_61 Fa_62 Fa_63 hw0 (own_Fat _ _) (own_Fb _) Fa_64 hsf (own_ATk hqq hg0 hg1 (by decide))) hZr_49 (w_ hw 155 rfl) (w_ hw 149 rfl) (by decide) (by decide) hEL hCq_49.1) (g := (mkF m 199 #[iv p1, rv r, iv ngv, .val (.long q), .second, s5, s6, iv (own_size p1), iv (own_len p1)] [(.int (own_len p1)), (.int (own_size p1)), (.int ngv), (.long q), (.int 7), (.ref r)])) rfl (by rw [hml]; rfl) (argsL := [(.ref r), (.int 7), (.long q), (.int ngv), (.int (own_size p1)), (.int (own_len p1))]) (rest := []) (lenOf pd_29 rfl) rfl (z_ rfl) (hb hby at_199) (fun _ _ => ⟨rfl, rfl, (by decide : 21 + 2 ≤ _), (by decide : 299 + 28 ≤ _)⟩)
 dsimp only [Pt.U, Pt.locs, Pt.cells, Pt.slots] at X_58 l_58 y_58 z_58 st_58 hQ_58 hSq_58 hgq_58 hCq_58
 subst l_58 y_58 z_58
 obtain ⟨Xr_58, hSr_58, hZr_58, hownr_58⟩ := rebS hSr_49 (Nat.le_trans Ks_66 (Nat.le_of_eq (congrArg Array.size (rfl : T_49.heap = _).symm))) X_58 hSq_58 hgq_58 hZr_49 hownr_49
 obtain ⟨rfl, Nq_58, K_58⟩ := hQ_58
 have N_58 := Fr.app N_49 Nq_58
 refine own_tr st_58 ?_
 show own_Go _ _ _ _ (T_58.setTop (mkF m 202 #[iv p1, rv r, iv ngv, .val (.long q), .second, s5, s6, iv (own_size p1), iv (own_len p1)] [(.int 1)]))
 refine o_ifNo Xr_58 Hq at_202 (by decide) (o_aloadN Xr_58 Hq at_205 rfl rfl (o_bipush Xr_58 Hq 8 at_206 rfl (o_lloadN Xr_58 Hq at_208 rfl (o_iloadN Xr_58 Hq at_209 rfl (o_iload Xr_58 Hq at_210 rfl (o_iload Xr_58 Hq at_212 rfl ?_))))))
 have Fa_68 := (Fa_59.keep K_58)
 have Fa_69 := (Fa_60.keep K_58 nin0)
 have Fa_70 := (Fa_61.keep K_58 nin0)
 have Fa_71 := (Fa_62.keep K_58 nin0)
 have Fa_72 := (own_Sta_keep Fa_63 K_58 ns0)
 have Fa_73 := (own_Sta_keep Fa_64 K_58 ns0)
 have Zs_74 : n0 ≤ T_58.heap.size := (Nat.le_trans Zs_65 K_58.1)
 have Ks_75 := (Nat.le_refl T_58.heap.size)
 obtain ⟨_, _, ⟨T_67, L_67, k_67, n_67⟩, -, X_67, hSq_67, hgq_67, ⟨Lc_67, hQ_67, l_67, y_67, z_67, hCq_67⟩, st_67⟩ := callSS Xr_58 hx (y := y0_) hownr_58 (v_ hZr_58 hw 153 rfl) (v_ hZr_58 hw 154 rfl) (v_ hZr_58 hw 149 rfl) (v_ hZr_58 hw 155 rfl) (by decide) (backOfSH (W := 0) (rm29 l Z a0 hw [] r (8 : Int32) q ngv (own_size p1) (own_len p1) tt kt (own_len p1) (own_LI (own_ft p1) (own_len p1)) (.int (0 : Int32)) w sfv (own_F p1) T_58.heap n0 Zs_74 Fa_68 Fa_69 Fa_70 Fa_71 Fa_72 hw0 (own_Fat _ _) (own_Fb _) Fa_73 hsf (own_ATk hqq hg0 hg1 (by decide))) hZr_58 (w_ hw 155 rfl) (w_ hw 149 rfl) (by decide) (by decide) hEL hCq_58.1) (g := (mkF m 214 #[iv p1, rv r, iv ngv, .val (.long q), .second, s5, s6, iv (own_size p1), iv (own_len p1)] [(.int (own_len p1)), (.int (own_size p1)), (.int ngv), (.long q), (.int 8), (.ref r)])) rfl (by rw [hml]; rfl) (argsL := [(.ref r), (.int 8), (.long q), (.int ngv), (.int (own_size p1)), (.int (own_len p1))]) (rest := []) (lenOf pd_29 rfl) rfl (z_ rfl) (hb hby at_214) (fun _ _ => ⟨rfl, rfl, (by decide : 23 + 2 ≤ _), (by decide : 327 + 28 ≤ _)⟩)
 dsimp only [Pt.U, Pt.locs, Pt.cells, Pt.slots] at X_67 l_67 y_67 z_67 st_67 hQ_67 hSq_67 hgq_67 hCq_67
 subst l_67 y_67 z_67
 obtain ⟨Xr_67, hSr_67, hZr_67, hownr_67⟩ := rebS hSr_58 (Nat.le_trans Ks_75 (Nat.le_of_eq (congrArg Array.size (rfl : T_58.heap = _).symm))) X_67 hSq_67 hgq_67 hZr_58 hownr_58
 obtain ⟨rfl, Nq_67, K_67⟩ := hQ_67
 have N_67 := Fr.app N_58 Nq_67
 refine own_tr st_67 ?_
 show own_Go _ _ _ _ (T_67.setTop (mkF m 217 #[iv p1, rv r, iv ngv, .val (.long q), .second, s5, s6, iv (own_size p1), iv (own_len p1)] [(.int 1)]))
 refine o_ifNo Xr_67 Hq at_217 (by decide) (o_aloadN Xr_67 Hq at_220 rfl rfl (o_bipush Xr_67 Hq 9 at_221 rfl (o_lloadN Xr_67 Hq at_223 rfl (o_iloadN Xr_67 Hq at_224 rfl (o_iload Xr_67 Hq at_225 rfl (o_iload Xr_67 Hq at_227 rfl ?_))))))
 have Fa_77 := (Fa_68.keep K_67)
 have Fa_78 := (Fa_69.keep K_67 nin0)
 have Fa_79 := (Fa_70.keep K_67 nin0)
 have Fa_80 := (Fa_71.keep K_67 nin0)
 have Fa_81 := (own_Sta_keep Fa_72 K_67 ns0)
 have Fa_82 := (own_Sta_keep Fa_73 K_67 ns0)
 have Zs_83 : n0 ≤ T_67.heap.size := (Nat.le_trans Zs_74 K_67.1)
 have Ks_84 := (Nat.le_refl T_67.heap.size)
 obtain ⟨_, _, ⟨T_76, L_76, k_76, n_76⟩, -, X_76, hSq_76, hgq_76, ⟨Lc_76, hQ_76, l_76, y_76, z_76, hCq_76⟩, st_76⟩ := callSS Xr_67 hx (y := y0_) hownr_67 (v_ hZr_67 hw 153 rfl) (v_ hZr_67 hw 154 rfl) (v_ hZr_67 hw 149 rfl) (v_ hZr_67 hw 155 rfl) (by decide) (backOfSH (W := 0) (rm29 l Z a0 hw [] r (9 : Int32) q ngv (own_size p1) (own_len p1) tt kt (own_len p1) (own_LI (own_ft p1) (own_len p1)) (.int (0 : Int32)) w sfv (own_F p1) T_67.heap n0 Zs_83 Fa_77 Fa_78 Fa_79 Fa_80 Fa_81 hw0 (own_Fat _ _) (own_Fb _) Fa_82 hsf (own_ATk hqq hg0 hg1 (by decide))) hZr_67 (w_ hw 155 rfl) (w_ hw 149 rfl) (by decide) (by decide) hEL hCq_67.1) (g := (mkF m 229 #[iv p1, rv r, iv ngv, .val (.long q), .second, s5, s6, iv (own_size p1), iv (own_len p1)] [(.int (own_len p1)), (.int (own_size p1)), (.int ngv), (.long q), (.int 9), (.ref r)])) rfl (by rw [hml]; rfl) (argsL := [(.ref r), (.int 9), (.long q), (.int ngv), (.int (own_size p1)), (.int (own_len p1))]) (rest := []) (lenOf pd_29 rfl) rfl (z_ rfl) (hb hby at_229) (fun _ _ => ⟨rfl, rfl, (by decide : 25 + 2 ≤ _), (by decide : 355 + 28 ≤ _)⟩)
 dsimp only [Pt.U, Pt.locs, Pt.cells, Pt.slots] at X_76 l_76 y_76 z_76 st_76 hQ_76 hSq_76 hgq_76 hCq_76
 subst l_76 y_76 z_76
 obtain ⟨Xr_76, hSr_76, hZr_76, hownr_76⟩ := rebS hSr_67 (Nat.le_trans Ks_84 (Nat.le_of_eq (congrArg Array.size (rfl : T_67.heap = _).symm))) X_76 hSq_76 hgq_76 hZr_67 hownr_67
 obtain ⟨rfl, Nq_76, K_76⟩ := hQ_76
 have N_76 := Fr.app N_67 Nq_76
 refine own_tr st_76 ?_
 show own_Go _ _ _ _ (T_76.setTop (mkF m 232 #[iv p1, rv r, iv ngv, .val (.long q), .second, s5, s6, iv (own_size p1), iv (own_len p1)] [(.int 1)]))
 refine o_ifNo Xr_76 Hq at_232 (by decide) (o_aloadN Xr_76 Hq at_235 rfl rfl (o_bipush Xr_76 Hq 10 at_236 rfl (o_lloadN Xr_76 Hq at_238 rfl (o_iloadN Xr_76 Hq at_239 rfl (o_iload Xr_76 Hq at_240 rfl (o_iload Xr_76 Hq at_242 rfl ?_))))))
 have Fa_86 := (Fa_77.keep K_76)
 have Fa_87 := (Fa_78.keep K_76 nin0)
 have Fa_88 := (Fa_79.keep K_76 nin0)
 have Fa_89 := (Fa_80.keep K_76 nin0)
 have Fa_90 := (own_Sta_keep Fa_81 K_76 ns0)
 have Fa_91 := (own_Sta_keep Fa_82 K_76 ns0)
 have Zs_92 : n0 ≤ T_76.heap.size := (Nat.le_trans Zs_83 K_76.1)
 have Ks_93 := (Nat.le_refl T_76.heap.size)
 obtain ⟨_, _, ⟨T_85, L_85, k_85, n_85⟩, -, X_85, hSq_85, hgq_85, ⟨Lc_85, hQ_85, l_85, y_85, z_85, hCq_85⟩, st_85⟩ := callSS Xr_76 hx (y := y0_) hownr_76 (v_ hZr_76 hw 153 rfl) (v_ hZr_76 hw 154 rfl) (v_ hZr_76 hw 149 rfl) (v_ hZr_76 hw 155 rfl) (by decide) (backOfSH (W := 0) (rm29 l Z a0 hw [] r (10 : Int32) q ngv (own_size p1) (own_len p1) tt kt (own_len p1) (own_LI (own_ft p1) (own_len p1)) (.int (0 : Int32)) w sfv (own_F p1) T_76.heap n0 Zs_92 Fa_86 Fa_87 Fa_88 Fa_89 Fa_90 hw0 (own_Fat _ _) (own_Fb _) Fa_91 hsf (own_ATk hqq hg0 hg1 (by decide))) hZr_76 (w_ hw 155 rfl) (w_ hw 149 rfl) (by decide) (by decide) hEL hCq_76.1) (g := (mkF m 244 #[iv p1, rv r, iv ngv, .val (.long q), .second, s5, s6, iv (own_size p1), iv (own_len p1)] [(.int (own_len p1)), (.int (own_size p1)), (.int ngv), (.long q), (.int 10), (.ref r)])) rfl (by rw [hml]; rfl) (argsL := [(.ref r), (.int 10), (.long q), (.int ngv), (.int (own_size p1)), (.int (own_len p1))]) (rest := []) (lenOf pd_29 rfl) rfl (z_ rfl) (hb hby at_244) (fun _ _ => ⟨rfl, rfl, (by decide : 27 + 2 ≤ _), (by decide : 383 + 28 ≤ _)⟩)
 dsimp only [Pt.U, Pt.locs, Pt.cells, Pt.slots] at X_85 l_85 y_85 z_85 st_85 hQ_85 hSq_85 hgq_85 hCq_85
 subst l_85 y_85 z_85
 obtain ⟨Xr_85, hSr_85, hZr_85, hownr_85⟩ := rebS hSr_76 (Nat.le_trans Ks_93 (Nat.le_of_eq (congrArg Array.size (rfl : T_76.heap = _).symm))) X_85 hSq_85 hgq_85 hZr_76 hownr_76
 obtain ⟨rfl, Nq_85, K_85⟩ := hQ_85
 have N_85 := Fr.app N_76 Nq_85
 refine own_tr st_85 ?_
 show own_Go _ _ _ _ (T_85.setTop (mkF m 247 #[iv p1, rv r, iv ngv, .val (.long q), .second, s5, s6, iv (own_size p1), iv (own_len p1)] [(.int 1)]))
 refine o_ifNo Xr_85 Hq at_247 (by decide) (o_aloadN Xr_85 Hq at_250 rfl rfl (o_bipush Xr_85 Hq 11 at_251 rfl (o_lloadN Xr_85 Hq at_253 rfl (o_iloadN Xr_85 Hq at_254 rfl (o_iload Xr_85 Hq at_255 rfl (o_iload Xr_85 Hq at_257 rfl ?_))))))
 have Fa_95 := (Fa_86.keep K_85)
 have Fa_96 := (Fa_87.keep K_85 nin0)
 have Fa_97 := (Fa_88.keep K_85 nin0)
 have Fa_98 := (Fa_89.keep K_85 nin0)
 have Fa_99 := (own_Sta_keep Fa_90 K_85 ns0)
 have Fa_100 := (own_Sta_keep Fa_91 K_85 ns0)
 have Zs_101 : n0 ≤ T_85.heap.size := (Nat.le_trans Zs_92 K_85.1)
 have Ks_102 := (Nat.le_refl T_85.heap.size)
 obtain ⟨_, _, ⟨T_94, L_94, k_94, n_94⟩, -, X_94, hSq_94, hgq_94, ⟨Lc_94, hQ_94, l_94, y_94, z_94, hCq_94⟩, st_94⟩ := callSS Xr_85 hx (y := y0_) hownr_85 (v_ hZr_85 hw 153 rfl) (v_ hZr_85 hw 154 rfl) (v_ hZr_85 hw 149 rfl) (v_ hZr_85 hw 155 rfl) (by decide) (backOfSH (W := 0) (rm29 l Z a0 hw [] r (11 : Int32) q ngv (own_size p1) (own_len p1) tt kt (own_len p1) (own_LI (own_ft p1) (own_len p1)) (.int (0 : Int32)) w sfv (own_F p1) T_85.heap n0 Zs_101 Fa_95 Fa_96 Fa_97 Fa_98 Fa_99 hw0 (own_Fat _ _) (own_Fb _) Fa_100 hsf (own_ATk hqq hg0 hg1 (by decide))) hZr_85 (w_ hw 155 rfl) (w_ hw 149 rfl) (by decide) (by decide) hEL hCq_85.1) (g := (mkF m 259 #[iv p1, rv r, iv ngv, .val (.long q), .second, s5, s6, iv (own_size p1), iv (own_len p1)] [(.int (own_len p1)), (.int (own_size p1)), (.int ngv), (.long q), (.int 11), (.ref r)])) rfl (by rw [hml]; rfl) (argsL := [(.ref r), (.int 11), (.long q), (.int ngv), (.int (own_size p1)), (.int (own_len p1))]) (rest := []) (lenOf pd_29 rfl) rfl (z_ rfl) (hb hby at_259) (fun _ _ => ⟨rfl, rfl, (by decide : 29 + 2 ≤ _), (by decide : 411 + 28 ≤ _)⟩)
 dsimp only [Pt.U, Pt.locs, Pt.cells, Pt.slots] at X_94 l_94 y_94 z_94 st_94 hQ_94 hSq_94 hgq_94 hCq_94
 subst l_94 y_94 z_94
 obtain ⟨Xr_94, hSr_94, hZr_94, hownr_94⟩ := rebS hSr_85 (Nat.le_trans Ks_102 (Nat.le_of_eq (congrArg Array.size (rfl : T_85.heap = _).symm))) X_94 hSq_94 hgq_94 hZr_85 hownr_85
 obtain ⟨rfl, Nq_94, K_94⟩ := hQ_94
 have N_94 := Fr.app N_85 Nq_94
 refine own_tr st_94 ?_
 show own_Go _ _ _ _ (T_94.setTop (mkF m 262 #[iv p1, rv r, iv ngv, .val (.long q), .second, s5, s6, iv (own_size p1), iv (own_len p1)] [(.int 1)]))
 refine o_ifNo Xr_94 Hq at_262 (by decide) (o_aloadN Xr_94 Hq at_265 rfl rfl (o_bipush Xr_94 Hq 12 at_266 rfl (o_lloadN Xr_94 Hq at_268 rfl (o_iloadN Xr_94 Hq at_269 rfl (o_iload Xr_94 Hq at_270 rfl (o_iload Xr_94 Hq at_272 rfl ?_))))))
 have Fa_104 := (Fa_95.keep K_94)
 have Fa_105 := (Fa_96.keep K_94 nin0)
 have Fa_106 := (Fa_97.keep K_94 nin0)
 have Fa_107 := (Fa_98.keep K_94 nin0)
 have Fa_108 := (own_Sta_keep Fa_99 K_94 ns0)
 have Fa_109 := (own_Sta_keep Fa_100 K_94 ns0)
 have Zs_110 : n0 ≤ T_94.heap.size := (Nat.le_trans Zs_101 K_94.1)
 have Ks_111 := (Nat.le_refl T_94.heap.size)
 obtain ⟨_, _, ⟨T_103, L_103, k_103, n_103⟩, -, X_103, hSq_103, hgq_103, ⟨Lc_103, hQ_103, l_103, y_103, z_103, hCq_103⟩, st_103⟩ := callSS Xr_94 hx (y := y0_) hownr_94 (v_ hZr_94 hw 153 rfl) (v_ hZr_94 hw 154 rfl) (v_ hZr_94 hw 149 rfl) (v_ hZr_94 hw 155 rfl) (by decide) (backOfSH (W := 0) (rm29 l Z a0 hw [] r (12 : Int32) q ngv (own_size p1) (own_len p1) tt kt (own_len p1) (own_LI (own_ft p1) (own_len p1)) (.int (0 : Int32)) w sfv (own_F p1) T_94.heap n0 Zs_110 Fa_104 Fa_105 Fa_106 Fa_107 Fa_108 hw0 (own_Fat _ _) (own_Fb _) Fa_109 hsf (own_ATk hqq hg0 hg1 (by decide))) hZr_94 (w_ hw 155 rfl) (w_ hw 149 rfl) (by decide) (by decide) hEL hCq_94.1) (g := (mkF m 274 #[iv p1, rv r, iv ngv, .val (.long q), .second, s5, s6, iv (own_size p1), iv (own_len p1)] [(.int (own_len p1)), (.int (own_size p1)), (.int ngv), (.long q), (.int 12), (.ref r)])) rfl (by rw [hml]; rfl) (argsL := [(.ref r), (.int 12), (.long q), (.int ngv), (.int (own_size p1)), (.int (own_len p1))]) (rest := []) (lenOf pd_29 rfl) rfl (z_ rfl) (hb hby at_274) (fun _ _ => ⟨rfl, rfl, (by decide : 31 + 2 ≤ _), (by decide : 439 + 28 ≤ _)⟩)
 dsimp only [Pt.U, Pt.locs, Pt.cells, Pt.slots] at X_103 l_103 y_103 z_103 st_103 hQ_103 hSq_103 hgq_103 hCq_103
 subst l_103 y_103 z_103
 obtain ⟨Xr_103, hSr_103, hZr_103, hownr_103⟩ := rebS hSr_94 (Nat.le_trans Ks_111 (Nat.le_of_eq (congrArg Array.size (rfl : T_94.heap = _).symm))) X_103 hSq_103 hgq_103 hZr_94 hownr_94
 obtain ⟨rfl, Nq_103, K_103⟩ := hQ_103
 have N_103 := Fr.app N_94 Nq_103
 refine own_tr st_103 ?_
 show own_Go _ _ _ _ (T_103.setTop (mkF m 277 #[iv p1, rv r, iv ngv, .val (.long q), .second, s5, s6, iv (own_size p1), iv (own_len p1)] [(.int 1)]))
 refine o_ifNo Xr_103 Hq at_277 (by decide) (o_aloadN Xr_103 Hq at_280 rfl rfl (o_bipush Xr_103 Hq 13 at_281 rfl (o_lloadN Xr_103 Hq at_283 rfl (o_iloadN Xr_103 Hq at_284 rfl (o_iload Xr_103 Hq at_285 rfl (o_iload Xr_103 Hq at_287 rfl ?_))))))
 have Fa_113 := (Fa_104.keep K_103)
 have Fa_114 := (Fa_105.keep K_103 nin0)
 have Fa_115 := (Fa_106.keep K_103 nin0)
 have Fa_116 := (Fa_107.keep K_103 nin0)
 have Fa_117 := (own_Sta_keep Fa_108 K_103 ns0)
 have Fa_118 := (own_Sta_keep Fa_109 K_103 ns0)
 have Zs_119 : n0 ≤ T_103.heap.size := (Nat.le_trans Zs_110 K_103.1)
 have Ks_120 := (Nat.le_refl T_103.heap.size)
 obtain ⟨_, _, ⟨T_112, L_112, k_112, n_112⟩, -, X_112, hSq_112, hgq_112, ⟨Lc_112, hQ_112, l_112, y_112, z_112, hCq_112⟩, st_112⟩ := callSS Xr_103 hx (y := y0_) hownr_103 (v_ hZr_103 hw 153 rfl) (v_ hZr_103 hw 154 rfl) (v_ hZr_103 hw 149 rfl) (v_ hZr_103 hw 155 rfl) (by decide) (backOfSH (W := 0) (rm29 l Z a0 hw [] r (13 : Int32) q ngv (own_size p1) (own_len p1) tt kt (own_len p1) (own_LI (own_ft p1) (own_len p1)) (.int (0 : Int32)) w sfv (own_F p1) T_103.heap n0 Zs_119 Fa_113 Fa_114 Fa_115 Fa_116 Fa_117 hw0 (own_Fat _ _) (own_Fb _) Fa_118 hsf (own_ATk hqq hg0 hg1 (by decide))) hZr_103 (w_ hw 155 rfl) (w_ hw 149 rfl) (by decide) (by decide) hEL hCq_103.1) (g := (mkF m 289 #[iv p1, rv r, iv ngv, .val (.long q), .second, s5, s6, iv (own_size p1), iv (own_len p1)] [(.int (own_len p1)), (.int (own_size p1)), (.int ngv), (.long q), (.int 13), (.ref r)])) rfl (by rw [hml]; rfl) (argsL := [(.ref r), (.int 13), (.long q), (.int ngv), (.int (own_size p1)), (.int (own_len p1))]) (rest := []) (lenOf pd_29 rfl) rfl (z_ rfl) (hb hby at_289) (fun _ _ => ⟨rfl, rfl, (by decide : 33 + 2 ≤ _), (by decide : 467 + 28 ≤ _)⟩)
 dsimp only [Pt.U, Pt.locs, Pt.cells, Pt.slots] at X_112 l_112 y_112 z_112 st_112 hQ_112 hSq_112 hgq_112 hCq_112
 subst l_112 y_112 z_112
 obtain ⟨Xr_112, hSr_112, hZr_112, hownr_112⟩ := rebS hSr_103 (Nat.le_trans Ks_120 (Nat.le_of_eq (congrArg Array.size (rfl : T_103.heap = _).symm))) X_112 hSq_112 hgq_112 hZr_103 hownr_103
 obtain ⟨rfl, Nq_112, K_112⟩ := hQ_112
 have N_112 := Fr.app N_103 Nq_112
 refine own_tr st_112 ?_
 show own_Go _ _ _ _ (T_112.setTop (mkF m 292 #[iv p1, rv r, iv ngv, .val (.long q), .second, s5, s6, iv (own_size p1), iv (own_len p1)] [(.int 1)]))
 refine o_ifNo Xr_112 Hq at_292 (by decide) (o_aloadN Xr_112 Hq at_295 rfl rfl (o_bipush Xr_112 Hq 14 at_296 rfl (o_lloadN Xr_112 Hq at_298 rfl (o_iloadN Xr_112 Hq at_299 rfl (o_iload Xr_112 Hq at_300 rfl (o_iload Xr_112 Hq at_302 rfl ?_))))))
 have Fa_122 := (Fa_113.keep K_112)
 have Fa_123 := (Fa_114.keep K_112 nin0)
 have Fa_124 := (Fa_115.keep K_112 nin0)
 have Fa_125 := (Fa_116.keep K_112 nin0)
 have Fa_126 := (own_Sta_keep Fa_117 K_112 ns0)
 have Fa_127 := (own_Sta_keep Fa_118 K_112 ns0)
 have Zs_128 : n0 ≤ T_112.heap.size := (Nat.le_trans Zs_119 K_112.1)
 have Ks_129 := (Nat.le_refl T_112.heap.size)
 obtain ⟨_, _, ⟨T_121, L_121, k_121, n_121⟩, -, X_121, hSq_121, hgq_121, ⟨Lc_121, hQ_121, l_121, y_121, z_121, hCq_121⟩, st_121⟩ := callSS Xr_112 hx (y := y0_) hownr_112 (v_ hZr_112 hw 153 rfl) (v_ hZr_112 hw 154 rfl) (v_ hZr_112 hw 149 rfl) (v_ hZr_112 hw 155 rfl) (by decide) (backOfSH (W := 0) (rm29 l Z a0 hw [] r (14 : Int32) q ngv (own_size p1) (own_len p1) tt kt (own_len p1) (own_LI (own_ft p1) (own_len p1)) (.int (0 : Int32)) w sfv (own_F p1) T_112.heap n0 Zs_128 Fa_122 Fa_123 Fa_124 Fa_125 Fa_126 hw0 (own_Fat _ _) (own_Fb _) Fa_127 hsf (own_ATk hqq hg0 hg1 (by decide))) hZr_112 (w_ hw 155 rfl) (w_ hw 149 rfl) (by decide) (by decide) hEL hCq_112.1) (g := (mkF m 304 #[iv p1, rv r, iv ngv, .val (.long q), .second, s5, s6, iv (own_size p1), iv (own_len p1)] [(.int (own_len p1)), (.int (own_size p1)), (.int ngv), (.long q), (.int 14), (.ref r)])) rfl (by rw [hml]; rfl) (argsL := [(.ref r), (.int 14), (.long q), (.int ngv), (.int (own_size p1)), (.int (own_len p1))]) (rest := []) (lenOf pd_29 rfl) rfl (z_ rfl) (hb hby at_304) (fun _ _ => ⟨rfl, rfl, (by decide : 35 + 2 ≤ _), (by decide : 495 + 28 ≤ _)⟩)
 dsimp only [Pt.U, Pt.locs, Pt.cells, Pt.slots] at X_121 l_121 y_121 z_121 st_121 hQ_121 hSq_121 hgq_121 hCq_121
 subst l_121 y_121 z_121
 obtain ⟨Xr_121, hSr_121, hZr_121, hownr_121⟩ := rebS hSr_112 (Nat.le_trans Ks_129 (Nat.le_of_eq (congrArg Array.size (rfl : T_112.heap = _).symm))) X_121 hSq_121 hgq_121 hZr_112 hownr_112
 obtain ⟨rfl, Nq_121, K_121⟩ := hQ_121
 have N_121 := Fr.app N_112 Nq_121
 refine own_tr st_121 ?_
 show own_Go _ _ _ _ (T_121.setTop (mkF m 307 #[iv p1, rv r, iv ngv, .val (.long q), .second, s5, s6, iv (own_size p1), iv (own_len p1)] [(.int 1)]))
 refine o_ifNo Xr_121 Hq at_307 (by decide) (o_aloadN Xr_121 Hq at_310 rfl rfl (o_bipush Xr_121 Hq 15 at_311 rfl (o_lloadN Xr_121 Hq at_313 rfl (o_iloadN Xr_121 Hq at_314 rfl (o_iload Xr_121 Hq at_315 rfl (o_iload Xr_121 Hq at_317 rfl ?_))))))
 have Fa_131 := (Fa_122.keep K_121)
 have Fa_132 := (Fa_123.keep K_121 nin0)
 have Fa_133 := (Fa_124.keep K_121 nin0)
 have Fa_134 := (Fa_125.keep K_121 nin0)
 have Fa_135 := (own_Sta_keep Fa_126 K_121 ns0)
 have Fa_136 := (own_Sta_keep Fa_127 K_121 ns0)
 have Zs_137 : n0 ≤ T_121.heap.size := (Nat.le_trans Zs_128 K_121.1)
 have Ks_138 := (Nat.le_refl T_121.heap.size)
 obtain ⟨_, _, ⟨T_130, L_130, k_130, n_130⟩, -, X_130, hSq_130, hgq_130, ⟨Lc_130, hQ_130, l_130, y_130, z_130, hCq_130⟩, st_130⟩ := callSS Xr_121 hx (y := y0_) hownr_121 (v_ hZr_121 hw 153 rfl) (v_ hZr_121 hw 154 rfl) (v_ hZr_121 hw 149 rfl) (v_ hZr_121 hw 155 rfl) (by decide) (backOfSH (W := 0) (rm29 l Z a0 hw [] r (15 : Int32) q ngv (own_size p1) (own_len p1) tt kt (own_len p1) (own_LI (own_ft p1) (own_len p1)) (.int (0 : Int32)) w sfv (own_F p1) T_121.heap n0 Zs_137 Fa_131 Fa_132 Fa_133 Fa_134 Fa_135 hw0 (own_Fat _ _) (own_Fb _) Fa_136 hsf (own_ATk hqq hg0 hg1 (by decide))) hZr_121 (w_ hw 155 rfl) (w_ hw 149 rfl) (by decide) (by decide) hEL hCq_121.1) (g := (mkF m 319 #[iv p1, rv r, iv ngv, .val (.long q), .second, s5, s6, iv (own_size p1), iv (own_len p1)] [(.int (own_len p1)), (.int (own_size p1)), (.int ngv), (.long q), (.int 15), (.ref r)])) rfl (by rw [hml]; rfl) (argsL := [(.ref r), (.int 15), (.long q), (.int ngv), (.int (own_size p1)), (.int (own_len p1))]) (rest := []) (lenOf pd_29 rfl) rfl (z_ rfl) (hb hby at_319) (fun _ _ => ⟨rfl, rfl, (by decide : 37 + 2 ≤ _), (by decide : 523 + 28 ≤ _)⟩)
 dsimp only [Pt.U, Pt.locs, Pt.cells, Pt.slots] at X_130 l_130 y_130 z_130 st_130 hQ_130 hSq_130 hgq_130 hCq_130
 subst l_130 y_130 z_130
 obtain ⟨Xr_130, hSr_130, hZr_130, hownr_130⟩ := rebS hSr_121 (Nat.le_trans Ks_138 (Nat.le_of_eq (congrArg Array.size (rfl : T_121.heap = _).symm))) X_130 hSq_130 hgq_130 hZr_121 hownr_121
 obtain ⟨rfl, Nq_130, K_130⟩ := hQ_130
 have N_130 := Fr.app N_121 Nq_130
 refine own_tr st_130 ?_
 show own_Go _ _ _ _ (T_130.setTop (mkF m 322 #[iv p1, rv r, iv ngv, .val (.long q), .second, s5, s6, iv (own_size p1), iv (own_len p1)] [(.int 1)]))
 refine o_ifNo Xr_130 Hq at_322 (by decide) (o_aloadN Xr_130 Hq at_325 rfl rfl (o_bipush Xr_130 Hq 16 at_326 rfl (o_lloadN Xr_130 Hq at_328 rfl (o_iloadN Xr_130 Hq at_329 rfl (o_iload Xr_130 Hq at_330 rfl (o_iload Xr_130 Hq at_332 rfl ?_))))))
 have Fa_140 := (Fa_131.keep K_130)
 have Fa_141 := (Fa_132.keep K_130 nin0)
 have Fa_142 := (Fa_133.keep K_130 nin0)
 have Fa_143 := (Fa_134.keep K_130 nin0)
 have Fa_144 := (own_Sta_keep Fa_135 K_130 ns0)
 have Fa_145 := (own_Sta_keep Fa_136 K_130 ns0)
 have Zs_146 : n0 ≤ T_130.heap.size := (Nat.le_trans Zs_137 K_130.1)
 have Ks_147 := (Nat.le_refl T_130.heap.size)
 obtain ⟨_, _, ⟨T_139, L_139, k_139, n_139⟩, -, X_139, hSq_139, hgq_139, ⟨Lc_139, hQ_139, l_139, y_139, z_139, hCq_139⟩, st_139⟩ := callSS Xr_130 hx (y := y0_) hownr_130 (v_ hZr_130 hw 153 rfl) (v_ hZr_130 hw 154 rfl) (v_ hZr_130 hw 149 rfl) (v_ hZr_130 hw 155 rfl) (by decide) (backOfSH (W := 0) (rm29 l Z a0 hw [] r (16 : Int32) q ngv (own_size p1) (own_len p1) tt kt (own_len p1) (own_LI (own_ft p1) (own_len p1)) (.int (0 : Int32)) w sfv (own_F p1) T_130.heap n0 Zs_146 Fa_140 Fa_141 Fa_142 Fa_143 Fa_144 hw0 (own_Fat _ _) (own_Fb _) Fa_145 hsf (own_ATk hqq hg0 hg1 (by decide))) hZr_130 (w_ hw 155 rfl) (w_ hw 149 rfl) (by decide) (by decide) hEL hCq_130.1) (g := (mkF m 334 #[iv p1, rv r, iv ngv, .val (.long q), .second, s5, s6, iv (own_size p1), iv (own_len p1)] [(.int (own_len p1)), (.int (own_size p1)), (.int ngv), (.long q), (.int 16), (.ref r)])) rfl (by rw [hml]; rfl) (argsL := [(.ref r), (.int 16), (.long q), (.int ngv), (.int (own_size p1)), (.int (own_len p1))]) (rest := []) (lenOf pd_29 rfl) rfl (z_ rfl) (hb hby at_334) (fun _ _ => ⟨rfl, rfl, (by decide : 39 + 2 ≤ _), (by decide : 551 + 28 ≤ _)⟩)
 dsimp only [Pt.U, Pt.locs, Pt.cells, Pt.slots] at X_139 l_139 y_139 z_139 st_139 hQ_139 hSq_139 hgq_139 hCq_139
 subst l_139 y_139 z_139
 obtain ⟨Xr_139, hSr_139, hZr_139, hownr_139⟩ := rebS hSr_130 (Nat.le_trans Ks_147 (Nat.le_of_eq (congrArg Array.size (rfl : T_130.heap = _).symm))) X_139 hSq_139 hgq_139 hZr_130 hownr_130
 obtain ⟨rfl, Nq_139, K_139⟩ := hQ_139
 have N_139 := Fr.app N_130 Nq_139
 refine own_tr st_139 ?_
 show own_Go _ _ _ _ (T_139.setTop (mkF m 337 #[iv p1, rv r, iv ngv, .val (.long q), .second, s5, s6, iv (own_size p1), iv (own_len p1)] [(.int 1)]))
 refine o_ifNo Xr_139 Hq at_337 (by decide) (o_iconst Xr_139 Hq 1 at_340 rfl (o_goto Xr_139 Hq (pc' := 345) at_341 ?_))
 have Kp_148 : Keep h0 T_139.heap [] := (((((((((((((((((Kh.trans K_2 all0).trans K_4 all0).trans K_13 all0).trans K_22 all0).trans K_31 all0).trans K_40 all0).trans K_49 all0).trans K_58 all0).trans K_67 all0).trans K_76 all0).trans K_85 all0).trans K_94 all0).trans K_103 all0).trans K_112 all0).trans K_121 all0).trans K_130 all0).trans K_139 all0)
 have Ks_149 := (Nat.le_refl T_139.heap.size)
 exact e_ZW Xr_139 hSr_139 rfl Ks_149 Hq hlk hrt at_345 ⟨rfl, N_139, Kp_148⟩
theorem pd_30 : parseMethodDescriptor "(I)Ljava/lang/String;" = some ⟨[.int], some (.object "java/lang/String")⟩ := by decide +kernel
theorem pd_31 : parseMethodDescriptor "(J)I" = some ⟨[.long], some .int⟩ := by decide +kernel
theorem k0_13 {a0 : Array Value} {Z : State} (hw : HW a0 Z) : own_KS a0 Z "com/example/figurant/figurant/VerificationModeCountOfTimesPinLaw" "" 13 y34_ y34_ method_3_code 2 (some .int) 1 := ⟨⟨(w_ hw 147 rfl), ⟨_, _, pd_31, rfl⟩, by decide⟩, (w_ hw 148 rfl), (w_ hw 149 rfl), (w_ hw 150 rfl)⟩
theorem ef_rm0 (m : MethodId) (p1 : Int32) : entryFrame m #[(.int p1)] maxLocals = mkF m 0 #[iv p1, .unset, .unset, .unset, .unset, .unset, .unset, .unset, .unset] [] := by first | (simp [entryFrame, mkF, argsToLocals, Value.category, maxLocals]; done) | rfl
theorem rm0 (l : Launch) (Z : State) (a0 : Array Value) (hw : HW a0 Z) (ws : List Jvm.Cond) (p1 : Int32) (aO aT : Addr) (kO kT : ClassId) (vO vT : List Value) (dO dT : Value) (w : Int32) (sfv : Value) (h0 : Heap) (n0 : Nat) (Z0 : n0 ≤ h0.size) (SO : Sta Z h0 "java/lang/Integer" "DigitOnes" "[B" (.ref aO)) (ST : Sta Z h0 "java/lang/Integer" "DigitTens" "[B" (.ref aT)) (VO : Arv Z h0 aO kO .byte (100 : Int32) vO dO) (VT : Arv Z h0 aT kT .byte (100 : Int32) vT dT) (hO : ∀ j : Int32, ¬ j < 0 → j < (100 : Int32) → vO.getD j.toNatClampNeg dO = .int (own_one j)) (hT : ∀ j : Int32, ¬ j < 0 → j < (100 : Int32) → vT.getD j.toNatClampNeg dT = .int (own_ten j)) (S1 : Sta Z h0 "java/lang/String" "COMPACT_STRINGS" "Z" (.int w)) (hw0 : ¬ w = (0 : Int32)) (S2 : Sta Z h0 "jdk/internal/util/Preconditions" "SIOOBE_FORMATTER" "Ljava/util/function/BiFunction;" sfv) (hsf : sfv.isRef = true) :
  MetFree l x (head1 (Jvm.Cond.code x code maxLocals ret :: ws) room_1) (fun a U => a = #[(.int p1)] ∧ Z.Warmed39 U.vm ∧ U.heap = h0 ∧ CHv Z consts_1 U.vm h0) (fun _ _ _ _ _ => True) (fun _ U o U' => ∃ v L, o = .returned v ∧ Q_rm0 Z a0 p1 aO aT kO kT vO vT dO dT w sfv h0 n0 v U'.heap L ∧ ReturnedEndW U o U' L room_1.cells room_1.slots) := by
 refine MetFree.of_bodySF (plainFor_of_name pn_28) hisR ?_
 intro p e s m args below meth c s₁ Bd hml0 hP hK
 obtain ⟨rfl, hZ, hh, hC0⟩ := hP
 have hx := Bd.exec
 have hby := Bd.bytes
 have hml : c.maxLocals = 9 := hml0
 have hown : s.vm.findClass "com/example/figurant/figurant/VerificationModeCountOfTimesPinLaw" = some m.cls := findClass_of_methodNamed Bd.named
 have hnm := (name_of_methodNamed Bd.named Bd.method).1
 have hlk : meth.locks = false := BodyLoose.notSynchronized (by assumption)
 have X0 : Stand p l e room_1 (s.setVm s.vm) m #[(.int p1)] below meth c s₁ [] 0 0 := Stand.of_body Bd
 have e0 : s₁.heap = h0 := by rw [← hh, Bd.state]; rfl
 have N0 := Fr.nil n0
 have Hq := And.intro hx hby
 have hrt := Bd.returns
 show own_Go p.tables e below (own_PW s (Q_rm0 Z a0 p1 aO aT kO kT vO vT dO dT w sfv h0 n0) room_1) (s₁.setTop (entryFrame m #[(.int p1)] maxLocals))
 refine own_st (fun t k => castTop (ef_rm0 m p1) k) ?_
 have hEL : EW Z a0 consts_1 := own_EW hw
 have hS0 : s.Since s.vm h0.size := (State.WarmedH.refl s).since _
 show own_Go _ _ _ _ (s₁.setTop (mkF m 0 #[iv p1, .unset, .unset, .unset, .unset, .unset, .unset, .unset, .unset] []))
 refine o_iloadN X0 Hq at_0 rfl ?_
 have Ks_2 := (Nat.le_refl h0.size)
 obtain ⟨_, _, ⟨T_1, L_1, k_1, n_1⟩, -, X_1, hSq_1, hgq_1, ⟨Lc_1, hQ_1, l_1, y_1, z_1, hCq_1⟩, st_1⟩ := callSS X0 hx (y := y35_) hown (v_ hZ hw 0 rfl) (v_ hZ hw 1 rfl) (v_ hZ hw 2 rfl) (v_ hZ hw 3 rfl) (by decide) (backOfSH (W := 0) (rm1 l Z a0 hw [] p1 aO aT kO kT vO vT dO dT w h0 n0 Z0 SO ST VO VT hO hT S1 hw0) hZ (w_ hw 3 rfl) (w_ hw 2 rfl) (by decide) (by decide) hEL (hC0.keep (Keep.refl h0 []) sf0)) (g := (mkF m 1 #[iv p1, .unset, .unset, .unset, .unset, .unset, .unset, .unset, .unset] [(.int p1)])) rfl (by rw [hml]; rfl) (argsL := [(.int p1)]) (rest := []) (lenOf pd_30 rfl) rfl (z_ rfl) (hb hby at_1) (fun _ _ => ⟨rfl, e0, (by decide : 0 + 7 ≤ _), (by decide : 0 + 103 ≤ _)⟩)
 dsimp only [Pt.U, Pt.locs, Pt.cells, Pt.slots] at X_1 l_1 y_1 z_1 st_1 hQ_1 hSq_1 hgq_1 hCq_1
 subst l_1 y_1 z_1
 obtain ⟨Xr_1, hSr_1, hZr_1, hownr_1⟩ := rebS hS0 (Nat.le_trans Ks_2 (Nat.le_of_eq (congrArg Array.size (e0).symm))) X_1 hSq_1 hgq_1 hZ hown
 obtain ⟨r__1, t__1, kt__1, rfl, Nq_1, K_1, gq_1_r, sq_1_r, gq_1_t, sq_1_t, Fq_1_0, Fq_1_1, Fq_1_2, Fq_1_3⟩ := hQ_1
 have N_1 := Fr.app N0 Nq_1
 have szq_1_r : h0.size ≤ r__1 := Nat.le_trans (Keep.refl h0 []).1 sq_1_r
 have szq_1_t : h0.size ≤ t__1 := Nat.le_trans (Keep.refl h0 []).1 sq_1_t
 refine own_tr st_1 ?_
 show own_Go _ _ _ _ (T_1.setTop (mkF m 4 #[iv p1, .unset, .unset, .unset, .unset, .unset, .unset, .unset, .unset] [(.ref r__1)]))
 refine o_astoreN Xr_1 Hq at_4 rfl (l' := #[iv p1, rv r__1, .unset, .unset, .unset, .unset, .unset, .unset, .unset]) rfl (o_iloadN Xr_1 Hq at_5 rfl ?_)
 by_cases hc6__3 : p1 < (0 : Int32)
 ·refine o_ifNo Xr_1 Hq at_6 (tlt hc6__3).2.1 (o_iconst Xr_1 Hq 1 at_9 rfl (o_goto Xr_1 Hq (pc' := 14) at_10 (o_istoreN Xr_1 Hq at_14 (l' := #[iv p1, rv r__1, iv 1, .unset, .unset, .unset, .unset, .unset, .unset]) rfl (o_iloadN Xr_1 Hq at_15 rfl (o_ifNo Xr_1 Hq at_16 (by decide) (o_iloadN Xr_1 Hq at_19 rfl (o_i2l Xr_1 Hq at_20 (o_lneg Xr_1 Hq at_21 (o_goto Xr_1 Hq (pc' := 27) at_22 (o_lstoreN Xr_1 Hq at_27 (l' := #[iv p1, rv r__1, iv 1, .val (.long (-(p1.toInt64))), .second, .unset, .unset, .unset, .unset]) rfl (o_lloadN Xr_1 Hq at_28 rfl ?_)))))))))))
  have Zs_5 : n0 ≤ T_1.heap.size := (Nat.le_trans Z0 K_1.1)
  refine c_S1 Xr_1 Hq rfl hZr_1 hownr_1 hml (k0_13 hw) (rm28 hw (-(p1.toInt64))  T_1.heap n0 Zs_5) at_29 ?_ 0
  rintro T_4 L_4 _ X_4 ⟨⟨⟩, Nq_4, e_4⟩
  have N_4 := Fr.app N_1 Nq_4
  refine o_istore X_4 Hq at_32 (l' := #[iv p1, rv r__1, iv 1, .val (.long (-(p1.toInt64))), .second, iv (own_dJ (-(p1.toInt64))), .unset, .unset, .unset]) rfl (o_iloadN X_4 Hq at_34 rfl (o_iconst X_4 Hq 1 at_35 rfl (o_icmpYes X_4 Hq (pc' := 43) at_36 (feq (fun q => absurd (q ▸ hc6__3) (by decide))).2 (o_iconst X_4 Hq 0 at_43 rfl (o_istore X_4 Hq at_44 (l' := #[iv p1, rv r__1, iv 1, .val (.long (-(p1.toInt64))), .second, iv (own_dJ (-(p1.toInt64))), iv 0, .unset, .unset]) rfl (o_iload X_4 Hq at_46 rfl (o_iloadN X_4 Hq at_48 rfl (o_ifNo X_4 Hq at_49 (by decide) (o_iconst X_4 Hq 1 at_52 rfl (o_goto X_4 Hq (pc' := 57) at_53 (o_iadd X_4 Hq at_57 ?_)))))))))))
  rw [own_p7 (k := (1 : Int32)) (own_qN hc6__3) (own_ngN hc6__3).symm]
  refine o_istore X_4 Hq at_58 (l' := #[iv p1, rv r__1, iv 1, .val (.long (-(p1.toInt64))), .second, iv (own_dJ (-(p1.toInt64))), iv 0, iv (own_size p1), .unset]) rfl (o_iload X_4 Hq at_60 rfl (o_iload X_4 Hq at_62 rfl (o_ifYes X_4 Hq (pc' := 71) at_64 (by decide) (o_bipush X_4 Hq 6 at_71 rfl (o_iadd X_4 Hq at_73 ?_)))))
  rw [own_lenF (fun q => absurd (q ▸ hc6__3) (by decide))]
  refine o_istore X_4 Hq at_74 (l' := #[iv p1, rv r__1, iv 1, .val (.long (-(p1.toInt64))), .second, iv (own_dJ (-(p1.toInt64))), iv 0, iv (own_size p1), iv (own_len p1)]) rfl ?_
  have Kp_6 : Keep h0 T_1.heap [] := ((Keep.refl h0 []).trans K_1 all0)
  have Ks_7 := (Nat.le_refl T_1.heap.size)
  have Fa_8 := (own_Sta_keep S1 K_1 ns0)
  have Fa_9 := (own_Sta_keep S2 K_1 ns0)
  exact own_rest p1 aO aT kO kT vO vT dO dT w sfv r__1 t__1 kt__1 (1 : Int32) (-(p1.toInt64)) _ _ X_4 hx hZr_1 hw hby hml hownr_1 Bd.returns hlk e_4 N_4 Zs_5 Kp_6 hSr_1 Ks_7 Fq_1_0 Fq_1_1 Fq_1_2 Fq_1_3 Fa_8 Fa_9 hw0 hsf (own_qN hc6__3) (fun q => absurd q (by decide)) (fun _ => own_ngN hc6__3) hCq_1.1
 ·refine o_ifYes Xr_1 Hq (pc' := 13) at_6 (flt hc6__3).2.1 (o_iconst Xr_1 Hq 0 at_13 rfl (o_istoreN Xr_1 Hq at_14 (l' := #[iv p1, rv r__1, iv 0, .unset, .unset, .unset, .unset, .unset, .unset]) rfl (o_iloadN Xr_1 Hq at_15 rfl (o_ifYes Xr_1 Hq (pc' := 25) at_16 (by decide) (o_iloadN Xr_1 Hq at_25 rfl (o_i2l Xr_1 Hq at_26 (o_lstoreN Xr_1 Hq at_27 (l' := #[iv p1, rv r__1, iv 0, .val (.long (p1.toInt64)), .second, .unset, .unset, .unset, .unset]) rfl (o_lloadN Xr_1 Hq at_28 rfl ?_))))))))
  have Zs_11 : n0 ≤ T_1.heap.size := (Nat.le_trans Z0 K_1.1)
  refine c_S1 Xr_1 Hq rfl hZr_1 hownr_1 hml (k0_13 hw) (rm28 hw (p1.toInt64)  T_1.heap n0 Zs_11) at_29 ?_ 0
  rintro T_10 L_10 _ X_10 ⟨⟨⟩, Nq_10, e_10⟩
  have N_10 := Fr.app N_1 Nq_10
  refine o_istore X_10 Hq at_32 (l' := #[iv p1, rv r__1, iv 0, .val (.long (p1.toInt64)), .second, iv (own_dJ (p1.toInt64)), .unset, .unset, .unset]) rfl (o_iloadN X_10 Hq at_34 rfl (o_iconst X_10 Hq 1 at_35 rfl ?_))
  by_cases hc36__12 : p1 = (1 : Int32)
  ·refine o_icmpNo X_10 Hq at_36 (teq hc36__12).2 (o_iconst X_10 Hq 1 at_39 rfl (o_goto X_10 Hq (pc' := 44) at_40 (o_istore X_10 Hq at_44 (l' := #[iv p1, rv r__1, iv 0, .val (.long (p1.toInt64)), .second, iv (own_dJ (p1.toInt64)), iv 1, .unset, .unset]) rfl (o_iload X_10 Hq at_46 rfl (o_iloadN X_10 Hq at_48 rfl (o_ifYes X_10 Hq (pc' := 56) at_49 (by decide) (o_iconst X_10 Hq 0 at_56 rfl (o_iadd X_10 Hq at_57 ?_))))))))
   rw [own_p7 (k := (0 : Int32)) (own_qP hc6__3) (own_ngP hc6__3).symm]
   refine o_istore X_10 Hq at_58 (l' := #[iv p1, rv r__1, iv 0, .val (.long (p1.toInt64)), .second, iv (own_dJ (p1.toInt64)), iv 1, iv (own_size p1), .unset]) rfl (o_iload X_10 Hq at_60 rfl (o_iload X_10 Hq at_62 rfl (o_ifNo X_10 Hq at_64 (by decide) (o_iconst X_10 Hq 5 at_67 rfl (o_goto X_10 Hq (pc' := 73) at_68 (o_iadd X_10 Hq at_73 ?_))))))
   rw [own_lenT hc36__12.symm]
   refine o_istore X_10 Hq at_74 (l' := #[iv p1, rv r__1, iv 0, .val (.long (p1.toInt64)), .second, iv (own_dJ (p1.toInt64)), iv 1, iv (own_size p1), iv (own_len p1)]) rfl ?_
   have Kp_13 : Keep h0 T_1.heap [] := ((Keep.refl h0 []).trans K_1 all0)
   have Ks_14 := (Nat.le_refl T_1.heap.size)
   have Fa_15 := (own_Sta_keep S1 K_1 ns0)
   have Fa_16 := (own_Sta_keep S2 K_1 ns0)
   exact own_rest p1 aO aT kO kT vO vT dO dT w sfv r__1 t__1 kt__1 (0 : Int32) (p1.toInt64) _ _ X_10 hx hZr_1 hw hby hml hownr_1 Bd.returns hlk e_10 N_10 Zs_11 Kp_13 hSr_1 Ks_14 Fq_1_0 Fq_1_1 Fq_1_2 Fq_1_3 Fa_15 Fa_16 hw0 hsf (own_qP hc6__3) (fun _ => own_ngP hc6__3) (fun q => absurd rfl q) hCq_1.1
  ·refine o_icmpYes X_10 Hq (pc' := 43) at_36 (feq hc36__12).2 (o_iconst X_10 Hq 0 at_43 rfl (o_istore X_10 Hq at_44 (l' := #[iv p1, rv r__1, iv 0, .val (.long (p1.toInt64)), .second, iv (own_dJ (p1.toInt64)), iv 0, .unset, .unset]) rfl (o_iload X_10 Hq at_46 rfl (o_iloadN X_10 Hq at_48 rfl (o_ifYes X_10 Hq (pc' := 56) at_49 (by decide) (o_iconst X_10 Hq 0 at_56 rfl (o_iadd X_10 Hq at_57 ?_)))))))
   rw [own_p7 (k := (0 : Int32)) (own_qP hc6__3) (own_ngP hc6__3).symm]
   refine o_istore X_10 Hq at_58 (l' := #[iv p1, rv r__1, iv 0, .val (.long (p1.toInt64)), .second, iv (own_dJ (p1.toInt64)), iv 0, iv (own_size p1), .unset]) rfl (o_iload X_10 Hq at_60 rfl (o_iload X_10 Hq at_62 rfl (o_ifYes X_10 Hq (pc' := 71) at_64 (by decide) (o_bipush X_10 Hq 6 at_71 rfl (o_iadd X_10 Hq at_73 ?_)))))
   rw [own_lenF (fun q => hc36__12 q.symm)]
   refine o_istore X_10 Hq at_74 (l' := #[iv p1, rv r__1, iv 0, .val (.long (p1.toInt64)), .second, iv (own_dJ (p1.toInt64)), iv 0, iv (own_size p1), iv (own_len p1)]) rfl ?_
   have Kp_17 : Keep h0 T_1.heap [] := ((Keep.refl h0 []).trans K_1 all0)
   have Ks_18 := (Nat.le_refl T_1.heap.size)
   have Fa_19 := (own_Sta_keep S1 K_1 ns0)
   have Fa_20 := (own_Sta_keep S2 K_1 ns0)
   exact own_rest p1 aO aT kO kT vO vT dO dT w sfv r__1 t__1 kt__1 (0 : Int32) (p1.toInt64) _ _ X_10 hx hZr_1 hw hby hml hownr_1 Bd.returns hlk e_10 N_10 Zs_11 Kp_17 hSr_1 Ks_18 Fq_1_0 Fq_1_1 Fq_1_2 Fq_1_3 Fa_19 Fa_20 hw0 hsf (own_qP hc6__3) (fun _ => own_ngP hc6__3) (fun q => absurd rfl q) hCq_1.1
theorem own_stat {args : Array Value} {first s : State} {o : Option Outcome} {idx : List Nat} {C n d : String} {v : Value} (h : (Term.static C n d).eval args first o [] s = some v) : (Term.static C n d).eval args first o idx s = some v := by simpa [Term.eval] using h
theorem own_lenv {args : Array Value} {first s : State} {o : Option Outcome} {idx : List Nat} {t : Term} {a : Addr} {cl : Cell} {n : Int32} (ev : t.eval args first o idx s = some (.ref a)) (hA : s.arrayAt? a = some cl) (h : (Term.length t).eval args first o idx s = some (.int n)) : cl.slots.size < 2 ^ 31 ∧ cl.slots.size.toInt32 = n := by
 by_cases q : cl.slots.size < 2 ^ 31
 ·have := (len_f ev hA q).symm.trans h
  exact ⟨q, by simpa using this⟩
 ·simp [Term.eval, ev, hA, q] at h
theorem own_sz {n : Nat} (q : n < 2 ^ 31) (e : n.toInt32 = (100 : Int32)) : n = (100 : Int32).toNatClampNeg := by
 have h := len_toInt q
 rw [e] at h
 have h' : (100 : Int) = (n : Int) := h
 show n = 100
 omega
theorem own_arv {s : State} {a : Addr} {cl : Cell} {ty : FieldType} {z : Int32} {dv : Value} (hf : Fit s) (A : Arr s s.heap a cl ty) (S : cl.slots.size = z.toNatClampNeg) (hz : ¬ z < 0) : Arv s s.heap a cl.cls ty z cl.slots.toList dv := by
 have hg : ∀ i, i < cl.slots.size → cl.slots[i]? = some (cl.slots.toList.getD i dv) := fun i hi => by simp [hi]
 refine ⟨cl, A, rfl, S, hz, hg, fun i hi => ?_⟩
 have q31 : cl.slots.size < 2 ^ 31 := by rw [S]; exact (back32 hz).2
 have ei : i.toInt32.toNatClampNeg = i := by
  have h := len_toInt (n := i) (Nat.lt_trans hi q31)
  show i.toInt32.toInt.toNat = i
  omega
 refine elem_fits hf A (j := i.toInt32) (idx_in hi q31) ?_
 rw [ei]
 exact hg i hi
theorem own_dtab {args : Array Value} {s : State} {C n d : String} {F : Term} (g : Int32 → Int32) (hf : Fit s) (wa : (Cond.arrayClass .byte).before args s = true)
  (hx : (Cond.exactly (Term.static C n d) "[B").value args s none s [] = some true)
  (hl : (Cond.eq (Term.length (Term.static C n d)) (Term.int (100 : Int32))).value args s none s [] = some true)
  (hA : (Cond.all (Term.static C n d) (Cond.eq (Term.elem (Term.static C n d) (Term.index 0)) F)).value args s none s [] = some true)
  (hF : ∀ j : Int32, ¬ j < 0 → F.eval args s none [j.toNatClampNeg] s = some (.int (g j))) :
  ∃ (a : Addr) (k : ClassId) (vs : List Value), (Term.static C n d).eval args s none [] s = some (.ref a) ∧ Arv s s.heap a k .byte (100 : Int32) vs (.int (0 : Int32)) ∧ ∀ j : Int32, ¬ j < 0 → j < (100 : Int32) → vs.getD j.toNatClampNeg (.int (0 : Int32)) = .int (g j) := by
 have hlen := eqv_i (Term.int_eval (100 : Int32)) hl
 obtain ⟨sd, SA, hev, harrAt, -⟩ := Term.length_spec hlen
 obtain ⟨q31, q100⟩ := own_lenv hev harrAt hlen
 have Sz := own_sz q31 q100
 obtain ⟨kw1, kw2, kw3, -⟩ := State.arrayAt?_spec harrAt
 obtain ⟨cell, k, x1, x2, x3, -, -⟩ := Exa.start hev hx
 cases kw1.symm.trans x1
 obtain ⟨cA, kA, comp, y1, y2, y3⟩ := Cond.arrayClass_spec wa
 have ec : SA.cls = cA := Option.some.inj (x2.symm.trans (show s.vm.findClass "[B" = some cA from y1))
 have A : Arr s s.heap sd SA .byte := ⟨kw1, ⟨(fun j e => by rw [e] at kw3; cases kw3), kA, ec ▸ y2, comp, y3⟩, kw2⟩
 refine ⟨sd, SA.cls, SA.slots.toList, hev, own_arv hf A Sz (by decide), fun j hj h8 => ?_⟩
 have hs : j.toNatClampNeg < SA.slots.size := by
  rw [Sz]
  rw [Int32.lt_iff_toInt_lt] at h8 hj
  have h8' : j.toInt < 100 := h8
  have hj' : ¬ j.toInt < 0 := hj
  show j.toInt.toNat < 100
  omega
 have q := Cond.all_elim hev harrAt hA j.toNatClampNeg hs
 have r := (elem_f (own_stat hev) (idx_at hj) harrAt hj).symm.trans (eqv_i (hF j hj) q)
 simp [List.getD, r]

theorem comes_1 {Post : Tables → Env → Array Value → State → Outcome → State → Prop} (hpost : ∀ tb e args s v u, (limb_1_1.after args s (.returned v) u = true ∧ limb_1_2.after args s (.returned v) u = true ∧ True) → ReturnedEndW s (.returned v) u (Jvm.fieldLocs frame_1_writes args s ++ Jvm.arrayLocs frame_1_arrays args s ++ Jvm.staticLocs frame_1_statics s) 48 3520 → Post tb e args s (.returned v) u) :
  ArmFor flags0 classFile x code maxLocals ret World_1 tables_1 room_1 Calls_1 rest_1 Pre_1 Post := by
 intro l hfl _ _ p e ha hc hk s m args below hf hA hF happ hP
 obtain ⟨hcalls, hrest, hpre⟩ := hP
 obtain ⟨-, -, -, hnamed, -, -, -, hat⟩ := (Spec.applies_iff hf).mp happ
 obtain ⟨hg, hn⟩ := and_e (Cond.before_iff.mp (show (Jvm.Cond.and given_1 narrow_1).before args s = true from hpre))
 obtain ⟨g1, g2⟩ := and_e hg
 obtain ⟨w0, rfl⟩ : ∃ w0 : Value, args = #[w0] := by
  have hs : args.size = 1 := by simpa [Cond.value, given_1] using g1
  obtain ⟨L⟩ := args
  match L, hs with
  | [w0], _ => exact ⟨w0, rfl⟩
 have hw := fun d (hd : d ∈ tables_1) => atoms_spec (ws := Jvm.Cond.code x code maxLocals ret :: tables_1) hat d (List.mem_cons_of_mem _ hd)
 have hfit : Fit s := fun {y c} hc i hi => by
  obtain ⟨ha, rfl⟩ := Array.getElem?_eq_some_iff.mp hc
  have q := List.all_eq_true.mp ((Array.all_eq_true_iff_forall_mem.mp hF) _ (Array.getElem_mem ha)) i (List.mem_range.mpr hi)
  simpa [Array.getElem?_eq_getElem hi] using q
 obtain ⟨hsets, hown0⟩ := atoms_of _ (rest_1_c_eq ▸ (show rest_1_c.before _ s = true from hrest))
 have hr0 := Cond.before_iff.mp hown0
 obtain ⟨i0, ei0⟩ := is_v g2
 obtain rfl : w0 = (.int i0) := Option.some.inj ei0
 obtain ⟨wC, evC⟩ := is_v (Cond.before_iff.mp (hsets _ (List.mem_of_getElem? (i := 1) rfl)))
 have hwC : ¬ wC = (0 : Int32) := gotF (Cond.eq_ints evC (Term.int_eval (0))) (not_v (Cond.before_iff.mp (hsets _ (List.mem_of_getElem? (i := 2) rfl))))
 obtain ⟨sfv, evS, hsf⟩ := isR_v (Cond.before_iff.mp (hsets _ (List.mem_of_getElem? (i := 8) rfl)))
 obtain ⟨aO, kO, vO, evO, VO, hO⟩ := own_dtab own_one hfit (w_ hw 21 rfl) (Cond.before_iff.mp (hsets _ (List.mem_of_getElem? (i := 12) rfl))) (Cond.before_iff.mp (hsets _ (List.mem_of_getElem? (i := 13) rfl))) (Cond.before_iff.mp (hsets _ (List.mem_of_getElem? (i := 14) rfl))) (fun j hj => Term.add_int (Term.int_eval (48 : Int32)) (rem_f (idx_at hj) (Term.int_eval (10 : Int32)) (by decide)))
 obtain ⟨aT, kT, vT, evT, VT, hT⟩ := own_dtab own_ten hfit (w_ hw 21 rfl) (Cond.before_iff.mp (hsets _ (List.mem_of_getElem? (i := 17) rfl))) (Cond.before_iff.mp (hsets _ (List.mem_of_getElem? (i := 18) rfl))) (Cond.before_iff.mp (hsets _ (List.mem_of_getElem? (i := 19) rfl))) (fun j hj => Term.add_int (Term.int_eval (48 : Int32)) (div_f (idx_at hj) (Term.int_eval (10 : Int32)) (by decide)))
 obtain ⟨n, o, h1, h2, h3, _, L, rfl, ⟨rfl, N, -⟩, hq⟩ := rm0 l s _ hw tables_1 i0 aO aT kO kT vO vT (.int (0 : Int32)) (.int (0 : Int32)) wC sfv s.heap s.heap.size (Nat.le_refl _) (Sta.start evO (Or.inl (hsets _ (List.mem_of_getElem? (i := 11) rfl)))) (Sta.start evT (Or.inl (hsets _ (List.mem_of_getElem? (i := 16) rfl)))) VO VT hO hT (Sta.start evC (Or.inl (hsets _ (List.mem_of_getElem? (i := 0) rfl)))) hwC (Sta.start evS (Or.inl (hsets _ (List.mem_of_getElem? (i := 7) rfl)))) hsf p e ha hc hk s m _ below hf ((Spec.applies_iff_loose hf).mp happ).1 ⟨rfl, State.Warmed39.refl s, rfl, (CHv.start (own_EW hw) (fun p hp => hcalls.1 p hp) (hsets _ (List.mem_of_getElem? (i := 2) rfl)) (w_ hw 21 rfl) (w_ hw 57 rfl))⟩ trivial
 refine ⟨n, _, h1, h2, h3, hpost _ _ _ _ _ _ ⟨Cond.after_iff.mpr rfl, Cond.after_iff.mpr (eq_i res_at (Term.int_eval (1)) rfl), trivial⟩ ⟨hq.1, hq.2.1, hq.2.2.1, (hq.2.2.2.sift fun y hy => Or.inr (N y hy)).mono (by decide) (by decide)⟩⟩
theorem main_1_1 : Claimed_1_1 := comes_1 fun _ _ _ _ _ _ h hF => ⟨h.1, hF⟩
theorem main_1_2 : Claimed_1_2 := comes_1 fun _ _ _ _ _ _ h hF => ⟨h.2.1, hF⟩
end Jvm.Pilot.@@N@@
namespace Jvm.Pilot.@@N@@
open Jvm Jvm.ClassFile Sem Op Lib Jvm.Free Jvm.Stand Jvm.Pilot.@@N@@.Jvm.D
/-! MADE BY PROGRAM (witnessworld.py) out of the Statement's table words and the real class files: 27 classes; the members and pool entries that the words name. The judged class is class 1, her method 1. -/
namespace start1
open Jvm.ClassFile
def u (s : String) : CpInfo := .utf8 (stringToUtf16 s)
/-- a pool by its gaps: so many unusable entries, then the entry; so many at the end -/
def gap : Nat → List CpInfo → List CpInfo
  | 0, r => r
  | n + 1, r => .unusable :: gap n r
def poolList (es : List (Nat × CpInfo)) (last : Nat) : List CpInfo := es.foldr (fun e r => gap e.1 (e.2 :: r)) (gap last [])
def pool (es : List (Nat × CpInfo)) (last : Nat) : Array CpInfo := ⟨poolList es last⟩
def fileOf (pool : Array CpInfo) (this : Nat) (attrs : Array Attribute := #[]) (ms : Array MethodInfo := #[]) (fl : Nat := 33) (sup : Nat := 0) (ifs : Array Nat := #[]) (fds : Array FieldInfo := #[]) : ClassFile where
  minorVersion := 0
  majorVersion := 65
  constantPool := pool
  accessFlags := fl
  thisClass := this
  superClass := sup
  interfaces := ifs
  fields := fds
  methods := ms
  attributes := attrs
def plain (name : String) (sup : Option ClassId) : Class where
  name := name
  kind := .ordinary
  loader := none
  accessFlags := 33
  super := sup
  interfaces := #[]
  cf := none
  fields := #[]
  methods := #[]
  instanceTypes := #[]
  staticTypes := #[]
  resolved := #[]
  callSites := []
  init := .initialized
  statics := none
  mirror := none

def pool0 : Array CpInfo := pool [(5, u "<init>"), (0, u "()V"), (1, .class_ 10), (1, u "java/lang/Object"), (85, u "clone"), (0, u "()Ljava/lang/Object;")] 26

def k0c0 : Code := { maxStack := 0, maxLocals := 1, code := object_method_1_code, exceptionTable := #[], attributes := #[] }
def k0m0 : Method := { name := "<init>", desc := "()V", sig := { parameters := [], returnType := none }, accessFlags := 1, code := some k0c0 }
def k0m1 : Method := { name := "clone", desc := "()Ljava/lang/Object;", sig := { parameters := [], returnType := some (.object "java/lang/Object") }, accessFlags := 260, code := none }
/-- java/lang/Object -/
def k0 : Class := { plain "java/lang/Object" none with
  accessFlags := 33
  interfaces := #[]
  cf := some (fileOf pool0 8 #[] #[{ accessFlags := 1, nameIndex := 5, descriptorIndex := 6, attributes := #[] }, { accessFlags := 260, nameIndex := 96, descriptorIndex := 97, attributes := #[] }] 33 0 #[] #[])
  fields := #[]
  methods := #[k0m0, k0m1]
  instanceTypes := #[]
  staticTypes := #[]
  resolved := Array.replicate 124 none
  statics := none }

def pool1 : Array CpInfo := pool [(2, .class_ 4), (1, u "java/lang/Object"), (0, u "<init>"), (0, u "()V"), (0, .methodref 8 9), (0, .class_ 10), (0, .nameAndType 11 12), (0, u "com/example/figurant/figurant/VerificationMode"), (0, u "countOfTimes"), (0, u "(I)Ljava/lang/String;"), (0, .methodref 14 15), (0, .class_ 16), (0, .nameAndType 17 18), (0, u "com/example/figurant/figurant/VerificationModeCountOfTimesPinLaw"), (0, u "digits"), (0, u "(J)I"), (0, .methodref 20 21), (0, .class_ 22), (0, .nameAndType 23 24), (0, u "java/lang/String"), (0, u "length"), (0, u "()I"), (0, .methodref 14 26), (0, .nameAndType 27 28), (0, u "at"), (0, u "(Ljava/lang/String;IJZII)Z"), (0, .long 10), (1, .long 100), (1, .long 1000), (1, .long 10000), (1, .long 100000), (1, .long 1000000), (1, .long 10000000), (1, .long 100000000), (1, .long 1000000000), (1, .methodref 20 48), (0, .nameAndType 49 50), (0, u "charAt"), (0, u "(I)C"), (0, .methodref 14 52), (0, .nameAndType 53 54), (0, u "expected"), (0, u "(IJZI)C"), (0, .methodref 14 56), (0, .nameAndType 57 58), (0, u "pow10"), (0, u "(I)J"), (0, .string 60), (0, u " times"), (2, u "law"), (0, u "(I)Z")] 3

def k1m0 : Method := { name := "<init>", desc := "()V", sig := { parameters := [], returnType := none }, accessFlags := 1, code := none }
def k1c1 : Code := { maxStack := 7, maxLocals := 9, code := code, exceptionTable := #[], attributes := #[] }
def k1m1 : Method := { name := "law", desc := "(I)Z", sig := { parameters := [.int], returnType := some .boolean }, accessFlags := 9, code := some k1c1 }
def k1c2 : Code := { maxStack := 4, maxLocals := 2, code := method_3_code, exceptionTable := #[], attributes := #[] }
def k1m2 : Method := { name := "digits", desc := "(J)I", sig := { parameters := [.long], returnType := some .int }, accessFlags := 10, code := some k1c2 }
def k1c3 : Code := { maxStack := 5, maxLocals := 2, code := method_4_code, exceptionTable := #[], attributes := #[] }
def k1m3 : Method := { name := "pow10", desc := "(I)J", sig := { parameters := [.int], returnType := some .long }, accessFlags := 10, code := some k1c3 }
def k1c4 : Code := { maxStack := 6, maxLocals := 7, code := method_5_code, exceptionTable := #[], attributes := #[] }
def k1m4 : Method := { name := "at", desc := "(Ljava/lang/String;IJZII)Z", sig := { parameters := [(.object "java/lang/String"), .int, .long, .boolean, .int, .int], returnType := some .boolean }, accessFlags := 10, code := some k1c4 }
def k1c5 : Code := { maxStack := 5, maxLocals := 6, code := method_6_code, exceptionTable := #[], attributes := #[] }
def k1m5 : Method := { name := "expected", desc := "(IJZI)C", sig := { parameters := [.int, .long, .boolean, .int], returnType := some .char }, accessFlags := 10, code := some k1c5 }
/-- com/example/figurant/figurant/VerificationModeCountOfTimesPinLaw -/
def k1 : Class := { plain "com/example/figurant/figurant/VerificationModeCountOfTimesPinLaw" (some 0) with
  accessFlags := 49
  interfaces := #[]
  cf := some (fileOf pool1 14 #[] #[{ accessFlags := 1, nameIndex := 5, descriptorIndex := 6, attributes := #[] }, { accessFlags := 9, nameIndex := 63, descriptorIndex := 64, attributes := #[] }, { accessFlags := 10, nameIndex := 17, descriptorIndex := 18, attributes := #[] }, { accessFlags := 10, nameIndex := 57, descriptorIndex := 58, attributes := #[] }, { accessFlags := 10, nameIndex := 27, descriptorIndex := 28, attributes := #[] }, { accessFlags := 10, nameIndex := 53, descriptorIndex := 54, attributes := #[] }] 49 2 #[] #[])
  fields := #[]
  methods := #[k1m0, k1m1, k1m2, k1m3, k1m4, k1m5]
  instanceTypes := #[]
  staticTypes := #[]
  resolved := Array.replicate 68 none
  statics := none }

def pool2 : Array CpInfo := pool [(2, .class_ 4), (0, .nameAndType 5 6), (0, u "java/lang/Object"), (0, u "<init>"), (0, u "()V"), (1, .class_ 10), (1, u "com/example/figurant/figurant/VerificationMode"), (0, u "m_least"), (0, u "I"), (2, u "m_most"), (2, u "m_expectation"), (0, u "Ljava/lang/String;"), (2, u "countOfTimes"), (0, u "(I)Ljava/lang/String;"), (8, .class_ 33), (0, u "java/lang/StringBuilder"), (0, .methodref 32 3), (2, .methodref 32 38), (0, .nameAndType 39 40), (0, u "append"), (0, u "(Ljava/lang/String;)Ljava/lang/StringBuilder;"), (0, .methodref 32 42), (0, .nameAndType 43 44), (0, u "toString"), (0, u "()Ljava/lang/String;"), (2, .methodref 32 48), (0, .nameAndType 39 49), (0, u "(I)Ljava/lang/StringBuilder;"), (0, .string 51), (0, u " time"), (0, .string 53), (0, u " times")] 17

def k2c0 : Code := { maxStack := 3, maxLocals := 1, code := prog_18_method_6_code, exceptionTable := #[], attributes := #[] }
def k2m0 : Method := { name := "countOfTimes", desc := "(I)Ljava/lang/String;", sig := { parameters := [.int], returnType := some (.object "java/lang/String") }, accessFlags := 8, code := some k2c0 }
/-- com/example/figurant/figurant/VerificationMode -/
def k2 : Class := { plain "com/example/figurant/figurant/VerificationMode" (some 0) with
  accessFlags := 49
  interfaces := #[]
  cf := some (fileOf pool2 8 #[] #[{ accessFlags := 8, nameIndex := 22, descriptorIndex := 23, attributes := #[] }] 49 2 #[] #[{ accessFlags := 18, nameIndex := 11, descriptorIndex := 12, attributes := #[] }, { accessFlags := 18, nameIndex := 15, descriptorIndex := 12, attributes := #[] }, { accessFlags := 18, nameIndex := 18, descriptorIndex := 19, attributes := #[] }])
  fields := #[{ name := "m_least", type := .int, accessFlags := 18, slot := 0, constantValue := 0 }, { name := "m_most", type := .int, accessFlags := 18, slot := 1, constantValue := 0 }, { name := "m_expectation", type := (.object "java/lang/String"), accessFlags := 18, slot := 2, constantValue := 0 }]
  methods := #[k2m0]
  instanceTypes := #[.int, .int, (.object "java/lang/String")]
  staticTypes := #[]
  resolved := Array.replicate 71 none
  statics := none }

def pool3 : Array CpInfo := pool [(1, .class_ 2), (0, u "java/lang/Appendable"), (0, .class_ 4), (0, u "java/lang/Object")] 9

/-- java/lang/Appendable -/
def k3 : Class := { plain "java/lang/Appendable" (some 0) with
  accessFlags := 1537
  interfaces := #[]
  cf := some (fileOf pool3 1 #[] #[] 1537 3 #[] #[])
  fields := #[]
  methods := #[]
  instanceTypes := #[]
  staticTypes := #[]
  resolved := Array.replicate 14 none
  statics := none }

def pool4 : Array CpInfo := pool [(2, .class_ 4), (1, u "java/lang/CharSequence"), (42, .class_ 48), (0, u "java/lang/CharSequence$1CodePointIterator"), (10, .class_ 60), (0, u "java/lang/CharSequence$1CharIterator"), (5, .class_ 67), (0, u "java/lang/Object")] 63

/-- java/lang/CharSequence -/
def k4 : Class := { plain "java/lang/CharSequence" (some 0) with
  accessFlags := 1537
  interfaces := #[]
  cf := some (fileOf pool4 2 #[.nestMembers #[47, 59]] #[] 1537 66 #[] #[])
  fields := #[]
  methods := #[]
  instanceTypes := #[]
  staticTypes := #[]
  resolved := Array.replicate 131 none
  statics := none }

def pool5 : Array CpInfo := pool [(1, .class_ 2), (0, u "java/lang/String"), (0, .methodref 4 5), (0, .class_ 6), (0, .nameAndType 7 8), (0, u "java/lang/Object"), (0, u "<init>"), (0, u "()V"), (1, .class_ 12), (1, u "java/lang/AbstractStringBuilder"), (0, u "EMPTYVALUE"), (0, u "[B"), (0, .fieldref 10 16), (0, .nameAndType 17 14), (0, u "value"), (0, .fieldref 1 19), (0, .nameAndType 20 21), (0, u "COMPACT_STRINGS"), (0, u "Z"), (0, .fieldref 10 23), (0, .nameAndType 24 25), (0, u "coder"), (0, u "B"), (6, .methodref 1 33), (0, .nameAndType 34 35), (0, u "length"), (0, u "()I"), (0, .class_ 37), (0, u "java/lang/Integer"), (1, .integer 2147483647), (0, .methodref 1 41), (0, .nameAndType 24 42), (0, u "()B"), (2, u "append"), (0, u "(Ljava/lang/String;)Ljava/lang/AbstractStringBuilder;"), (1, .class_ 49), (0, u "java/lang/CharSequence"), (19, u "(Ljava/lang/String;)V"), (5, u "maybeLatin1"), (3, .fieldref 10 80), (0, .nameAndType 81 82), (0, u "count"), (0, u "I"), (0, .methodref 10 84), (0, .nameAndType 85 86), (0, u "isLatin1"), (0, u "()Z"), (13, .methodref 10 101), (0, .nameAndType 102 103), (0, u "ensureCapacityInternal"), (0, u "(I)V"), (0, .methodref 10 105), (0, .nameAndType 106 107), (0, u "newCapacity"), (0, u "(I)I"), (0, .methodref 109 110), (0, .class_ 111), (0, .nameAndType 112 113), (0, u "java/util/Arrays"), (0, u "copyOf"), (0, u "([BI)[B"), (0, .methodref 115 116), (0, .class_ 117), (0, .nameAndType 118 119), (0, u "jdk/internal/util/ArraysSupport"), (0, u "newLength"), (0, u "(III)I"), (68, u "getChars"), (19, .methodref 10 209), (0, .nameAndType 210 211), (0, u "putStringAt"), (0, u "(ILjava/lang/String;)V"), (5, u "inflateIfNeededFor"), (2, .nameAndType 221 222), (0, u "getBytes"), (0, u "([BIB)V"), (22, .methodref 36 246), (0, .nameAndType 247 107), (0, u "stringSize"), (0, .methodref 36 249), (0, .nameAndType 188 250), (0, u "(II[B)I"), (146, .methodref 10 398), (0, .nameAndType 217 69), (0, .methodref 1 220), (3, u "()[B"), (40, .class_ 445), (0, u "java/lang/Appendable"), (65, u "(I)Ljava/lang/AbstractStringBuilder;"), (40, u "getValue")] 56

def k5m0 : Method := { name := "<init>", desc := "()V", sig := { parameters := [], returnType := none }, accessFlags := 0, code := none }
def k5c1 : Code := { maxStack := 2, maxLocals := 2, code := jdk_68_method_2_code, exceptionTable := #[], attributes := #[] }
def k5m1 : Method := { name := "<init>", desc := "(I)V", sig := { parameters := [.int], returnType := none }, accessFlags := 0, code := some k5c1 }
def k5c2 : Code := { maxStack := 1, maxLocals := 1, code := jdk_68_method_6_code, exceptionTable := #[], attributes := #[] }
def k5m2 : Method := { name := "length", desc := "()I", sig := { parameters := [], returnType := some .int }, accessFlags := 1, code := some k5c2 }
def k5c3 : Code := { maxStack := 4, maxLocals := 3, code := jdk_68_method_9_code, exceptionTable := #[], attributes := #[] }
def k5m3 : Method := { name := "ensureCapacityInternal", desc := "(I)V", sig := { parameters := [.int], returnType := none }, accessFlags := 2, code := some k5c3 }
def k5c4 : Code := { maxStack := 5, maxLocals := 6, code := jdk_68_method_10_code, exceptionTable := #[], attributes := #[] }
def k5m4 : Method := { name := "newCapacity", desc := "(I)I", sig := { parameters := [.int], returnType := some .int }, accessFlags := 2, code := some k5c4 }
def k5c5 : Code := { maxStack := 3, maxLocals := 3, code := jdk_68_method_22_code, exceptionTable := #[], attributes := #[] }
def k5m5 : Method := { name := "append", desc := "(Ljava/lang/String;)Ljava/lang/AbstractStringBuilder;", sig := { parameters := [(.object "java/lang/String")], returnType := some (.object "java/lang/AbstractStringBuilder") }, accessFlags := 1, code := some k5c5 }
def k5c6 : Code := { maxStack := 4, maxLocals := 4, code := jdk_68_method_32_code, exceptionTable := #[], attributes := #[] }
def k5m6 : Method := { name := "append", desc := "(I)Ljava/lang/AbstractStringBuilder;", sig := { parameters := [.int], returnType := some (.object "java/lang/AbstractStringBuilder") }, accessFlags := 1, code := some k5c6 }
def k5c7 : Code := { maxStack := 1, maxLocals := 1, code := jdk_68_method_64_code, exceptionTable := #[], attributes := #[] }
def k5m7 : Method := { name := "getValue", desc := "()[B", sig := { parameters := [], returnType := some (.array .byte) }, accessFlags := 16, code := some k5c7 }
def k5c8 : Code := { maxStack := 1, maxLocals := 1, code := jdk_68_method_68_code, exceptionTable := #[], attributes := #[] }
def k5m8 : Method := { name := "isLatin1", desc := "()Z", sig := { parameters := [], returnType := some .boolean }, accessFlags := 16, code := some k5c8 }
def k5c9 : Code := { maxStack := 2, maxLocals := 2, code := jdk_68_method_71_code, exceptionTable := #[], attributes := #[] }
def k5m9 : Method := { name := "inflateIfNeededFor", desc := "(Ljava/lang/String;)V", sig := { parameters := [(.object "java/lang/String")], returnType := none }, accessFlags := 2, code := some k5c9 }
def k5c10 : Code := { maxStack := 4, maxLocals := 3, code := jdk_68_method_73_code, exceptionTable := #[], attributes := #[] }
def k5m10 : Method := { name := "putStringAt", desc := "(ILjava/lang/String;)V", sig := { parameters := [.int, (.object "java/lang/String")], returnType := none }, accessFlags := 2, code := some k5c10 }
/-- java/lang/AbstractStringBuilder -/
def k5 : Class := { plain "java/lang/AbstractStringBuilder" (some 0) with
  accessFlags := 1056
  interfaces := #[3, 4]
  cf := some (fileOf pool5 10 #[] #[{ accessFlags := 0, nameIndex := 7, descriptorIndex := 8, attributes := #[] }, { accessFlags := 0, nameIndex := 7, descriptorIndex := 103, attributes := #[] }, { accessFlags := 1, nameIndex := 34, descriptorIndex := 35, attributes := #[] }, { accessFlags := 2, nameIndex := 102, descriptorIndex := 103, attributes := #[] }, { accessFlags := 2, nameIndex := 106, descriptorIndex := 107, attributes := #[] }, { accessFlags := 1, nameIndex := 45, descriptorIndex := 46, attributes := #[] }, { accessFlags := 1, nameIndex := 45, descriptorIndex := 511, attributes := #[] }, { accessFlags := 16, nameIndex := 552, descriptorIndex := 403, attributes := #[] }, { accessFlags := 16, nameIndex := 85, descriptorIndex := 86, attributes := #[] }, { accessFlags := 2, nameIndex := 217, descriptorIndex := 69, attributes := #[] }, { accessFlags := 2, nameIndex := 210, descriptorIndex := 211, attributes := #[] }] 1056 4 #[444, 48] #[{ accessFlags := 0, nameIndex := 17, descriptorIndex := 14, attributes := #[] }, { accessFlags := 0, nameIndex := 24, descriptorIndex := 25, attributes := #[] }, { accessFlags := 0, nameIndex := 75, descriptorIndex := 21, attributes := #[] }, { accessFlags := 0, nameIndex := 81, descriptorIndex := 82, attributes := #[] }, { accessFlags := 26, nameIndex := 13, descriptorIndex := 14, attributes := #[] }])
  fields := #[{ name := "value", type := (.array .byte), accessFlags := 0, slot := 0, constantValue := 0 }, { name := "coder", type := .byte, accessFlags := 0, slot := 1, constantValue := 0 }, { name := "maybeLatin1", type := .boolean, accessFlags := 0, slot := 2, constantValue := 0 }, { name := "count", type := .int, accessFlags := 0, slot := 3, constantValue := 0 }, { name := "EMPTYVALUE", type := (.array .byte), accessFlags := 26, slot := 0, constantValue := 0 }]
  methods := #[k5m0, k5m1, k5m2, k5m3, k5m4, k5m5, k5m6, k5m7, k5m8, k5m9, k5m10]
  instanceTypes := #[(.array .byte), .byte, .boolean, .int]
  staticTypes := #[(.array .byte)]
  resolved := Array.replicate 609 none
  statics := none }

def pool6 : Array CpInfo := pool [(1, .class_ 2), (0, u "java/io/Serializable"), (0, .class_ 4), (0, u "java/lang/Object")] 2

/-- java/io/Serializable -/
def k6 : Class := { plain "java/io/Serializable" (some 0) with
  accessFlags := 1537
  interfaces := #[]
  cf := some (fileOf pool6 1 #[] #[] 1537 3 #[] #[])
  fields := #[]
  methods := #[]
  instanceTypes := #[]
  staticTypes := #[]
  resolved := Array.replicate 7 none
  statics := none }

def pool7 : Array CpInfo := pool [(1, .class_ 2), (0, u "java/lang/Comparable"), (0, .class_ 4), (0, u "java/lang/Object")] 7

/-- java/lang/Comparable -/
def k7 : Class := { plain "java/lang/Comparable" (some 0) with
  accessFlags := 1537
  interfaces := #[]
  cf := some (fileOf pool7 1 #[] #[] 1537 3 #[] #[])
  fields := #[]
  methods := #[]
  instanceTypes := #[]
  staticTypes := #[]
  resolved := Array.replicate 12 none
  statics := none }

def pool8 : Array CpInfo := pool [(1, .methodref 2 3), (0, .class_ 4), (0, .nameAndType 5 6), (0, u "java/lang/AbstractStringBuilder"), (0, u "<init>"), (0, u "(I)V"), (11, .class_ 20), (1, u "java/lang/String"), (3, .class_ 26), (1, u "java/lang/StringBuilder"), (0, u "append"), (0, u "(Ljava/lang/String;)Ljava/lang/StringBuilder;"), (0, .methodref 2 30), (0, .nameAndType 27 31), (0, u "(Ljava/lang/String;)Ljava/lang/AbstractStringBuilder;"), (21, .methodref 2 54), (0, .nameAndType 27 55), (0, u "(I)Ljava/lang/AbstractStringBuilder;"), (81, .methodref 18 138), (0, .nameAndType 5 139), (0, u "(Ljava/lang/StringBuilder;)V"), (5, u "()V"), (10, u "()I"), (111, u "(I)Ljava/lang/StringBuilder;"), (74, .methodref 2 344), (0, .nameAndType 345 156), (0, u "length"), (3, .class_ 350), (0, u "java/lang/Appendable"), (0, .class_ 352), (0, u "java/io/Serializable"), (0, .class_ 354), (0, u "java/lang/Comparable"), (0, .class_ 356), (0, u "java/lang/CharSequence"), (0, u "serialVersionUID"), (0, u "J"), (40, u "toString"), (0, u "()Ljava/lang/String;")] 21

def k8c0 : Code := { maxStack := 2, maxLocals := 1, code := jdk_67_method_1_code, exceptionTable := #[], attributes := #[] }
def k8m0 : Method := { name := "<init>", desc := "()V", sig := { parameters := [], returnType := none }, accessFlags := 1, code := some k8c0 }
def k8c1 : Code := { maxStack := 2, maxLocals := 2, code := jdk_67_method_7_code, exceptionTable := #[], attributes := #[] }
def k8m1 : Method := { name := "append", desc := "(Ljava/lang/String;)Ljava/lang/StringBuilder;", sig := { parameters := [(.object "java/lang/String")], returnType := some (.object "java/lang/StringBuilder") }, accessFlags := 1, code := some k8c1 }
def k8c2 : Code := { maxStack := 2, maxLocals := 2, code := jdk_67_method_15_code, exceptionTable := #[], attributes := #[] }
def k8m2 : Method := { name := "append", desc := "(I)Ljava/lang/StringBuilder;", sig := { parameters := [.int], returnType := some (.object "java/lang/StringBuilder") }, accessFlags := 1, code := some k8c2 }
def k8c3 : Code := { maxStack := 3, maxLocals := 1, code := jdk_67_method_42_code, exceptionTable := #[], attributes := #[] }
def k8m3 : Method := { name := "toString", desc := "()Ljava/lang/String;", sig := { parameters := [], returnType := some (.object "java/lang/String") }, accessFlags := 1, code := some k8c3 }
def k8c4 : Code := { maxStack := 1, maxLocals := 1, code := jdk_67_method_93_code, exceptionTable := #[], attributes := #[] }
def k8m4 : Method := { name := "length", desc := "()I", sig := { parameters := [], returnType := some .int }, accessFlags := 4161, code := some k8c4 }
/-- java/lang/StringBuilder -/
def k8 : Class := { plain "java/lang/StringBuilder" (some 5) with
  accessFlags := 49
  interfaces := #[3, 6, 7, 4]
  cf := some (fileOf pool8 24 #[] #[{ accessFlags := 1, nameIndex := 5, descriptorIndex := 145, attributes := #[] }, { accessFlags := 1, nameIndex := 27, descriptorIndex := 28, attributes := #[] }, { accessFlags := 1, nameIndex := 27, descriptorIndex := 268, attributes := #[] }, { accessFlags := 1, nameIndex := 399, descriptorIndex := 400, attributes := #[] }, { accessFlags := 4161, nameIndex := 345, descriptorIndex := 156, attributes := #[] }] 49 2 #[349, 351, 353, 355] #[{ accessFlags := 24, nameIndex := 357, descriptorIndex := 358, attributes := #[] }])
  fields := #[{ name := "serialVersionUID", type := .long, accessFlags := 24, slot := 0, constantValue := 0 }]
  methods := #[k8m0, k8m1, k8m2, k8m3, k8m4]
  instanceTypes := #[(.array .byte), .byte, .boolean, .int]
  staticTypes := #[.long]
  resolved := Array.replicate 422 none
  statics := none }

def pool9 : Array CpInfo := pool [(1, .class_ 2), (0, u "java/lang/constant/Constable"), (0, .class_ 4), (0, u "java/lang/Object")] 6

/-- java/lang/constant/Constable -/
def k9 : Class := { plain "java/lang/constant/Constable" (some 0) with
  accessFlags := 1537
  interfaces := #[]
  cf := some (fileOf pool9 1 #[] #[] 1537 3 #[] #[])
  fields := #[]
  methods := #[]
  instanceTypes := #[]
  staticTypes := #[]
  resolved := Array.replicate 11 none
  statics := none }

def pool10 : Array CpInfo := pool [(1, .class_ 2), (0, u "java/lang/constant/ConstantDesc"), (0, .class_ 4), (0, u "java/lang/Object")] 32

/-- java/lang/constant/ConstantDesc -/
def k10 : Class := { plain "java/lang/constant/ConstantDesc" (some 0) with
  accessFlags := 1537
  interfaces := #[]
  cf := some (fileOf pool10 1 #[] #[] 1537 3 #[] #[])
  fields := #[]
  methods := #[]
  instanceTypes := #[]
  staticTypes := #[]
  resolved := Array.replicate 37 none
  statics := none }

def pool11 : Array CpInfo := pool [(1, .methodref 2 3), (0, .class_ 4), (0, .nameAndType 5 6), (0, u "java/lang/Object"), (0, u "<init>"), (0, u "()V"), (2, .fieldref 10 11), (0, .class_ 12), (0, .nameAndType 13 14), (0, u "java/lang/String"), (0, u "value"), (0, u "[B"), (0, .fieldref 10 16), (0, .nameAndType 17 18), (0, u "coder"), (0, u "B"), (2, u "hash"), (0, u "I"), (2, u "hashIsZero"), (0, u "Z"), (11, .fieldref 10 39), (0, .nameAndType 40 26), (0, u "COMPACT_STRINGS"), (13, .methodref 55 56), (0, .class_ 57), (0, .nameAndType 58 59), (0, u "java/util/Arrays"), (0, u "copyOfRange"), (0, u "([BII)[B"), (47, .class_ 109), (1, u "java/lang/StringLatin1"), (32, u "()Z"), (50, .class_ 195), (1, u "java/lang/System"), (16, .methodref 193 213), (0, .nameAndType 214 215), (0, u "arraycopy"), (0, u "(Ljava/lang/Object;ILjava/lang/Object;II)V"), (118, u "()I"), (0, .methodref 10 336), (0, .nameAndType 17 337), (0, u "()B"), (2, u "()[B"), (22, u "([BI)C"), (27, u "(II)V"), (35, u "(I)C"), (61, .methodref 10 490), (0, .nameAndType 5 491), (0, u "(Ljava/lang/AbstractStringBuilder;Ljava/lang/Void;)V"), (0, .methodref 10 493), (0, .nameAndType 494 142), (0, u "isLatin1"), (0, .methodref 107 496), (0, .nameAndType 497 363), (0, u "charAt"), (3, u "checkIndex"), (4, .nameAndType 507 334), (0, u "length"), (24, u "getBytes"), (16, .methodref 550 506), (0, .class_ 551), (0, u "java/lang/AbstractStringBuilder"), (0, .methodref 550 553), (0, .nameAndType 554 340), (0, u "getValue"), (20, .class_ 576), (0, u "java/lang/CharSequence"), (22, u "CASE_INSENSITIVE_ORDER"), (0, u "Ljava/util/Comparator;"), (220, u "([BIB)V"), (225, .methodref 550 493), (5, .fieldref 1054 1055), (0, .class_ 1056), (0, .nameAndType 1057 1058), (0, u "jdk/internal/util/Preconditions"), (0, u "SIOOBE_FORMATTER"), (0, u "Ljava/util/function/BiFunction;"), (0, .methodref 1054 1060), (0, .nameAndType 501 1061), (0, u "(IILjava/util/function/BiFunction;)I"), (39, u "serialPersistentFields"), (0, u "[Ljava/io/ObjectStreamField;"), (0, .class_ 1104), (0, u "java/lang/String$CaseInsensitiveComparator"), (1, .class_ 1107), (0, u "java/io/Serializable"), (0, .class_ 1109), (0, u "java/lang/Comparable"), (0, .class_ 1111), (0, u "java/lang/constant/Constable"), (0, .class_ 1113), (0, u "java/lang/constant/ConstantDesc"), (2, u "serialVersionUID"), (0, u "J"), (3, u "REPL"), (0, u "C"), (2, u "LATIN1"), (1, u "UTF16"), (105, u "(Ljava/lang/StringBuilder;)V")] 217

def k11m0 : Method := { name := "<init>", desc := "()V", sig := { parameters := [], returnType := none }, accessFlags := 1, code := none }
def k11c1 : Code := { maxStack := 3, maxLocals := 2, code := jdk_42_method_53_code, exceptionTable := #[], attributes := #[] }
def k11m1 : Method := { name := "<init>", desc := "(Ljava/lang/StringBuilder;)V", sig := { parameters := [(.object "java/lang/StringBuilder")], returnType := none }, accessFlags := 1, code := some k11c1 }
def k11c2 : Code := { maxStack := 2, maxLocals := 1, code := jdk_42_method_54_code, exceptionTable := #[], attributes := #[] }
def k11m2 : Method := { name := "length", desc := "()I", sig := { parameters := [], returnType := some .int }, accessFlags := 1, code := some k11c2 }
def k11c3 : Code := { maxStack := 2, maxLocals := 2, code := jdk_42_method_56_code, exceptionTable := #[], attributes := #[] }
def k11m3 : Method := { name := "charAt", desc := "(I)C", sig := { parameters := [.int], returnType := some .char }, accessFlags := 1, code := some k11c3 }
def k11c4 : Code := { maxStack := 5, maxLocals := 4, code := jdk_42_method_147_code, exceptionTable := #[], attributes := #[] }
def k11m4 : Method := { name := "getBytes", desc := "([BIB)V", sig := { parameters := [(.array .byte), .int, .byte], returnType := none }, accessFlags := 0, code := some k11c4 }
def k11c5 : Code := { maxStack := 5, maxLocals := 5, code := jdk_42_method_150_code, exceptionTable := #[], attributes := #[] }
def k11m5 : Method := { name := "<init>", desc := "(Ljava/lang/AbstractStringBuilder;Ljava/lang/Void;)V", sig := { parameters := [(.object "java/lang/AbstractStringBuilder"), (.object "java/lang/Void")], returnType := none }, accessFlags := 0, code := some k11c5 }
def k11c6 : Code := { maxStack := 1, maxLocals := 1, code := jdk_42_method_152_code, exceptionTable := #[], attributes := #[] }
def k11m6 : Method := { name := "coder", desc := "()B", sig := { parameters := [], returnType := some .byte }, accessFlags := 0, code := some k11c6 }
def k11c7 : Code := { maxStack := 1, maxLocals := 1, code := jdk_42_method_154_code, exceptionTable := #[], attributes := #[] }
def k11m7 : Method := { name := "isLatin1", desc := "()Z", sig := { parameters := [], returnType := some .boolean }, accessFlags := 0, code := some k11c7 }
def k11c8 : Code := { maxStack := 3, maxLocals := 2, code := jdk_42_method_155_code, exceptionTable := #[], attributes := #[] }
def k11m8 : Method := { name := "checkIndex", desc := "(II)V", sig := { parameters := [.int, .int], returnType := none }, accessFlags := 8, code := some k11c8 }
/-- java/lang/String -/
def k11 : Class := { plain "java/lang/String" (some 0) with
  accessFlags := 49
  interfaces := #[6, 7, 4, 9, 10]
  cf := some (fileOf pool11 10 #[.nestMembers #[1103]] #[{ accessFlags := 1, nameIndex := 5, descriptorIndex := 6, attributes := #[] }, { accessFlags := 1, nameIndex := 5, descriptorIndex := 1233, attributes := #[] }, { accessFlags := 1, nameIndex := 507, descriptorIndex := 334, attributes := #[] }, { accessFlags := 1, nameIndex := 497, descriptorIndex := 427, attributes := #[] }, { accessFlags := 0, nameIndex := 532, descriptorIndex := 821, attributes := #[] }, { accessFlags := 0, nameIndex := 5, descriptorIndex := 491, attributes := #[] }, { accessFlags := 0, nameIndex := 17, descriptorIndex := 337, attributes := #[] }, { accessFlags := 0, nameIndex := 494, descriptorIndex := 142, attributes := #[] }, { accessFlags := 8, nameIndex := 501, descriptorIndex := 391, attributes := #[] }] 49 2 #[1106, 1108, 575, 1110, 1112] #[{ accessFlags := 18, nameIndex := 13, descriptorIndex := 14, attributes := #[] }, { accessFlags := 18, nameIndex := 17, descriptorIndex := 18, attributes := #[] }, { accessFlags := 2, nameIndex := 21, descriptorIndex := 22, attributes := #[] }, { accessFlags := 2, nameIndex := 25, descriptorIndex := 26, attributes := #[] }, { accessFlags := 26, nameIndex := 1116, descriptorIndex := 1117, attributes := #[] }, { accessFlags := 24, nameIndex := 40, descriptorIndex := 26, attributes := #[] }, { accessFlags := 26, nameIndex := 1101, descriptorIndex := 1102, attributes := #[] }, { accessFlags := 26, nameIndex := 1121, descriptorIndex := 1122, attributes := #[] }, { accessFlags := 25, nameIndex := 599, descriptorIndex := 600, attributes := #[] }, { accessFlags := 24, nameIndex := 1125, descriptorIndex := 18, attributes := #[] }, { accessFlags := 24, nameIndex := 1127, descriptorIndex := 18, attributes := #[] }])
  fields := #[{ name := "value", type := (.array .byte), accessFlags := 18, slot := 0, constantValue := 0 }, { name := "coder", type := .byte, accessFlags := 18, slot := 1, constantValue := 0 }, { name := "hash", type := .int, accessFlags := 2, slot := 2, constantValue := 0 }, { name := "hashIsZero", type := .boolean, accessFlags := 2, slot := 3, constantValue := 0 }, { name := "serialVersionUID", type := .long, accessFlags := 26, slot := 0, constantValue := 0 }, { name := "COMPACT_STRINGS", type := .boolean, accessFlags := 24, slot := 1, constantValue := 0 }, { name := "serialPersistentFields", type := (.array (.object "java/io/ObjectStreamField")), accessFlags := 26, slot := 2, constantValue := 0 }, { name := "REPL", type := .char, accessFlags := 26, slot := 3, constantValue := 0 }, { name := "CASE_INSENSITIVE_ORDER", type := (.object "java/util/Comparator"), accessFlags := 25, slot := 4, constantValue := 0 }, { name := "LATIN1", type := .byte, accessFlags := 24, slot := 5, constantValue := 0 }, { name := "UTF16", type := .byte, accessFlags := 24, slot := 6, constantValue := 0 }]
  methods := #[k11m0, k11m1, k11m2, k11m3, k11m4, k11m5, k11m6, k11m7, k11m8]
  instanceTypes := #[(.array .byte), .byte, .int, .boolean]
  staticTypes := #[.long, .boolean, (.array (.object "java/io/ObjectStreamField")), .char, (.object "java/util/Comparator"), .byte, .byte]
  resolved := Array.replicate 1451 none
  statics := some 0 }

def pool12 : Array CpInfo := pool [(2, .class_ 4), (1, u "java/lang/Object"), (0, u "<init>"), (0, u "()V"), (1, .class_ 10), (1, u "java/lang/Number"), (2, .class_ 14), (0, u "java/io/Serializable"), (0, u "serialVersionUID"), (0, u "J")] 20

def k12m0 : Method := { name := "<init>", desc := "()V", sig := { parameters := [], returnType := none }, accessFlags := 1, code := none }
/-- java/lang/Number -/
def k12 : Class := { plain "java/lang/Number" (some 0) with
  accessFlags := 1057
  interfaces := #[6]
  cf := some (fileOf pool12 8 #[] #[{ accessFlags := 1, nameIndex := 5, descriptorIndex := 6, attributes := #[] }] 1057 2 #[13] #[{ accessFlags := 26, nameIndex := 15, descriptorIndex := 16, attributes := #[] }])
  fields := #[{ name := "serialVersionUID", type := .long, accessFlags := 26, slot := 0, constantValue := 0 }]
  methods := #[k12m0]
  instanceTypes := #[]
  staticTypes := #[.long]
  resolved := Array.replicate 37 none
  statics := none }

def pool13 : Array CpInfo := pool [(1, .class_ 2), (0, u "java/lang/Integer"), (16, u "digits"), (0, u "[C"), (33, u "(I)I"), (19, u "stringSize"), (2, u "getChars"), (0, u "(II[B)I"), (4, .fieldref 1 84), (0, .nameAndType 85 86), (0, u "DigitOnes"), (0, u "[B"), (0, .fieldref 1 88), (0, .nameAndType 89 86), (0, u "DigitTens"), (99, .class_ 190), (0, u "java/lang/Integer$IntegerCache"), (3, u "I"), (8, .class_ 204), (0, u "java/lang/Number"), (2, u "value"), (94, u "TYPE"), (0, u "Ljava/lang/Class;"), (0, .class_ 305), (0, u "java/lang/Comparable"), (0, .class_ 307), (0, u "java/lang/constant/Constable"), (0, .class_ 309), (0, u "java/lang/constant/ConstantDesc"), (0, u "MIN_VALUE"), (1, u "MAX_VALUE"), (3, u "SIZE"), (1, u "BYTES"), (1, u "serialVersionUID"), (0, u "J")] 131

def k13c0 : Code := { maxStack := 4, maxLocals := 7, code := jdk_33_method_12_code, exceptionTable := #[], attributes := #[] }
def k13m0 : Method := { name := "getChars", desc := "(II[B)I", sig := { parameters := [.int, .int, (.array .byte)], returnType := some .int }, accessFlags := 8, code := some k13c0 }
def k13c1 : Code := { maxStack := 2, maxLocals := 4, code := jdk_33_method_13_code, exceptionTable := #[], attributes := #[] }
def k13m1 : Method := { name := "stringSize", desc := "(I)I", sig := { parameters := [.int], returnType := some .int }, accessFlags := 8, code := some k13c1 }
/-- java/lang/Integer -/
def k13 : Class := { plain "java/lang/Integer" (some 12) with
  accessFlags := 49
  interfaces := #[7, 9, 10]
  cf := some (fileOf pool13 1 #[.nestMembers #[189]] #[{ accessFlags := 8, nameIndex := 77, descriptorIndex := 78, attributes := #[] }, { accessFlags := 8, nameIndex := 74, descriptorIndex := 54, attributes := #[] }] 49 203 #[304, 306, 308] #[{ accessFlags := 25, nameIndex := 310, descriptorIndex := 194, attributes := #[] }, { accessFlags := 25, nameIndex := 312, descriptorIndex := 194, attributes := #[] }, { accessFlags := 25, nameIndex := 302, descriptorIndex := 303, attributes := #[] }, { accessFlags := 24, nameIndex := 19, descriptorIndex := 20, attributes := #[] }, { accessFlags := 24, nameIndex := 89, descriptorIndex := 86, attributes := #[] }, { accessFlags := 24, nameIndex := 85, descriptorIndex := 86, attributes := #[] }, { accessFlags := 18, nameIndex := 207, descriptorIndex := 194, attributes := #[] }, { accessFlags := 25, nameIndex := 316, descriptorIndex := 194, attributes := #[] }, { accessFlags := 25, nameIndex := 318, descriptorIndex := 194, attributes := #[] }, { accessFlags := 26, nameIndex := 320, descriptorIndex := 321, attributes := #[] }])
  fields := #[{ name := "MIN_VALUE", type := .int, accessFlags := 25, slot := 0, constantValue := 0 }, { name := "MAX_VALUE", type := .int, accessFlags := 25, slot := 1, constantValue := 0 }, { name := "TYPE", type := (.object "java/lang/Class"), accessFlags := 25, slot := 2, constantValue := 0 }, { name := "digits", type := (.array .char), accessFlags := 24, slot := 3, constantValue := 0 }, { name := "DigitTens", type := (.array .byte), accessFlags := 24, slot := 4, constantValue := 0 }, { name := "DigitOnes", type := (.array .byte), accessFlags := 24, slot := 5, constantValue := 0 }, { name := "value", type := .int, accessFlags := 18, slot := 0, constantValue := 0 }, { name := "SIZE", type := .int, accessFlags := 25, slot := 6, constantValue := 0 }, { name := "BYTES", type := .int, accessFlags := 25, slot := 7, constantValue := 0 }, { name := "serialVersionUID", type := .long, accessFlags := 26, slot := 8, constantValue := 0 }]
  methods := #[k13m0, k13m1]
  instanceTypes := #[.int]
  staticTypes := #[.int, .int, (.object "java/lang/Class"), (.array .char), (.array .byte), (.array .byte), .int, .int, .long]
  resolved := Array.replicate 453 none
  statics := some 1 }

def pool14 : Array CpInfo := pool [(2, .class_ 4), (1, u "java/lang/Object"), (0, u "<init>"), (0, u "()V"), (1, .class_ 10), (1, u "java/lang/System"), (0, u "allowSecurityManager"), (0, u "I"), (16, u "cons"), (0, u "Ljava/io/Console;"), (77, .class_ 110), (1, u "java/lang/System$CallersHolder"), (43, u "initialErrStream"), (0, u "Ljava/io/PrintStream;"), (19, u "security"), (0, u "Ljava/lang/SecurityManager;"), (31, .class_ 209), (0, u "java/lang/System$1"), (7, u "props"), (0, u "Ljava/util/Properties;"), (2, u "lineSeparator"), (0, u "Ljava/lang/String;"), (96, .class_ 321), (1, u "java/lang/System$LoggerFinder"), (5, .class_ 328), (0, u "java/lang/System$Logger"), (67, u "err"), (2, u "out"), (91, u "notSupportedJnuEncoding"), (15, u "in"), (17, u "initialIn"), (0, u "Ljava/io/InputStream;"), (35, u "bootLayer"), (0, u "Ljava/lang/ModuleLayer;"), (99, .class_ 664), (0, u "java/lang/System$2"), (9, u "NEVER"), (2, u "MAYBE"), (49, u "arraycopy"), (0, u "(Ljava/lang/Object;ILjava/lang/Object;II)V"), (72, .class_ 802), (0, u "java/lang/System$Logger$Level")] 31

def k14m0 : Method := { name := "<init>", desc := "()V", sig := { parameters := [], returnType := none }, accessFlags := 2, code := none }
def k14m1 : Method := { name := "arraycopy", desc := "(Ljava/lang/Object;ILjava/lang/Object;II)V", sig := { parameters := [(.object "java/lang/Object"), .int, (.object "java/lang/Object"), .int, .int], returnType := none }, accessFlags := 265, code := none }
/-- java/lang/System -/
def k14 : Class := { plain "java/lang/System" (some 0) with
  accessFlags := 49
  interfaces := #[]
  cf := some (fileOf pool14 8 #[.nestMembers #[319, 327, 801, 108, 663, 208]] #[{ accessFlags := 2, nameIndex := 5, descriptorIndex := 6, attributes := #[] }, { accessFlags := 265, nameIndex := 727, descriptorIndex := 728, attributes := #[] }] 49 2 #[] #[{ accessFlags := 25, nameIndex := 507, descriptorIndex := 526, attributes := #[] }, { accessFlags := 25, nameIndex := 399, descriptorIndex := 155, attributes := #[] }, { accessFlags := 25, nameIndex := 396, descriptorIndex := 155, attributes := #[] }, { accessFlags := 10, nameIndex := 525, descriptorIndex := 526, attributes := #[] }, { accessFlags := 26, nameIndex := 674, descriptorIndex := 12, attributes := #[] }, { accessFlags := 26, nameIndex := 677, descriptorIndex := 12, attributes := #[] }, { accessFlags := 10, nameIndex := 11, descriptorIndex := 12, attributes := #[] }, { accessFlags := 74, nameIndex := 175, descriptorIndex := 176, attributes := #[] }, { accessFlags := 10, nameIndex := 491, descriptorIndex := 222, attributes := #[] }, { accessFlags := 74, nameIndex := 29, descriptorIndex := 30, attributes := #[] }, { accessFlags := 74, nameIndex := 154, descriptorIndex := 155, attributes := #[] }, { accessFlags := 10, nameIndex := 217, descriptorIndex := 218, attributes := #[] }, { accessFlags := 10, nameIndex := 221, descriptorIndex := 222, attributes := #[] }, { accessFlags := 8, nameIndex := 562, descriptorIndex := 563, attributes := #[] }])
  fields := #[{ name := "in", type := (.object "java/io/InputStream"), accessFlags := 25, slot := 0, constantValue := 0 }, { name := "out", type := (.object "java/io/PrintStream"), accessFlags := 25, slot := 1, constantValue := 0 }, { name := "err", type := (.object "java/io/PrintStream"), accessFlags := 25, slot := 2, constantValue := 0 }, { name := "initialIn", type := (.object "java/io/InputStream"), accessFlags := 10, slot := 3, constantValue := 0 }, { name := "NEVER", type := .int, accessFlags := 26, slot := 4, constantValue := 0 }, { name := "MAYBE", type := .int, accessFlags := 26, slot := 5, constantValue := 0 }, { name := "allowSecurityManager", type := .int, accessFlags := 10, slot := 6, constantValue := 0 }, { name := "security", type := (.object "java/lang/SecurityManager"), accessFlags := 74, slot := 7, constantValue := 0 }, { name := "notSupportedJnuEncoding", type := (.object "java/lang/String"), accessFlags := 10, slot := 8, constantValue := 0 }, { name := "cons", type := (.object "java/io/Console"), accessFlags := 74, slot := 9, constantValue := 0 }, { name := "initialErrStream", type := (.object "java/io/PrintStream"), accessFlags := 74, slot := 10, constantValue := 0 }, { name := "props", type := (.object "java/util/Properties"), accessFlags := 10, slot := 11, constantValue := 0 }, { name := "lineSeparator", type := (.object "java/lang/String"), accessFlags := 10, slot := 12, constantValue := 0 }, { name := "bootLayer", type := (.object "java/lang/ModuleLayer"), accessFlags := 8, slot := 13, constantValue := 0 }]
  methods := #[k14m0, k14m1]
  instanceTypes := #[]
  staticTypes := #[(.object "java/io/InputStream"), (.object "java/io/PrintStream"), (.object "java/io/PrintStream"), (.object "java/io/InputStream"), .int, .int, .int, (.object "java/lang/SecurityManager"), (.object "java/lang/String"), (.object "java/io/Console"), (.object "java/io/PrintStream"), (.object "java/util/Properties"), (.object "java/lang/String"), (.object "java/lang/ModuleLayer")]
  resolved := Array.replicate 834 none
  statics := none }

def pool15 : Array CpInfo := pool [(2, .class_ 4), (1, u "java/lang/Object"), (0, u "<init>"), (0, u "()V"), (7, .class_ 16), (1, u "java/util/Arrays"), (57, .class_ 76), (1, u "java/util/Arrays$NaturalOrder"), (32, u "()Ljava/lang/Object;"), (3, .class_ 115), (1, u "java/util/Arrays$LegacyMergeSort"), (1, u "Z"), (10, .nameAndType 129 109), (0, u "clone"), (9, u "copyOfRange"), (10, .methodref 151 152), (0, .class_ 153), (0, .nameAndType 154 155), (0, u "java/lang/System"), (0, u "arraycopy"), (0, u "(Ljava/lang/Object;ILjava/lang/Object;II)V"), (146, u "copyOf"), (1, .methodref 305 306), (0, .class_ 307), (0, .nameAndType 308 309), (0, u "java/lang/Math"), (0, u "min"), (0, u "(II)I"), (0, .methodref 311 128), (0, .class_ 312), (0, u "[B"), (26, .methodref 14 340), (0, .nameAndType 341 342), (0, u "copyOfRangeByte"), (0, u "([BII)[B"), (0, .methodref 14 344), (0, .nameAndType 345 346), (0, u "checkLength"), (0, u "(II)V"), (28, .class_ 376), (0, u "java/util/Arrays$ArrayList"), (68, u "$assertionsDisabled"), (269, u "MIN_ARRAY_SORT_GRAN"), (0, u "I"), (2, u "INSERTIONSORT_THRESHOLD"), (149, u "([BI)[B"), (105, .class_ 976), (0, u "java/util/Arrays$ArrayItr")] 52

def k15m0 : Method := { name := "<init>", desc := "()V", sig := { parameters := [], returnType := none }, accessFlags := 2, code := none }
def k15c1 : Code := { maxStack := 6, maxLocals := 3, code := jdk_65_method_121_code, exceptionTable := #[], attributes := #[] }
def k15m1 : Method := { name := "copyOf", desc := "([BI)[B", sig := { parameters := [(.array .byte), .int], returnType := some (.array .byte) }, accessFlags := 9, code := some k15c1 }
def k15c2 : Code := { maxStack := 4, maxLocals := 2, code := jdk_65_method_131_code, exceptionTable := #[], attributes := #[] }
def k15m2 : Method := { name := "checkLength", desc := "(II)V", sig := { parameters := [.int, .int], returnType := none }, accessFlags := 10, code := some k15c2 }
def k15c3 : Code := { maxStack := 3, maxLocals := 3, code := jdk_65_method_132_code, exceptionTable := #[], attributes := #[] }
def k15m3 : Method := { name := "copyOfRange", desc := "([BII)[B", sig := { parameters := [(.array .byte), .int, .int], returnType := some (.array .byte) }, accessFlags := 9, code := some k15c3 }
def k15c4 : Code := { maxStack := 6, maxLocals := 5, code := jdk_65_method_133_code, exceptionTable := #[], attributes := #[] }
def k15m4 : Method := { name := "copyOfRangeByte", desc := "([BII)[B", sig := { parameters := [(.array .byte), .int, .int], returnType := some (.array .byte) }, accessFlags := 10, code := some k15c4 }
/-- java/util/Arrays -/
def k15 : Class := { plain "java/util/Arrays" (some 0) with
  accessFlags := 49
  interfaces := #[]
  cf := some (fileOf pool15 14 #[.nestMembers #[975, 375, 113, 74]] #[{ accessFlags := 2, nameIndex := 5, descriptorIndex := 6, attributes := #[] }, { accessFlags := 9, nameIndex := 302, descriptorIndex := 869, attributes := #[] }, { accessFlags := 10, nameIndex := 345, descriptorIndex := 346, attributes := #[] }, { accessFlags := 9, nameIndex := 139, descriptorIndex := 342, attributes := #[] }, { accessFlags := 10, nameIndex := 341, descriptorIndex := 342, attributes := #[] }] 49 2 #[] #[{ accessFlags := 26, nameIndex := 715, descriptorIndex := 716, attributes := #[] }, { accessFlags := 26, nameIndex := 719, descriptorIndex := 716, attributes := #[] }, { accessFlags := 4120, nameIndex := 445, descriptorIndex := 117, attributes := #[] }])
  fields := #[{ name := "MIN_ARRAY_SORT_GRAN", type := .int, accessFlags := 26, slot := 0, constantValue := 0 }, { name := "INSERTIONSORT_THRESHOLD", type := .int, accessFlags := 26, slot := 1, constantValue := 0 }, { name := "$assertionsDisabled", type := .boolean, accessFlags := 4120, slot := 2, constantValue := 0 }]
  methods := #[k15m0, k15m1, k15m2, k15m3, k15m4]
  instanceTypes := #[]
  staticTypes := #[.int, .int, .boolean]
  resolved := Array.replicate 1029 none
  statics := none }

def pool16 : Array CpInfo := pool [(1, .class_ 2), (0, u "java/lang/Math"), (1, .class_ 6), (1, u "java/lang/Object"), (0, u "<init>"), (0, u "()V"), (89, .class_ 100), (1, u "java/lang/Math$RandomNumberGeneratorHolder"), (71, u "negativeZeroFloatBits"), (0, u "J"), (2, u "negativeZeroDoubleBits"), (21, u "max"), (2, u "min"), (43, u "$assertionsDisabled"), (0, u "Z"), (88, u "(II)I"), (2, u "twoToTheDoubleScaleDown"), (0, u "D"), (4, u "twoToTheDoubleScaleUp"), (9, u "E"), (3, u "PI"), (2, u "TAU"), (2, u "DEGREES_TO_RADIANS"), (0, u "RADIANS_TO_DEGREES")] 94

def k16m0 : Method := { name := "<init>", desc := "()V", sig := { parameters := [], returnType := none }, accessFlags := 2, code := none }
def k16c1 : Code := { maxStack := 2, maxLocals := 2, code := jdk_29_method_65_code, exceptionTable := #[], attributes := #[] }
def k16m1 : Method := { name := "max", desc := "(II)I", sig := { parameters := [.int, .int], returnType := some .int }, accessFlags := 9, code := some k16c1 }
def k16c2 : Code := { maxStack := 2, maxLocals := 2, code := jdk_29_method_69_code, exceptionTable := #[], attributes := #[] }
def k16m2 : Method := { name := "min", desc := "(II)I", sig := { parameters := [.int, .int], returnType := some .int }, accessFlags := 9, code := some k16c2 }
/-- java/lang/Math -/
def k16 : Class := { plain "java/lang/Math" (some 0) with
  accessFlags := 49
  interfaces := #[]
  cf := some (fileOf pool16 1 #[.nestMembers #[98]] #[{ accessFlags := 2, nameIndex := 7, descriptorIndex := 8, attributes := #[] }, { accessFlags := 9, nameIndex := 198, descriptorIndex := 335, attributes := #[] }, { accessFlags := 9, nameIndex := 201, descriptorIndex := 335, attributes := #[] }] 49 4 #[] #[{ accessFlags := 25, nameIndex := 354, descriptorIndex := 339, attributes := #[] }, { accessFlags := 25, nameIndex := 358, descriptorIndex := 339, attributes := #[] }, { accessFlags := 25, nameIndex := 361, descriptorIndex := 339, attributes := #[] }, { accessFlags := 26, nameIndex := 364, descriptorIndex := 339, attributes := #[] }, { accessFlags := 26, nameIndex := 365, descriptorIndex := 339, attributes := #[] }, { accessFlags := 26, nameIndex := 172, descriptorIndex := 173, attributes := #[] }, { accessFlags := 26, nameIndex := 176, descriptorIndex := 173, attributes := #[] }, { accessFlags := 8, nameIndex := 344, descriptorIndex := 339, attributes := #[] }, { accessFlags := 8, nameIndex := 338, descriptorIndex := 339, attributes := #[] }, { accessFlags := 4120, nameIndex := 245, descriptorIndex := 246, attributes := #[] }])
  fields := #[{ name := "E", type := .double, accessFlags := 25, slot := 0, constantValue := 0 }, { name := "PI", type := .double, accessFlags := 25, slot := 1, constantValue := 0 }, { name := "TAU", type := .double, accessFlags := 25, slot := 2, constantValue := 0 }, { name := "DEGREES_TO_RADIANS", type := .double, accessFlags := 26, slot := 3, constantValue := 0 }, { name := "RADIANS_TO_DEGREES", type := .double, accessFlags := 26, slot := 4, constantValue := 0 }, { name := "negativeZeroFloatBits", type := .long, accessFlags := 26, slot := 5, constantValue := 0 }, { name := "negativeZeroDoubleBits", type := .long, accessFlags := 26, slot := 6, constantValue := 0 }, { name := "twoToTheDoubleScaleUp", type := .double, accessFlags := 8, slot := 7, constantValue := 0 }, { name := "twoToTheDoubleScaleDown", type := .double, accessFlags := 8, slot := 8, constantValue := 0 }, { name := "$assertionsDisabled", type := .boolean, accessFlags := 4120, slot := 9, constantValue := 0 }]
  methods := #[k16m0, k16m1, k16m2]
  instanceTypes := #[]
  staticTypes := #[.double, .double, .double, .double, .double, .long, .long, .double, .double, .boolean]
  resolved := Array.replicate 460 none
  statics := none }

def pool17 : Array CpInfo := pool [(1, .class_ 2), (0, u "java/lang/String"), (1, .class_ 6), (1, u "java/lang/Object"), (0, u "<init>"), (0, u "()V"), (0, .methodref 1 10), (0, .nameAndType 11 12), (0, u "checkIndex"), (0, u "(II)V"), (1, .class_ 16), (1, u "java/lang/StringLatin1"), (36, u "([BI)C"), (67, u "$assertionsDisabled"), (0, u "Z"), (98, .class_ 223), (1, u "java/lang/StringLatin1$LinesSpliterator"), (28, u "charAt"), (137, .class_ 391), (0, u "java/lang/StringLatin1$CharsSpliterator")] 3

def k17m0 : Method := { name := "<init>", desc := "()V", sig := { parameters := [], returnType := none }, accessFlags := 0, code := none }
def k17c1 : Code := { maxStack := 2, maxLocals := 2, code := jdk_43_method_2_code, exceptionTable := #[], attributes := #[] }
def k17m1 : Method := { name := "charAt", desc := "([BI)C", sig := { parameters := [(.array .byte), .int], returnType := some .char }, accessFlags := 9, code := some k17c1 }
/-- java/lang/StringLatin1 -/
def k17 : Class := { plain "java/lang/StringLatin1" (some 0) with
  accessFlags := 48
  interfaces := #[]
  cf := some (fileOf pool17 14 #[.nestMembers #[390, 221]] #[{ accessFlags := 0, nameIndex := 7, descriptorIndex := 8, attributes := #[] }, { accessFlags := 9, nameIndex := 252, descriptorIndex := 53, attributes := #[] }] 48 4 #[] #[{ accessFlags := 4120, nameIndex := 121, descriptorIndex := 122, attributes := #[] }])
  fields := #[{ name := "$assertionsDisabled", type := .boolean, accessFlags := 4120, slot := 0, constantValue := 0 }]
  methods := #[k17m0, k17m1]
  instanceTypes := #[]
  staticTypes := #[.boolean]
  resolved := Array.replicate 395 none
  statics := none }

def pool18 : Array CpInfo := pool [(2, .class_ 4), (1, u "java/lang/Object"), (0, u "<init>"), (0, u "()V"), (17, .class_ 26), (1, u "jdk/internal/util/Preconditions"), (6, u "checkIndex"), (21, .class_ 56), (0, u "jdk/internal/util/Preconditions$4"), (57, .class_ 115), (0, u "jdk/internal/util/Preconditions$1"), (7, u "SIOOBE_FORMATTER"), (0, u "Ljava/util/function/BiFunction;"), (0, .class_ 126), (0, u "jdk/internal/util/Preconditions$2"), (3, u "AIOOBE_FORMATTER"), (0, .class_ 132), (0, u "jdk/internal/util/Preconditions$3"), (3, u "IOOBE_FORMATTER"), (41, u "(IILjava/util/function/BiFunction;)I")] 15

def k18m0 : Method := { name := "<init>", desc := "()V", sig := { parameters := [], returnType := none }, accessFlags := 1, code := none }
def k18c1 : Code := { maxStack := 3, maxLocals := 3, code := jdk_41_method_11_code, exceptionTable := #[], attributes := #[] }
def k18m1 : Method := { name := "checkIndex", desc := "(IILjava/util/function/BiFunction;)I", sig := { parameters := [.int, .int, (.object "java/util/function/BiFunction")], returnType := some .int }, accessFlags := 9, code := some k18c1 }
/-- jdk/internal/util/Preconditions -/
def k18 : Class := { plain "jdk/internal/util/Preconditions" (some 0) with
  accessFlags := 33
  interfaces := #[]
  cf := some (fileOf pool18 24 #[.nestMembers #[55, 131, 125, 114]] #[{ accessFlags := 1, nameIndex := 5, descriptorIndex := 6, attributes := #[] }, { accessFlags := 9, nameIndex := 33, descriptorIndex := 178, attributes := #[] }] 33 2 #[] #[{ accessFlags := 25, nameIndex := 123, descriptorIndex := 124, attributes := #[] }, { accessFlags := 25, nameIndex := 130, descriptorIndex := 124, attributes := #[] }, { accessFlags := 25, nameIndex := 136, descriptorIndex := 124, attributes := #[] }])
  fields := #[{ name := "SIOOBE_FORMATTER", type := (.object "java/util/function/BiFunction"), accessFlags := 25, slot := 0, constantValue := 0 }, { name := "AIOOBE_FORMATTER", type := (.object "java/util/function/BiFunction"), accessFlags := 25, slot := 1, constantValue := 0 }, { name := "IOOBE_FORMATTER", type := (.object "java/util/function/BiFunction"), accessFlags := 25, slot := 2, constantValue := 0 }]
  methods := #[k18m0, k18m1]
  instanceTypes := #[]
  staticTypes := #[(.object "java/util/function/BiFunction"), (.object "java/util/function/BiFunction"), (.object "java/util/function/BiFunction")]
  resolved := Array.replicate 194 none
  statics := some 2 }

def pool19 : Array CpInfo := pool [(1, .class_ 2), (0, u "java/lang/Cloneable"), (0, .class_ 4), (0, u "java/lang/Object")] 2

/-- java/lang/Cloneable -/
def k19 : Class := { plain "java/lang/Cloneable" (some 0) with
  accessFlags := 1537
  interfaces := #[]
  cf := some (fileOf pool19 1 #[] #[] 1537 3 #[] #[])
  fields := #[]
  methods := #[]
  instanceTypes := #[]
  staticTypes := #[]
  resolved := Array.replicate 7 none
  statics := none }

def pool20 : Array CpInfo := pool [(9, u "<init>"), (6, .class_ 18), (1, u "java/lang/Object"), (0, u "()V"), (1, .class_ 23), (1, u "jdk/internal/util/ArraysSupport"), (0, u "LOG2_ARRAY_LONG_INDEX_SCALE"), (0, u "I"), (2, u "U"), (0, u "Ljdk/internal/misc/Unsafe;"), (8, u "BIG_ENDIAN"), (0, u "Z"), (8, u "LOG2_BYTE_BIT_SIZE"), (4, u "LOG2_ARRAY_INT_INDEX_SCALE"), (54, u "JLA"), (0, u "Ljdk/internal/access/JavaLangAccess;"), (11, u "LOG2_ARRAY_BOOLEAN_INDEX_SCALE"), (9, u "LOG2_ARRAY_BYTE_INDEX_SCALE"), (5, u "LOG2_ARRAY_CHAR_INDEX_SCALE"), (5, u "LOG2_ARRAY_SHORT_INDEX_SCALE"), (18, u "LOG2_ARRAY_FLOAT_INDEX_SCALE"), (24, u "LOG2_ARRAY_DOUBLE_INDEX_SCALE"), (6, .methodref 195 196), (0, .class_ 197), (0, .nameAndType 198 199), (0, u "java/lang/Math"), (0, u "max"), (0, u "(II)I"), (0, .integer 2147483639), (76, u "T_BOOLEAN"), (2, u "T_CHAR"), (1, u "T_FLOAT"), (1, u "T_DOUBLE"), (1, u "T_BYTE"), (1, u "T_SHORT"), (1, u "T_INT"), (1, u "T_LONG"), (1, u "SOFT_MAX_ARRAY_LENGTH"), (56, u "newLength"), (0, u "(III)I")] 25

def k20m0 : Method := { name := "<init>", desc := "()V", sig := { parameters := [], returnType := none }, accessFlags := 2, code := none }
def k20c1 : Code := { maxStack := 3, maxLocals := 4, code := jdk_48_method_27_code, exceptionTable := #[], attributes := #[] }
def k20m1 : Method := { name := "newLength", desc := "(III)I", sig := { parameters := [.int, .int, .int], returnType := some .int }, accessFlags := 9, code := some k20c1 }
/-- jdk/internal/util/ArraysSupport -/
def k20 : Class := { plain "jdk/internal/util/ArraysSupport" (some 0) with
  accessFlags := 33
  interfaces := #[]
  cf := some (fileOf pool20 21 #[] #[{ accessFlags := 2, nameIndex := 9, descriptorIndex := 19, attributes := #[] }, { accessFlags := 9, nameIndex := 351, descriptorIndex := 352, attributes := #[] }] 33 16 #[] #[{ accessFlags := 24, nameIndex := 28, descriptorIndex := 29, attributes := #[] }, { accessFlags := 26, nameIndex := 38, descriptorIndex := 39, attributes := #[] }, { accessFlags := 25, nameIndex := 121, descriptorIndex := 25, attributes := #[] }, { accessFlags := 25, nameIndex := 131, descriptorIndex := 25, attributes := #[] }, { accessFlags := 25, nameIndex := 137, descriptorIndex := 25, attributes := #[] }, { accessFlags := 25, nameIndex := 143, descriptorIndex := 25, attributes := #[] }, { accessFlags := 25, nameIndex := 53, descriptorIndex := 25, attributes := #[] }, { accessFlags := 25, nameIndex := 24, descriptorIndex := 25, attributes := #[] }, { accessFlags := 25, nameIndex := 162, descriptorIndex := 25, attributes := #[] }, { accessFlags := 25, nameIndex := 187, descriptorIndex := 25, attributes := #[] }, { accessFlags := 26, nameIndex := 48, descriptorIndex := 25, attributes := #[] }, { accessFlags := 25, nameIndex := 277, descriptorIndex := 25, attributes := #[] }, { accessFlags := 25, nameIndex := 280, descriptorIndex := 25, attributes := #[] }, { accessFlags := 25, nameIndex := 282, descriptorIndex := 25, attributes := #[] }, { accessFlags := 25, nameIndex := 284, descriptorIndex := 25, attributes := #[] }, { accessFlags := 25, nameIndex := 286, descriptorIndex := 25, attributes := #[] }, { accessFlags := 25, nameIndex := 288, descriptorIndex := 25, attributes := #[] }, { accessFlags := 25, nameIndex := 290, descriptorIndex := 25, attributes := #[] }, { accessFlags := 25, nameIndex := 292, descriptorIndex := 25, attributes := #[] }, { accessFlags := 26, nameIndex := 108, descriptorIndex := 109, attributes := #[] }, { accessFlags := 25, nameIndex := 294, descriptorIndex := 25, attributes := #[] }])
  fields := #[{ name := "U", type := (.object "jdk/internal/misc/Unsafe"), accessFlags := 24, slot := 0, constantValue := 0 }, { name := "BIG_ENDIAN", type := .boolean, accessFlags := 26, slot := 1, constantValue := 0 }, { name := "LOG2_ARRAY_BOOLEAN_INDEX_SCALE", type := .int, accessFlags := 25, slot := 2, constantValue := 0 }, { name := "LOG2_ARRAY_BYTE_INDEX_SCALE", type := .int, accessFlags := 25, slot := 3, constantValue := 0 }, { name := "LOG2_ARRAY_CHAR_INDEX_SCALE", type := .int, accessFlags := 25, slot := 4, constantValue := 0 }, { name := "LOG2_ARRAY_SHORT_INDEX_SCALE", type := .int, accessFlags := 25, slot := 5, constantValue := 0 }, { name := "LOG2_ARRAY_INT_INDEX_SCALE", type := .int, accessFlags := 25, slot := 6, constantValue := 0 }, { name := "LOG2_ARRAY_LONG_INDEX_SCALE", type := .int, accessFlags := 25, slot := 7, constantValue := 0 }, { name := "LOG2_ARRAY_FLOAT_INDEX_SCALE", type := .int, accessFlags := 25, slot := 8, constantValue := 0 }, { name := "LOG2_ARRAY_DOUBLE_INDEX_SCALE", type := .int, accessFlags := 25, slot := 9, constantValue := 0 }, { name := "LOG2_BYTE_BIT_SIZE", type := .int, accessFlags := 26, slot := 10, constantValue := 0 }, { name := "T_BOOLEAN", type := .int, accessFlags := 25, slot := 11, constantValue := 0 }, { name := "T_CHAR", type := .int, accessFlags := 25, slot := 12, constantValue := 0 }, { name := "T_FLOAT", type := .int, accessFlags := 25, slot := 13, constantValue := 0 }, { name := "T_DOUBLE", type := .int, accessFlags := 25, slot := 14, constantValue := 0 }, { name := "T_BYTE", type := .int, accessFlags := 25, slot := 15, constantValue := 0 }, { name := "T_SHORT", type := .int, accessFlags := 25, slot := 16, constantValue := 0 }, { name := "T_INT", type := .int, accessFlags := 25, slot := 17, constantValue := 0 }, { name := "T_LONG", type := .int, accessFlags := 25, slot := 18, constantValue := 0 }, { name := "JLA", type := (.object "jdk/internal/access/JavaLangAccess"), accessFlags := 26, slot := 19, constantValue := 0 }, { name := "SOFT_MAX_ARRAY_LENGTH", type := .int, accessFlags := 25, slot := 20, constantValue := 0 }]
  methods := #[k20m0, k20m1]
  instanceTypes := #[]
  staticTypes := #[(.object "jdk/internal/misc/Unsafe"), .boolean, .int, .int, .int, .int, .int, .int, .int, .int, .int, .int, .int, .int, .int, .int, .int, .int, .int, (.object "jdk/internal/access/JavaLangAccess"), .int]
  resolved := Array.replicate 378 none
  statics := none }

/-- the primitive byte -/
def k21 : Class := { plain "byte" none with kind := .primitive 'B', accessFlags := 0x411 }
/-- [B -/
def k22 : Class := { plain "[B" (some 0) with kind := .array 21 .byte, interfaces := #[19, 6], accessFlags := 1041 }

/-- the primitive int -/
def k23 : Class := { plain "int" none with kind := .primitive 'I', accessFlags := 0x411 }
/-- [I -/
def k24 : Class := { plain "[I" (some 0) with kind := .array 23 .int, interfaces := #[19, 6], accessFlags := 1041 }

/-- the primitive long -/
def k25 : Class := { plain "long" none with kind := .primitive 'J', accessFlags := 0x411 }
/-- [J -/
def k26 : Class := { plain "[J" (some 0) with kind := .array 25 .long, interfaces := #[19, 6], accessFlags := 1041 }

def heap : Heap := #[{ cls := 11, slots := #[.long 0, .int 1, .null, .int 0, .null, .int 0, .int 0], vm := .statics 11 },
  { cls := 13, slots := #[.int 0, .int 0, .null, .null, .ref 4, .ref 3, .int 0, .int 0, .long 0], vm := .statics 13 },
  { cls := 18, slots := #[.null, .null, .null], vm := .statics 18 },
  { cls := 22, slots := #[.int 48, .int 49, .int 50, .int 51, .int 52, .int 53, .int 54, .int 55, .int 56, .int 57, .int 48, .int 49, .int 50, .int 51, .int 52, .int 53, .int 54, .int 55, .int 56, .int 57, .int 48, .int 49, .int 50, .int 51, .int 52, .int 53, .int 54, .int 55, .int 56, .int 57, .int 48, .int 49, .int 50, .int 51, .int 52, .int 53, .int 54, .int 55, .int 56, .int 57, .int 48, .int 49, .int 50, .int 51, .int 52, .int 53, .int 54, .int 55, .int 56, .int 57, .int 48, .int 49, .int 50, .int 51, .int 52, .int 53, .int 54, .int 55, .int 56, .int 57, .int 48, .int 49, .int 50, .int 51, .int 52, .int 53, .int 54, .int 55, .int 56, .int 57, .int 48, .int 49, .int 50, .int 51, .int 52, .int 53, .int 54, .int 55, .int 56, .int 57, .int 48, .int 49, .int 50, .int 51, .int 52, .int 53, .int 54, .int 55, .int 56, .int 57, .int 48, .int 49, .int 50, .int 51, .int 52, .int 53, .int 54, .int 55, .int 56, .int 57], vm := .none },
  { cls := 22, slots := #[.int 48, .int 48, .int 48, .int 48, .int 48, .int 48, .int 48, .int 48, .int 48, .int 48, .int 49, .int 49, .int 49, .int 49, .int 49, .int 49, .int 49, .int 49, .int 49, .int 49, .int 50, .int 50, .int 50, .int 50, .int 50, .int 50, .int 50, .int 50, .int 50, .int 50, .int 51, .int 51, .int 51, .int 51, .int 51, .int 51, .int 51, .int 51, .int 51, .int 51, .int 52, .int 52, .int 52, .int 52, .int 52, .int 52, .int 52, .int 52, .int 52, .int 52, .int 53, .int 53, .int 53, .int 53, .int 53, .int 53, .int 53, .int 53, .int 53, .int 53, .int 54, .int 54, .int 54, .int 54, .int 54, .int 54, .int 54, .int 54, .int 54, .int 54, .int 55, .int 55, .int 55, .int 55, .int 55, .int 55, .int 55, .int 55, .int 55, .int 55, .int 56, .int 56, .int 56, .int 56, .int 56, .int 56, .int 56, .int 56, .int 56, .int 56, .int 57, .int 57, .int 57, .int 57, .int 57, .int 57, .int 57, .int 57, .int 57, .int 57], vm := .none }]
def classes : Array Class := #[k0, k1, k2, k3, k4, k5, k6, k7, k8, k9, k10, k11, k12, k13, k14, k15, k16, k17, k18, k19, k20, k21, k22, k23, k24, k25, k26]
def interned : List (Array UInt16 × Addr) := []
def slotsUsed : Nat := 219
def theMethod : MethodId := ⟨1, 1⟩
def args0 : Array Value := #[.int 5]
def aboutOver (below : List Frame) : State where
  vm := { classes := classes, interned := interned.toArray }
  heap := heap
  slotsUsed := slotsUsed
  threads := #[{ frames := .invoking theMethod args0 :: below }]
def below0 : List Frame := [.native { method := ⟨0, 0⟩, args := #[] }]
def about1 : State := aboutOver below0
def p0 : Program := .bare "" "" ""
def e0 : Env := launch0.env 0 0 0
theorem w_frames : about1.frames = Frame.invoking theMethod args0 :: below0 := rfl
set_option maxRecDepth 65536 in
theorem w_args : argsFit about1.vm theMethod args0 = true := by decide +kernel
set_option maxRecDepth 65536 in
theorem w_heap : heapFits about1 = true := by decide +kernel
set_option maxRecDepth 65536 in
theorem w_runnable : about1.curStatus? = some .runnable := by decide +kernel
set_option maxRecDepth 65536 in
theorem w_alone : about1.alone = true := by decide +kernel
set_option maxRecDepth 65536 in
theorem w_named : about1.methodNamed? x = some theMethod := by decide +kernel
set_option maxRecDepth 65536 in
theorem w_hears : about1.hears theMethod below0 = true := by decide +kernel
set_option maxRecDepth 65536 in
theorem w_ripe : about1.ripe theMethod args0 below0 = true := by decide +kernel
theorem w_running : about1.status = .running := rfl
set_option maxRecDepth 65536 in
theorem w_room : about1.hasRoom e0.platform room_1 = true :=
  launch0.hasRoom_least _ room_1 (by decide +kernel) (by decide +kernel) (by decide +kernel) (by decide +kernel) (by decide +kernel) (by decide +kernel)
theorem allAtoms_all (ts : List Jvm.Cond) (a : Array Jvm.Value) (st : Jvm.State) : (allAtoms ts).before a st = ts.all (fun c => c.before a st) := by
  induction ts with
  | nil => rfl
  | cons c t ih =>
    show (Jvm.Cond.and c (allAtoms t)).before a st = _
    rw [Jvm.Cond.before_and, ih, List.all_cons]
def words1 : List Jvm.Cond := Jvm.Cond.code x code maxLocals ret :: tables_1
/-- a 'code' word, met by the world's own term for the bytes: nothing is compared byte by byte -/
theorem code_word {y : MethodName} {bytes : ByteArray} {mx : Nat} {rt : Option FieldType} {a : Array Value} {s : State} {m : MethodId} {meth : Method} {c : Code} (h1 : s.methodNamed? y = some m) (h2 : s.vm.method? m = some meth) (h3 : meth.code = some c) (h4 : c.code = bytes)
    (h5 : (c.maxLocals == mx && c.exceptionTable.isEmpty && decide (c.maxStack ≤ mostOperands) && decide (meth.sig.returnType = rt) && !meth.locks && decide (parseMethodDescriptor y.desc = some meth.sig)) = true) : (Jvm.Cond.code y bytes mx rt).before a s = true := by
  simp only [Bool.and_eq_true, beq_iff_eq, Bool.not_eq_true', decide_eq_true_eq] at h5
  obtain ⟨⟨⟨⟨⟨g1, g2⟩, g3⟩, g4⟩, g5⟩, g6⟩ := h5
  simp [Cond.before, Cond.holds, Cond.value, h1, h2, h3, h4, g1, g2, g3, g4, g5, g6]
def isCode : Jvm.Cond → Bool
  | .code _ _ _ _ => true
  | _ => false
theorem all_split {L : List Jvm.Cond} {P : Jvm.Cond → Bool} (h1 : L.all (fun c => isCode c || P c) = true) (h2 : ∀ c ∈ L.filter isCode, P c = true) : L.all P = true := by
  refine List.all_eq_true.mpr fun c hc => ?_
  have h := List.all_eq_true.mp h1 c hc
  rcases Bool.eq_false_or_eq_true (isCode c) with hi | hi
  · exact h2 c (List.mem_filter.mpr ⟨hc, hi⟩)
  · simpa [hi] using h
set_option maxRecDepth 65536 in
theorem w_c0 : (Jvm.Cond.code x code maxLocals ret).before args0 about1 = true := code_word (m := ⟨1, 1⟩) (meth := k1m1) (c := k1c1) (by decide +kernel) rfl rfl rfl (by decide +kernel)
set_option maxRecDepth 65536 in
theorem w_c1 : (Jvm.Cond.code ({ cls := "com/example/figurant/figurant/VerificationMode", name := "countOfTimes", desc := "(I)Ljava/lang/String;" } : Jvm.MethodName) prog_18_method_6_code (1 : Nat) (Option.some (Jvm.ClassFile.FieldType.object "java/lang/String"))).before args0 about1 = true := code_word (m := ⟨2, 0⟩) (meth := k2m0) (c := k2c0) (by decide +kernel) rfl rfl rfl (by decide +kernel)
set_option maxRecDepth 65536 in
theorem w_c2 : (Jvm.Cond.code ({ cls := "java/lang/StringBuilder", name := "<init>", desc := "()V" } : Jvm.MethodName) jdk_67_method_1_code (1 : Nat) (Option.none : Option Jvm.ClassFile.FieldType)).before args0 about1 = true := code_word (m := ⟨8, 0⟩) (meth := k8m0) (c := k8c0) (by decide +kernel) rfl rfl rfl (by decide +kernel)
set_option maxRecDepth 65536 in
theorem w_c3 : (Jvm.Cond.code ({ cls := "java/lang/AbstractStringBuilder", name := "<init>", desc := "(I)V" } : Jvm.MethodName) jdk_68_method_2_code (2 : Nat) (Option.none : Option Jvm.ClassFile.FieldType)).before args0 about1 = true := code_word (m := ⟨5, 1⟩) (meth := k5m1) (c := k5c1) (by decide +kernel) rfl rfl rfl (by decide +kernel)
set_option maxRecDepth 65536 in
theorem w_c4 : (Jvm.Cond.code ({ cls := "java/lang/Object", name := "<init>", desc := "()V" } : Jvm.MethodName) object_method_1_code (1 : Nat) (Option.none : Option Jvm.ClassFile.FieldType)).before args0 about1 = true := code_word (m := ⟨0, 0⟩) (meth := k0m0) (c := k0c0) (by decide +kernel) rfl rfl rfl (by decide +kernel)
set_option maxRecDepth 65536 in
theorem w_c5 : (Jvm.Cond.code ({ cls := "java/lang/StringBuilder", name := "append", desc := "(I)Ljava/lang/StringBuilder;" } : Jvm.MethodName) jdk_67_method_15_code (2 : Nat) (Option.some (Jvm.ClassFile.FieldType.object "java/lang/StringBuilder"))).before args0 about1 = true := code_word (m := ⟨8, 2⟩) (meth := k8m2) (c := k8c2) (by decide +kernel) rfl rfl rfl (by decide +kernel)
set_option maxRecDepth 65536 in
theorem w_c6 : (Jvm.Cond.code ({ cls := "java/lang/AbstractStringBuilder", name := "append", desc := "(I)Ljava/lang/AbstractStringBuilder;" } : Jvm.MethodName) jdk_68_method_32_code (4 : Nat) (Option.some (Jvm.ClassFile.FieldType.object "java/lang/AbstractStringBuilder"))).before args0 about1 = true := code_word (m := ⟨5, 6⟩) (meth := k5m6) (c := k5c6) (by decide +kernel) rfl rfl rfl (by decide +kernel)
set_option maxRecDepth 65536 in
theorem w_c7 : (Jvm.Cond.code ({ cls := "java/lang/Integer", name := "stringSize", desc := "(I)I" } : Jvm.MethodName) jdk_33_method_13_code (4 : Nat) (Option.some Jvm.ClassFile.FieldType.int)).before args0 about1 = true := code_word (m := ⟨13, 1⟩) (meth := k13m1) (c := k13c1) (by decide +kernel) rfl rfl rfl (by decide +kernel)
set_option maxRecDepth 65536 in
theorem w_c8 : (Jvm.Cond.code ({ cls := "java/lang/AbstractStringBuilder", name := "ensureCapacityInternal", desc := "(I)V" } : Jvm.MethodName) jdk_68_method_9_code (3 : Nat) (Option.none : Option Jvm.ClassFile.FieldType)).before args0 about1 = true := code_word (m := ⟨5, 3⟩) (meth := k5m3) (c := k5c3) (by decide +kernel) rfl rfl rfl (by decide +kernel)
set_option maxRecDepth 65536 in
theorem w_c9 : (Jvm.Cond.code ({ cls := "java/lang/AbstractStringBuilder", name := "isLatin1", desc := "()Z" } : Jvm.MethodName) jdk_68_method_68_code (1 : Nat) (Option.some Jvm.ClassFile.FieldType.boolean)).before args0 about1 = true := code_word (m := ⟨5, 8⟩) (meth := k5m8) (c := k5c8) (by decide +kernel) rfl rfl rfl (by decide +kernel)
set_option maxRecDepth 65536 in
theorem w_c10 : (Jvm.Cond.code ({ cls := "java/lang/Integer", name := "getChars", desc := "(II[B)I" } : Jvm.MethodName) jdk_33_method_12_code (7 : Nat) (Option.some Jvm.ClassFile.FieldType.int)).before args0 about1 = true := code_word (m := ⟨13, 0⟩) (meth := k13m0) (c := k13c0) (by decide +kernel) rfl rfl rfl (by decide +kernel)
set_option maxRecDepth 65536 in
theorem w_c11 : (Jvm.Cond.code ({ cls := "java/lang/StringBuilder", name := "append", desc := "(Ljava/lang/String;)Ljava/lang/StringBuilder;" } : Jvm.MethodName) jdk_67_method_7_code (2 : Nat) (Option.some (Jvm.ClassFile.FieldType.object "java/lang/StringBuilder"))).before args0 about1 = true := code_word (m := ⟨8, 1⟩) (meth := k8m1) (c := k8c1) (by decide +kernel) rfl rfl rfl (by decide +kernel)
set_option maxRecDepth 65536 in
theorem w_c12 : (Jvm.Cond.code ({ cls := "java/lang/AbstractStringBuilder", name := "append", desc := "(Ljava/lang/String;)Ljava/lang/AbstractStringBuilder;" } : Jvm.MethodName) jdk_68_method_22_code (3 : Nat) (Option.some (Jvm.ClassFile.FieldType.object "java/lang/AbstractStringBuilder"))).before args0 about1 = true := code_word (m := ⟨5, 5⟩) (meth := k5m5) (c := k5c5) (by decide +kernel) rfl rfl rfl (by decide +kernel)
set_option maxRecDepth 65536 in
theorem w_c13 : (Jvm.Cond.code ({ cls := "java/lang/String", name := "length", desc := "()I" } : Jvm.MethodName) jdk_42_method_54_code (1 : Nat) (Option.some Jvm.ClassFile.FieldType.int)).before args0 about1 = true := code_word (m := ⟨11, 2⟩) (meth := k11m2) (c := k11c2) (by decide +kernel) rfl rfl rfl (by decide +kernel)
set_option maxRecDepth 65536 in
theorem w_c14 : (Jvm.Cond.code ({ cls := "java/lang/String", name := "coder", desc := "()B" } : Jvm.MethodName) jdk_42_method_152_code (1 : Nat) (Option.some Jvm.ClassFile.FieldType.byte)).before args0 about1 = true := code_word (m := ⟨11, 6⟩) (meth := k11m6) (c := k11c6) (by decide +kernel) rfl rfl rfl (by decide +kernel)
set_option maxRecDepth 65536 in
theorem w_c15 : (Jvm.Cond.code ({ cls := "java/lang/AbstractStringBuilder", name := "putStringAt", desc := "(ILjava/lang/String;)V" } : Jvm.MethodName) jdk_68_method_73_code (3 : Nat) (Option.none : Option Jvm.ClassFile.FieldType)).before args0 about1 = true := code_word (m := ⟨5, 10⟩) (meth := k5m10) (c := k5c10) (by decide +kernel) rfl rfl rfl (by decide +kernel)
set_option maxRecDepth 65536 in
theorem w_c16 : (Jvm.Cond.code ({ cls := "java/lang/AbstractStringBuilder", name := "inflateIfNeededFor", desc := "(Ljava/lang/String;)V" } : Jvm.MethodName) jdk_68_method_71_code (2 : Nat) (Option.none : Option Jvm.ClassFile.FieldType)).before args0 about1 = true := code_word (m := ⟨5, 9⟩) (meth := k5m9) (c := k5c9) (by decide +kernel) rfl rfl rfl (by decide +kernel)
set_option maxRecDepth 65536 in
theorem w_c17 : (Jvm.Cond.code ({ cls := "java/lang/String", name := "getBytes", desc := "([BIB)V" } : Jvm.MethodName) jdk_42_method_147_code (4 : Nat) (Option.none : Option Jvm.ClassFile.FieldType)).before args0 about1 = true := code_word (m := ⟨11, 4⟩) (meth := k11m4) (c := k11c4) (by decide +kernel) rfl rfl rfl (by decide +kernel)
set_option maxRecDepth 65536 in
theorem w_c18 : (Jvm.Cond.code ({ cls := "java/lang/StringBuilder", name := "toString", desc := "()Ljava/lang/String;" } : Jvm.MethodName) jdk_67_method_42_code (1 : Nat) (Option.some (Jvm.ClassFile.FieldType.object "java/lang/String"))).before args0 about1 = true := code_word (m := ⟨8, 3⟩) (meth := k8m3) (c := k8c3) (by decide +kernel) rfl rfl rfl (by decide +kernel)
set_option maxRecDepth 65536 in
theorem w_c19 : (Jvm.Cond.code ({ cls := "java/lang/String", name := "<init>", desc := "(Ljava/lang/StringBuilder;)V" } : Jvm.MethodName) jdk_42_method_53_code (2 : Nat) (Option.none : Option Jvm.ClassFile.FieldType)).before args0 about1 = true := code_word (m := ⟨11, 1⟩) (meth := k11m1) (c := k11c1) (by decide +kernel) rfl rfl rfl (by decide +kernel)
set_option maxRecDepth 65536 in
theorem w_c20 : (Jvm.Cond.code ({ cls := "java/lang/String", name := "<init>", desc := "(Ljava/lang/AbstractStringBuilder;Ljava/lang/Void;)V" } : Jvm.MethodName) jdk_42_method_150_code (5 : Nat) (Option.none : Option Jvm.ClassFile.FieldType)).before args0 about1 = true := code_word (m := ⟨11, 5⟩) (meth := k11m5) (c := k11c5) (by decide +kernel) rfl rfl rfl (by decide +kernel)
set_option maxRecDepth 65536 in
theorem w_c21 : (Jvm.Cond.code ({ cls := "java/lang/AbstractStringBuilder", name := "getValue", desc := "()[B" } : Jvm.MethodName) jdk_68_method_64_code (1 : Nat) (Option.some (Jvm.ClassFile.FieldType.array Jvm.ClassFile.FieldType.byte))).before args0 about1 = true := code_word (m := ⟨5, 7⟩) (meth := k5m7) (c := k5c7) (by decide +kernel) rfl rfl rfl (by decide +kernel)
set_option maxRecDepth 65536 in
theorem w_c22 : (Jvm.Cond.code ({ cls := "java/lang/StringBuilder", name := "length", desc := "()I" } : Jvm.MethodName) jdk_67_method_93_code (1 : Nat) (Option.some Jvm.ClassFile.FieldType.int)).before args0 about1 = true := code_word (m := ⟨8, 4⟩) (meth := k8m4) (c := k8c4) (by decide +kernel) rfl rfl rfl (by decide +kernel)
set_option maxRecDepth 65536 in
theorem w_c23 : (Jvm.Cond.code ({ cls := "java/lang/AbstractStringBuilder", name := "length", desc := "()I" } : Jvm.MethodName) jdk_68_method_6_code (1 : Nat) (Option.some Jvm.ClassFile.FieldType.int)).before args0 about1 = true := code_word (m := ⟨5, 2⟩) (meth := k5m2) (c := k5c2) (by decide +kernel) rfl rfl rfl (by decide +kernel)
set_option maxRecDepth 65536 in
theorem w_c24 : (Jvm.Cond.code ({ cls := "java/util/Arrays", name := "copyOfRange", desc := "([BII)[B" } : Jvm.MethodName) jdk_65_method_132_code (3 : Nat) (Option.some (Jvm.ClassFile.FieldType.array Jvm.ClassFile.FieldType.byte))).before args0 about1 = true := code_word (m := ⟨15, 3⟩) (meth := k15m3) (c := k15c3) (by decide +kernel) rfl rfl rfl (by decide +kernel)
set_option maxRecDepth 65536 in
theorem w_c25 : (Jvm.Cond.code ({ cls := "java/util/Arrays", name := "copyOfRangeByte", desc := "([BII)[B" } : Jvm.MethodName) jdk_65_method_133_code (5 : Nat) (Option.some (Jvm.ClassFile.FieldType.array Jvm.ClassFile.FieldType.byte))).before args0 about1 = true := code_word (m := ⟨15, 4⟩) (meth := k15m4) (c := k15c4) (by decide +kernel) rfl rfl rfl (by decide +kernel)
set_option maxRecDepth 65536 in
theorem w_c26 : (Jvm.Cond.code ({ cls := "java/util/Arrays", name := "checkLength", desc := "(II)V" } : Jvm.MethodName) jdk_65_method_131_code (2 : Nat) (Option.none : Option Jvm.ClassFile.FieldType)).before args0 about1 = true := code_word (m := ⟨15, 2⟩) (meth := k15m2) (c := k15c2) (by decide +kernel) rfl rfl rfl (by decide +kernel)
set_option maxRecDepth 65536 in
theorem w_c27 : (Jvm.Cond.code ({ cls := "java/lang/Math", name := "min", desc := "(II)I" } : Jvm.MethodName) jdk_29_method_69_code (2 : Nat) (Option.some Jvm.ClassFile.FieldType.int)).before args0 about1 = true := code_word (m := ⟨16, 2⟩) (meth := k16m2) (c := k16c2) (by decide +kernel) rfl rfl rfl (by decide +kernel)
set_option maxRecDepth 65536 in
theorem w_c28 : (Jvm.Cond.code ({ cls := "com/example/figurant/figurant/VerificationModeCountOfTimesPinLaw", name := "digits", desc := "(J)I" } : Jvm.MethodName) method_3_code (2 : Nat) (Option.some Jvm.ClassFile.FieldType.int)).before args0 about1 = true := code_word (m := ⟨1, 2⟩) (meth := k1m2) (c := k1c2) (by decide +kernel) rfl rfl rfl (by decide +kernel)
set_option maxRecDepth 65536 in
theorem w_c29 : (Jvm.Cond.code ({ cls := "com/example/figurant/figurant/VerificationModeCountOfTimesPinLaw", name := "at", desc := "(Ljava/lang/String;IJZII)Z" } : Jvm.MethodName) method_5_code (7 : Nat) (Option.some Jvm.ClassFile.FieldType.boolean)).before args0 about1 = true := code_word (m := ⟨1, 4⟩) (meth := k1m4) (c := k1c4) (by decide +kernel) rfl rfl rfl (by decide +kernel)
set_option maxRecDepth 65536 in
theorem w_c30 : (Jvm.Cond.code ({ cls := "java/lang/String", name := "charAt", desc := "(I)C" } : Jvm.MethodName) jdk_42_method_56_code (2 : Nat) (Option.some Jvm.ClassFile.FieldType.char)).before args0 about1 = true := code_word (m := ⟨11, 3⟩) (meth := k11m3) (c := k11c3) (by decide +kernel) rfl rfl rfl (by decide +kernel)
set_option maxRecDepth 65536 in
theorem w_c31 : (Jvm.Cond.code ({ cls := "java/lang/String", name := "isLatin1", desc := "()Z" } : Jvm.MethodName) jdk_42_method_154_code (1 : Nat) (Option.some Jvm.ClassFile.FieldType.boolean)).before args0 about1 = true := code_word (m := ⟨11, 7⟩) (meth := k11m7) (c := k11c7) (by decide +kernel) rfl rfl rfl (by decide +kernel)
set_option maxRecDepth 65536 in
theorem w_c32 : (Jvm.Cond.code ({ cls := "java/lang/StringLatin1", name := "charAt", desc := "([BI)C" } : Jvm.MethodName) jdk_43_method_2_code (2 : Nat) (Option.some Jvm.ClassFile.FieldType.char)).before args0 about1 = true := code_word (m := ⟨17, 1⟩) (meth := k17m1) (c := k17c1) (by decide +kernel) rfl rfl rfl (by decide +kernel)
set_option maxRecDepth 65536 in
theorem w_c33 : (Jvm.Cond.code ({ cls := "java/lang/String", name := "checkIndex", desc := "(II)V" } : Jvm.MethodName) jdk_42_method_155_code (2 : Nat) (Option.none : Option Jvm.ClassFile.FieldType)).before args0 about1 = true := code_word (m := ⟨11, 8⟩) (meth := k11m8) (c := k11c8) (by decide +kernel) rfl rfl rfl (by decide +kernel)
set_option maxRecDepth 65536 in
theorem w_c34 : (Jvm.Cond.code ({ cls := "jdk/internal/util/Preconditions", name := "checkIndex", desc := "(IILjava/util/function/BiFunction;)I" } : Jvm.MethodName) jdk_41_method_11_code (3 : Nat) (Option.some Jvm.ClassFile.FieldType.int)).before args0 about1 = true := code_word (m := ⟨18, 1⟩) (meth := k18m1) (c := k18c1) (by decide +kernel) rfl rfl rfl (by decide +kernel)
set_option maxRecDepth 65536 in
theorem w_c35 : (Jvm.Cond.code ({ cls := "com/example/figurant/figurant/VerificationModeCountOfTimesPinLaw", name := "expected", desc := "(IJZI)C" } : Jvm.MethodName) method_6_code (6 : Nat) (Option.some Jvm.ClassFile.FieldType.char)).before args0 about1 = true := code_word (m := ⟨1, 5⟩) (meth := k1m5) (c := k1c5) (by decide +kernel) rfl rfl rfl (by decide +kernel)
set_option maxRecDepth 65536 in
theorem w_c36 : (Jvm.Cond.code ({ cls := "com/example/figurant/figurant/VerificationModeCountOfTimesPinLaw", name := "pow10", desc := "(I)J" } : Jvm.MethodName) method_4_code (2 : Nat) (Option.some Jvm.ClassFile.FieldType.long)).before args0 about1 = true := code_word (m := ⟨1, 3⟩) (meth := k1m3) (c := k1c3) (by decide +kernel) rfl rfl rfl (by decide +kernel)
set_option maxRecDepth 65536 in
theorem w_c37 : (Jvm.Cond.code ({ cls := "java/lang/AbstractStringBuilder", name := "newCapacity", desc := "(I)I" } : Jvm.MethodName) jdk_68_method_10_code (6 : Nat) (Option.some Jvm.ClassFile.FieldType.int)).before args0 about1 = true := code_word (m := ⟨5, 4⟩) (meth := k5m4) (c := k5c4) (by decide +kernel) rfl rfl rfl (by decide +kernel)
set_option maxRecDepth 65536 in
theorem w_c38 : (Jvm.Cond.code ({ cls := "jdk/internal/util/ArraysSupport", name := "newLength", desc := "(III)I" } : Jvm.MethodName) jdk_48_method_27_code (4 : Nat) (Option.some Jvm.ClassFile.FieldType.int)).before args0 about1 = true := code_word (m := ⟨20, 1⟩) (meth := k20m1) (c := k20c1) (by decide +kernel) rfl rfl rfl (by decide +kernel)
set_option maxRecDepth 65536 in
theorem w_c39 : (Jvm.Cond.code ({ cls := "java/lang/Math", name := "max", desc := "(II)I" } : Jvm.MethodName) jdk_29_method_65_code (2 : Nat) (Option.some Jvm.ClassFile.FieldType.int)).before args0 about1 = true := code_word (m := ⟨16, 1⟩) (meth := k16m1) (c := k16c1) (by decide +kernel) rfl rfl rfl (by decide +kernel)
set_option maxRecDepth 65536 in
theorem w_c40 : (Jvm.Cond.code ({ cls := "java/util/Arrays", name := "copyOf", desc := "([BI)[B" } : Jvm.MethodName) jdk_65_method_121_code (3 : Nat) (Option.some (Jvm.ClassFile.FieldType.array Jvm.ClassFile.FieldType.byte))).before args0 about1 = true := code_word (m := ⟨15, 1⟩) (meth := k15m1) (c := k15c1) (by decide +kernel) rfl rfl rfl (by decide +kernel)
def codes1 : List Jvm.Cond := [Jvm.Cond.code x code maxLocals ret, Jvm.Cond.code ({ cls := "com/example/figurant/figurant/VerificationMode", name := "countOfTimes", desc := "(I)Ljava/lang/String;" } : Jvm.MethodName) prog_18_method_6_code (1 : Nat) (Option.some (Jvm.ClassFile.FieldType.object "java/lang/String")), Jvm.Cond.code ({ cls := "java/lang/StringBuilder", name := "<init>", desc := "()V" } : Jvm.MethodName) jdk_67_method_1_code (1 : Nat) (Option.none : Option Jvm.ClassFile.FieldType), Jvm.Cond.code ({ cls := "java/lang/AbstractStringBuilder", name := "<init>", desc := "(I)V" } : Jvm.MethodName) jdk_68_method_2_code (2 : Nat) (Option.none : Option Jvm.ClassFile.FieldType), Jvm.Cond.code ({ cls := "java/lang/Object", name := "<init>", desc := "()V" } : Jvm.MethodName) object_method_1_code (1 : Nat) (Option.none : Option Jvm.ClassFile.FieldType), Jvm.Cond.code ({ cls := "java/lang/StringBuilder", name := "append", desc := "(I)Ljava/lang/StringBuilder;" } : Jvm.MethodName) jdk_67_method_15_code (2 : Nat) (Option.some (Jvm.ClassFile.FieldType.object "java/lang/StringBuilder")), Jvm.Cond.code ({ cls := "java/lang/AbstractStringBuilder", name := "append", desc := "(I)Ljava/lang/AbstractStringBuilder;" } : Jvm.MethodName) jdk_68_method_32_code (4 : Nat) (Option.some (Jvm.ClassFile.FieldType.object "java/lang/AbstractStringBuilder")), Jvm.Cond.code ({ cls := "java/lang/Integer", name := "stringSize", desc := "(I)I" } : Jvm.MethodName) jdk_33_method_13_code (4 : Nat) (Option.some Jvm.ClassFile.FieldType.int), Jvm.Cond.code ({ cls := "java/lang/AbstractStringBuilder", name := "ensureCapacityInternal", desc := "(I)V" } : Jvm.MethodName) jdk_68_method_9_code (3 : Nat) (Option.none : Option Jvm.ClassFile.FieldType), Jvm.Cond.code ({ cls := "java/lang/AbstractStringBuilder", name := "isLatin1", desc := "()Z" } : Jvm.MethodName) jdk_68_method_68_code (1 : Nat) (Option.some Jvm.ClassFile.FieldType.boolean), Jvm.Cond.code ({ cls := "java/lang/Integer", name := "getChars", desc := "(II[B)I" } : Jvm.MethodName) jdk_33_method_12_code (7 : Nat) (Option.some Jvm.ClassFile.FieldType.int), Jvm.Cond.code ({ cls := "java/lang/StringBuilder", name := "append", desc := "(Ljava/lang/String;)Ljava/lang/StringBuilder;" } : Jvm.MethodName) jdk_67_method_7_code (2 : Nat) (Option.some (Jvm.ClassFile.FieldType.object "java/lang/StringBuilder")), Jvm.Cond.code ({ cls := "java/lang/AbstractStringBuilder", name := "append", desc := "(Ljava/lang/String;)Ljava/lang/AbstractStringBuilder;" } : Jvm.MethodName) jdk_68_method_22_code (3 : Nat) (Option.some (Jvm.ClassFile.FieldType.object "java/lang/AbstractStringBuilder")), Jvm.Cond.code ({ cls := "java/lang/String", name := "length", desc := "()I" } : Jvm.MethodName) jdk_42_method_54_code (1 : Nat) (Option.some Jvm.ClassFile.FieldType.int), Jvm.Cond.code ({ cls := "java/lang/String", name := "coder", desc := "()B" } : Jvm.MethodName) jdk_42_method_152_code (1 : Nat) (Option.some Jvm.ClassFile.FieldType.byte), Jvm.Cond.code ({ cls := "java/lang/AbstractStringBuilder", name := "putStringAt", desc := "(ILjava/lang/String;)V" } : Jvm.MethodName) jdk_68_method_73_code (3 : Nat) (Option.none : Option Jvm.ClassFile.FieldType), Jvm.Cond.code ({ cls := "java/lang/AbstractStringBuilder", name := "inflateIfNeededFor", desc := "(Ljava/lang/String;)V" } : Jvm.MethodName) jdk_68_method_71_code (2 : Nat) (Option.none : Option Jvm.ClassFile.FieldType), Jvm.Cond.code ({ cls := "java/lang/String", name := "getBytes", desc := "([BIB)V" } : Jvm.MethodName) jdk_42_method_147_code (4 : Nat) (Option.none : Option Jvm.ClassFile.FieldType), Jvm.Cond.code ({ cls := "java/lang/StringBuilder", name := "toString", desc := "()Ljava/lang/String;" } : Jvm.MethodName) jdk_67_method_42_code (1 : Nat) (Option.some (Jvm.ClassFile.FieldType.object "java/lang/String")), Jvm.Cond.code ({ cls := "java/lang/String", name := "<init>", desc := "(Ljava/lang/StringBuilder;)V" } : Jvm.MethodName) jdk_42_method_53_code (2 : Nat) (Option.none : Option Jvm.ClassFile.FieldType), Jvm.Cond.code ({ cls := "java/lang/String", name := "<init>", desc := "(Ljava/lang/AbstractStringBuilder;Ljava/lang/Void;)V" } : Jvm.MethodName) jdk_42_method_150_code (5 : Nat) (Option.none : Option Jvm.ClassFile.FieldType), Jvm.Cond.code ({ cls := "java/lang/AbstractStringBuilder", name := "getValue", desc := "()[B" } : Jvm.MethodName) jdk_68_method_64_code (1 : Nat) (Option.some (Jvm.ClassFile.FieldType.array Jvm.ClassFile.FieldType.byte)), Jvm.Cond.code ({ cls := "java/lang/StringBuilder", name := "length", desc := "()I" } : Jvm.MethodName) jdk_67_method_93_code (1 : Nat) (Option.some Jvm.ClassFile.FieldType.int), Jvm.Cond.code ({ cls := "java/lang/AbstractStringBuilder", name := "length", desc := "()I" } : Jvm.MethodName) jdk_68_method_6_code (1 : Nat) (Option.some Jvm.ClassFile.FieldType.int), Jvm.Cond.code ({ cls := "java/util/Arrays", name := "copyOfRange", desc := "([BII)[B" } : Jvm.MethodName) jdk_65_method_132_code (3 : Nat) (Option.some (Jvm.ClassFile.FieldType.array Jvm.ClassFile.FieldType.byte)), Jvm.Cond.code ({ cls := "java/util/Arrays", name := "copyOfRangeByte", desc := "([BII)[B" } : Jvm.MethodName) jdk_65_method_133_code (5 : Nat) (Option.some (Jvm.ClassFile.FieldType.array Jvm.ClassFile.FieldType.byte)), Jvm.Cond.code ({ cls := "java/util/Arrays", name := "checkLength", desc := "(II)V" } : Jvm.MethodName) jdk_65_method_131_code (2 : Nat) (Option.none : Option Jvm.ClassFile.FieldType), Jvm.Cond.code ({ cls := "java/lang/Math", name := "min", desc := "(II)I" } : Jvm.MethodName) jdk_29_method_69_code (2 : Nat) (Option.some Jvm.ClassFile.FieldType.int), Jvm.Cond.code ({ cls := "com/example/figurant/figurant/VerificationModeCountOfTimesPinLaw", name := "digits", desc := "(J)I" } : Jvm.MethodName) method_3_code (2 : Nat) (Option.some Jvm.ClassFile.FieldType.int), Jvm.Cond.code ({ cls := "com/example/figurant/figurant/VerificationModeCountOfTimesPinLaw", name := "at", desc := "(Ljava/lang/String;IJZII)Z" } : Jvm.MethodName) method_5_code (7 : Nat) (Option.some Jvm.ClassFile.FieldType.boolean), Jvm.Cond.code ({ cls := "java/lang/String", name := "charAt", desc := "(I)C" } : Jvm.MethodName) jdk_42_method_56_code (2 : Nat) (Option.some Jvm.ClassFile.FieldType.char), Jvm.Cond.code ({ cls := "java/lang/String", name := "isLatin1", desc := "()Z" } : Jvm.MethodName) jdk_42_method_154_code (1 : Nat) (Option.some Jvm.ClassFile.FieldType.boolean), Jvm.Cond.code ({ cls := "java/lang/StringLatin1", name := "charAt", desc := "([BI)C" } : Jvm.MethodName) jdk_43_method_2_code (2 : Nat) (Option.some Jvm.ClassFile.FieldType.char), Jvm.Cond.code ({ cls := "java/lang/String", name := "checkIndex", desc := "(II)V" } : Jvm.MethodName) jdk_42_method_155_code (2 : Nat) (Option.none : Option Jvm.ClassFile.FieldType), Jvm.Cond.code ({ cls := "jdk/internal/util/Preconditions", name := "checkIndex", desc := "(IILjava/util/function/BiFunction;)I" } : Jvm.MethodName) jdk_41_method_11_code (3 : Nat) (Option.some Jvm.ClassFile.FieldType.int), Jvm.Cond.code ({ cls := "com/example/figurant/figurant/VerificationModeCountOfTimesPinLaw", name := "expected", desc := "(IJZI)C" } : Jvm.MethodName) method_6_code (6 : Nat) (Option.some Jvm.ClassFile.FieldType.char), Jvm.Cond.code ({ cls := "com/example/figurant/figurant/VerificationModeCountOfTimesPinLaw", name := "pow10", desc := "(I)J" } : Jvm.MethodName) method_4_code (2 : Nat) (Option.some Jvm.ClassFile.FieldType.long), Jvm.Cond.code ({ cls := "java/lang/AbstractStringBuilder", name := "newCapacity", desc := "(I)I" } : Jvm.MethodName) jdk_68_method_10_code (6 : Nat) (Option.some Jvm.ClassFile.FieldType.int), Jvm.Cond.code ({ cls := "jdk/internal/util/ArraysSupport", name := "newLength", desc := "(III)I" } : Jvm.MethodName) jdk_48_method_27_code (4 : Nat) (Option.some Jvm.ClassFile.FieldType.int), Jvm.Cond.code ({ cls := "java/lang/Math", name := "max", desc := "(II)I" } : Jvm.MethodName) jdk_29_method_65_code (2 : Nat) (Option.some Jvm.ClassFile.FieldType.int), Jvm.Cond.code ({ cls := "java/util/Arrays", name := "copyOf", desc := "([BI)[B" } : Jvm.MethodName) jdk_65_method_121_code (3 : Nat) (Option.some (Jvm.ClassFile.FieldType.array Jvm.ClassFile.FieldType.byte))]
set_option maxRecDepth 65536 in
theorem codes_eq : words1.filter isCode = codes1 := rfl
theorem w_codes : ∀ c ∈ words1.filter isCode, c.before args0 about1 = true := by
  rw [codes_eq]
  intro c hc
  simp only [codes1, List.mem_cons, List.not_mem_nil, or_false] at hc
  rcases hc with rfl | rfl | rfl | rfl | rfl | rfl | rfl | rfl | rfl | rfl | rfl | rfl | rfl | rfl | rfl | rfl | rfl | rfl | rfl | rfl | rfl | rfl | rfl | rfl | rfl | rfl | rfl | rfl | rfl | rfl | rfl | rfl | rfl | rfl | rfl | rfl | rfl | rfl | rfl | rfl | rfl
  · exact w_c0
  · exact w_c1
  · exact w_c2
  · exact w_c3
  · exact w_c4
  · exact w_c5
  · exact w_c6
  · exact w_c7
  · exact w_c8
  · exact w_c9
  · exact w_c10
  · exact w_c11
  · exact w_c12
  · exact w_c13
  · exact w_c14
  · exact w_c15
  · exact w_c16
  · exact w_c17
  · exact w_c18
  · exact w_c19
  · exact w_c20
  · exact w_c21
  · exact w_c22
  · exact w_c23
  · exact w_c24
  · exact w_c25
  · exact w_c26
  · exact w_c27
  · exact w_c28
  · exact w_c29
  · exact w_c30
  · exact w_c31
  · exact w_c32
  · exact w_c33
  · exact w_c34
  · exact w_c35
  · exact w_c36
  · exact w_c37
  · exact w_c38
  · exact w_c39
  · exact w_c40
set_option maxRecDepth 65536 in
theorem w_t1 : (words1.take 24).all (fun c => isCode c || c.before args0 about1) = true := by decide +kernel
set_option maxRecDepth 65536 in
theorem w_t2 : ((words1.drop 24).take 24).all (fun c => isCode c || c.before args0 about1) = true := by decide +kernel
set_option maxRecDepth 65536 in
theorem w_t3 : (((words1.drop 24).drop 24).take 24).all (fun c => isCode c || c.before args0 about1) = true := by decide +kernel
set_option maxRecDepth 65536 in
theorem w_t4 : ((((words1.drop 24).drop 24).drop 24).take 24).all (fun c => isCode c || c.before args0 about1) = true := by decide +kernel
set_option maxRecDepth 65536 in
theorem w_t5 : (((((words1.drop 24).drop 24).drop 24).drop 24).take 24).all (fun c => isCode c || c.before args0 about1) = true := by decide +kernel
set_option maxRecDepth 65536 in
theorem w_t6 : ((((((words1.drop 24).drop 24).drop 24).drop 24).drop 24).take 24).all (fun c => isCode c || c.before args0 about1) = true := by decide +kernel
set_option maxRecDepth 65536 in
theorem w_t7 : (((((((words1.drop 24).drop 24).drop 24).drop 24).drop 24).drop 24).take 24).all (fun c => isCode c || c.before args0 about1) = true := by decide +kernel
set_option maxRecDepth 65536 in
theorem w_t8 : ((((((((words1.drop 24).drop 24).drop 24).drop 24).drop 24).drop 24).drop 24).take 24).all (fun c => isCode c || c.before args0 about1) = true := by decide +kernel
set_option maxRecDepth 65536 in
theorem w_t9 : (((((((((words1.drop 24).drop 24).drop 24).drop 24).drop 24).drop 24).drop 24).drop 24).take 24).all (fun c => isCode c || c.before args0 about1) = true := by decide +kernel
set_option maxRecDepth 65536 in
theorem w_t10 : (((((((((words1.drop 24).drop 24).drop 24).drop 24).drop 24).drop 24).drop 24).drop 24).drop 24).all (fun c => isCode c || c.before args0 about1) = true := by decide +kernel
theorem w_tables : (allAtoms (Jvm.Cond.code x code maxLocals ret :: tables_1)).before args0 about1 = true := by
  rw [allAtoms_all]
  show words1.all (fun c => c.before args0 about1) = true
  refine all_split ?_ w_codes
  rw [← List.take_append_drop 24 words1, List.all_append, w_t1, ← List.take_append_drop 24 (words1.drop 24), List.all_append, w_t2, ← List.take_append_drop 24 ((words1.drop 24).drop 24), List.all_append, w_t3, ← List.take_append_drop 24 (((words1.drop 24).drop 24).drop 24), List.all_append, w_t4, ← List.take_append_drop 24 ((((words1.drop 24).drop 24).drop 24).drop 24), List.all_append, w_t5, ← List.take_append_drop 24 (((((words1.drop 24).drop 24).drop 24).drop 24).drop 24), List.all_append, w_t6, ← List.take_append_drop 24 ((((((words1.drop 24).drop 24).drop 24).drop 24).drop 24).drop 24), List.all_append, w_t7, ← List.take_append_drop 24 (((((((words1.drop 24).drop 24).drop 24).drop 24).drop 24).drop 24).drop 24), List.all_append, w_t8, ← List.take_append_drop 24 ((((((((words1.drop 24).drop 24).drop 24).drop 24).drop 24).drop 24).drop 24).drop 24), List.all_append, w_t9, w_t10]
  rfl
set_option maxRecDepth 65536 in
theorem w_rest : rest_1_c.before args0 about1 = true := by decide +kernel
set_option maxRecDepth 65536 in
theorem w_case : (Jvm.Cond.and given_1 narrow_1).before args0 about1 = true := by decide +kernel
set_option maxRecDepth 65536 in
theorem w_consts : constsHeld consts_1 about1 := Jvm.Lit.constsHeldB_iff.mp (by decide +kernel)
theorem w_applies : (headSpec (Jvm.Cond.code x code maxLocals ret :: tables_1) room_1).applies x e0.platform about1 = true :=
  (Spec.applies_iff w_frames).mpr ⟨w_running, w_runnable, w_alone, w_named, w_hears, w_ripe, w_room, w_tables⟩
theorem atStart : AtStart classFile x code maxLocals ret World_1 tables_1 room_1 Calls_1 rest_1 Pre_1 launch0 p0 e0 about1 theMethod args0 below0 :=
  ⟨lists_1, trivial, launch0.admits_env _ _ _, launch0.least_env, fairChoices_fair.cas, fairChoices_fair.clock, w_frames, w_args, w_heap, w_applies, ⟨w_consts, trivial⟩, w_rest, w_case⟩
end start1
theorem witness_1 : WitnessClaimed_1 := ⟨start1.p0, start1.e0, start1.about1, start1.theMethod, start1.args0, start1.below0, start1.atStart⟩
end Jvm.Pilot.@@N@@
