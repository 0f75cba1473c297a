import JvmDerived
import JvmDerived.Pilot.@@N@@Statement
import JvmDerived.Pilot.@@N@@Code
set_option linter.unusedVariables false
set_option linter.unusedSimpArgs false
set_option maxRecDepth 65536
set_option maxHeartbeats 40000000
namespace Jvm.RoadKit
open Sem ClassFile Op Lib Jvm.Stand Jvm.Free Jvm.LawKit
section New
variable {p : Program} {l : Launch} {e : Env} {R : Room} {s : State} {m : MethodId} {args : Array Value} {below : List Frame} {meth : Method} {c : Code} {T : State} {locs : List Loc} {cells slots : Nat}
theorem retI (X : Stand p l e R s m args below meth c T locs cells slots) (hx : p.tables.exec = Jvm.exec) {pc : Nat} {Ls : Array Slot} {z : Int32} {rest : List Value} (hret : meth.sig.returnType = some .int) (hd : decode c.code pc = .ok (.ireturn, 1)) {fs : List Frame}
    (hl : ∀ (f : JFrame) (acts : List Action), f.method = m → f.locked = none → f.entered = [] → (doReturn e (T.setTop f) acts (some (.int z))).1 = T.setFrames fs) : Steps p.tables e below (T.setTop (mkF m pc Ls (.int z :: rest))) (T.setFrames fs) := by
  have hm' : T.vm.method? m = some meth := X.method'
  have hn : narrow .int (.int z) = .int z := rfl
  show Steps p.tables e below (T.setTop { method := m, pc := pc, locals := Ls, stack := _ :: rest, locked := none }) _
  jvm_step X.here [X.here.top, hx, hd, hm', hret, hn]
  first | (intro acts; rw [hl _ acts rfl rfl rfl]) | rw [hl _ _ rfl rfl rfl]
  exact Steps.refl _
theorem own_retA (X : Stand p l e R s m args below meth c T locs cells slots) (hx : p.tables.exec = Jvm.exec) {pc : Nat} {Ls : Array Slot} {w : Value} {t : FieldType} {rest : List Value} (hret : meth.sig.returnType = some t) (ht : t.isReference = true) (hw : w.isRef = true) (hd : decode c.code pc = .ok (.areturn, 1)) {fs : List Frame}
    (hl : ∀ (f : JFrame) (acts : List Action), f.method = m → f.locked = none → f.entered = [] → (doReturn e (T.setTop f) acts (some w)).1 = T.setFrames fs) : Steps p.tables e below (T.setTop (mkF m pc Ls (w :: rest))) (T.setFrames fs) := by
  have hm' : T.vm.method? m = some meth := X.method'
  rcases ref_cases hw with rfl | ⟨z, rfl⟩
  all_goals
    show Steps p.tables e below (T.setTop { method := m, pc := pc, locals := Ls, stack := _ :: rest, locked := none }) _
    jvm_step X.here [X.here.top, hx, hd, hm', hret, Value.isRef]
    try (refine ⟨ht, ?_⟩)
    first | (intro acts; rw [hl _ acts rfl rfl rfl]) | rw [hl _ _ rfl rfl rfl]
    exact Steps.refl _
end New
/-- from U the run comes to an end of which P tells -/
def own_Go (tb : Tables) (e : Env) (below : List Frame) (P : Outcome → State → Prop) (U : State) : Prop := ∃ s₂ o, Steps tb e below U s₂ ∧ s₂.status = .running ∧ Ended s₂ below o ∧ P o s₂
theorem own_st {tb : Tables} {e : Env} {below : List Frame} {P : Outcome → State → Prop} {U V : State} (h : ∀ t, Steps tb e below V t → Steps tb e below U t) (g : own_Go tb e below P V) : own_Go tb e below P U := by
  obtain ⟨s₂, o, h1, r⟩ := g
  exact ⟨s₂, o, h _ h1, r⟩
theorem own_tr {tb : Tables} {e : Env} {below : List Frame} {P : Outcome → State → Prop} {U V : State} (h : Steps tb e below U V) (g : own_Go tb e below P V) : own_Go tb e below P U := by
  obtain ⟨s₂, o, h1, r⟩ := g
  exact ⟨s₂, o, h.trans h1, r⟩
theorem own_end {p : Program} {l : Launch} {e : Env} {R : Room} {s : State} {m : MethodId} {args : Array Value} {below : List Frame} {meth : Method} {c : Code} {T : State} {locs : List Loc} {cells slots : Nat} (X : Stand p l e R s m args below meth c T locs cells slots) {h : Heap} (eT : T.heap = h) {v : Option Value} (hv : meth.sig.returnType = none → v = none) (hlk : meth.locks = false) {g : JFrame}
    (hst : ∀ fs, (∀ (f : JFrame) (acts : List Action), f.method = m → f.locked = none → f.entered = [] → (doReturn e (T.setTop f) acts v).1 = T.setFrames fs) → Steps p.tables e below (T.setTop g) (T.setFrames fs))
    {Q : Option Value → Heap → List Loc → Prop} (hQ : Q v h locs) {cc ss : Nat} (hc : cells ≤ cc) (hs : slots ≤ ss) :
    own_Go p.tables e below (fun o U' => ∃ v L, o = .returned v ∧ Q v U'.heap L ∧ FrameEnd s o U' L cc ss) (T.setTop g) := by
  subst eT
  obtain ⟨fs, hr, hrun, hended, hW, hsame⟩ := X.leave (v := v) hv hlk
  exact ⟨_, _, hst fs hr, hrun, hended, _, _, rfl, hQ, ⟨_, rfl⟩, hW, hsame.mono hc hs⟩
section Steps2
variable {p : Program} {l : Launch} {e : Env} {R : Room} {s : State} {m : MethodId} {args : Array Value} {below : List Frame} {meth : Method} {c : Code} {T : State} {locs : List Loc} {cells slots : Nat} {P : Outcome → State → Prop} {pc : Nat} {Ls : Array Slot} {st : List Value}
theorem o_iloadN (X : Stand p l e R s m args below meth c T locs cells slots) {cb : ByteArray} (hq : p.tables.exec = Jvm.exec ∧ c.code = cb) {k : Fin 4} {v : Int32} (hd : decode cb pc = .ok (.iload_n k, 1)) (hl : Ls[k.val]? = some (.val (.int v))) (g : own_Go p.tables e below P (T.setTop (mkF m (pc + 1) Ls (.int v :: st)))) : own_Go p.tables e below P (T.setTop (mkF m pc Ls st)) := own_st (fun t k => XS.iloadN X.here hq.1 rfl (hb hq.2 hd) hl k) g
theorem o_iload (X : Stand p l e R s m args below meth c T locs cells slots) {cb : ByteArray} (hq : p.tables.exec = Jvm.exec ∧ c.code = cb) {k : Nat} {v : Int32} (hd : decode cb pc = .ok (.iload k, 2)) (hl : Ls[k]? = some (.val (.int v))) (g : own_Go p.tables e below P (T.setTop (mkF m (pc + 2) Ls (.int v :: st)))) : own_Go p.tables e below P (T.setTop (mkF m pc Ls st)) := own_st (fun t k => XS.iload X.here hq.1 rfl (hb hq.2 hd) hl k) g
theorem o_lloadN (X : Stand p l e R s m args below meth c T locs cells slots) {cb : ByteArray} (hq : p.tables.exec = Jvm.exec ∧ c.code = cb) {k : Fin 4} {v : Int64} (hd : decode cb pc = .ok (.lload_n k, 1)) (hl : Ls[k.val]? = some (.val (.long v))) (g : own_Go p.tables e below P (T.setTop (mkF m (pc + 1) Ls (.long v :: st)))) : own_Go p.tables e below P (T.setTop (mkF m pc Ls st)) := own_st (fun t k => XS.lloadN X.here hq.1 rfl (hb hq.2 hd) hl k) g
theorem o_lload (X : Stand p l e R s m args below meth c T locs cells slots) {cb : ByteArray} (hq : p.tables.exec = Jvm.exec ∧ c.code = cb) {k : Nat} {v : Int64} (hd : decode cb pc = .ok (.lload k, 2)) (hl : Ls[k]? = some (.val (.long v))) (g : own_Go p.tables e below P (T.setTop (mkF m (pc + 2) Ls (.long v :: st)))) : own_Go p.tables e below P (T.setTop (mkF m pc Ls st)) := own_st (fun t k => XS.lload X.here hq.1 rfl (hb hq.2 hd) hl k) g
theorem o_aloadN (X : Stand p l e R s m args below meth c T locs cells slots) {cb : ByteArray} (hq : p.tables.exec = Jvm.exec ∧ c.code = cb) {k : Fin 4} {v : Value} (hd : decode cb pc = .ok (.aload_n k, 1)) (hl : Ls[k.val]? = some (.val v)) (hv : v.isRef = true) (g : own_Go p.tables e below P (T.setTop (mkF m (pc + 1) Ls (v :: st)))) : own_Go p.tables e below P (T.setTop (mkF m pc Ls st)) := own_st (fun t k => XS.aloadN X.here hq.1 rfl (hb hq.2 hd) hl hv k) g
theorem o_aload (X : Stand p l e R s m args below meth c T locs cells slots) {cb : ByteArray} (hq : p.tables.exec = Jvm.exec ∧ c.code = cb) {k : Nat} {v : Value} (hd : decode cb pc = .ok (.aload k, 2)) (hl : Ls[k]? = some (.val v)) (hv : v.isRef = true) (g : own_Go p.tables e below P (T.setTop (mkF m (pc + 2) Ls (v :: st)))) : own_Go p.tables e below P (T.setTop (mkF m pc Ls st)) := own_st (fun t k => XS.aload X.here hq.1 rfl (hb hq.2 hd) hl hv k) g
theorem o_istoreN (X : Stand p l e R s m args below meth c T locs cells slots) {cb : ByteArray} (hq : p.tables.exec = Jvm.exec ∧ c.code = cb) {k : Fin 4} {v : Int32} {l' : Array Slot} (hd : decode cb pc = .ok (.istore_n k, 1)) (hl : storeLocals Ls k.val (.int v) = some l') (g : own_Go p.tables e below P (T.setTop (mkF m (pc + 1) l' st))) : own_Go p.tables e below P (T.setTop (mkF m pc Ls (.int v :: st))) := own_st (fun t k => XS.istoreN X.here hq.1 rfl (hb hq.2 hd) rfl hl k) g
theorem o_istore (X : Stand p l e R s m args below meth c T locs cells slots) {cb : ByteArray} (hq : p.tables.exec = Jvm.exec ∧ c.code = cb) {k : Nat} {v : Int32} {l' : Array Slot} (hd : decode cb pc = .ok (.istore k, 2)) (hl : storeLocals Ls k (.int v) = some l') (g : own_Go p.tables e below P (T.setTop (mkF m (pc + 2) l' st))) : own_Go p.tables e below P (T.setTop (mkF m pc Ls (.int v :: st))) := own_st (fun t k => XS.istore X.here hq.1 rfl (hb hq.2 hd) rfl hl k) g
theorem o_lstoreN (X : Stand p l e R s m args below meth c T locs cells slots) {cb : ByteArray} (hq : p.tables.exec = Jvm.exec ∧ c.code = cb) {k : Fin 4} {v : Int64} {l' : Array Slot} (hd : decode cb pc = .ok (.lstore_n k, 1)) (hl : storeLocals Ls k.val (.long v) = some l') (g : own_Go p.tables e below P (T.setTop (mkF m (pc + 1) l' st))) : own_Go p.tables e below P (T.setTop (mkF m pc Ls (.long v :: st))) := own_st (fun t k => XS.lstoreN X.here hq.1 rfl (hb hq.2 hd) rfl hl k) g
theorem o_lstore (X : Stand p l e R s m args below meth c T locs cells slots) {cb : ByteArray} (hq : p.tables.exec = Jvm.exec ∧ c.code = cb) {k : Nat} {v : Int64} {l' : Array Slot} (hd : decode cb pc = .ok (.lstore k, 2)) (hl : storeLocals Ls k (.long v) = some l') (g : own_Go p.tables e below P (T.setTop (mkF m (pc + 2) l' st))) : own_Go p.tables e below P (T.setTop (mkF m pc Ls (.long v :: st))) := own_st (fun t k => XS.lstore X.here hq.1 rfl (hb hq.2 hd) rfl hl k) g
theorem o_astoreN (X : Stand p l e R s m args below meth c T locs cells slots) {cb : ByteArray} (hq : p.tables.exec = Jvm.exec ∧ c.code = cb) {k : Fin 4} {v : Value} {l' : Array Slot} (hd : decode cb pc = .ok (.astore_n k, 1)) (hv : v.isRef = true) (hl : storeLocals Ls k.val v = some l') (g : own_Go p.tables e below P (T.setTop (mkF m (pc + 1) l' st))) : own_Go p.tables e below P (T.setTop (mkF m pc Ls (v :: st))) := own_st (fun t k => XS.astoreN X.here hq.1 rfl (hb hq.2 hd) rfl hv hl k) g
theorem o_astore (X : Stand p l e R s m args below meth c T locs cells slots) {cb : ByteArray} (hq : p.tables.exec = Jvm.exec ∧ c.code = cb) {k : Nat} {v : Value} {l' : Array Slot} (hd : decode cb pc = .ok (.astore k, 2)) (hv : v.isRef = true) (hl : storeLocals Ls k v = some l') (g : own_Go p.tables e below P (T.setTop (mkF m (pc + 2) l' st))) : own_Go p.tables e below P (T.setTop (mkF m pc Ls (v :: st))) := own_st (fun t k => XS.astore X.here hq.1 rfl (hb hq.2 hd) rfl hv hl k) g
theorem o_iconst (X : Stand p l e R s m args below meth c T locs cells slots) {cb : ByteArray} (hq : p.tables.exec = Jvm.exec ∧ c.code = cb) {i : Int} (z : Int32) (hd : decode cb pc = .ok (.iconst i, 1)) (hz : Int32.ofInt i = z) (g : own_Go p.tables e below P (T.setTop (mkF m (pc + 1) Ls (.int z :: st)))) : own_Go p.tables e below P (T.setTop (mkF m pc Ls st)) := by subst hz; exact own_st (fun t k => XS.iconst X.here hq.1 rfl (hb hq.2 hd) k) g
theorem o_bipush (X : Stand p l e R s m args below meth c T locs cells slots) {cb : ByteArray} (hq : p.tables.exec = Jvm.exec ∧ c.code = cb) {i : Int} (z : Int32) (hd : decode cb pc = .ok (.bipush i, 2)) (hz : (Int8.ofInt i).toInt32 = z) (g : own_Go p.tables e below P (T.setTop (mkF m (pc + 2) Ls (.int z :: st)))) : own_Go p.tables e below P (T.setTop (mkF m pc Ls st)) := by subst hz; exact own_st (fun t k => XS.bipush X.here hq.1 rfl (hb hq.2 hd) k) g
theorem o_sipush (X : Stand p l e R s m args below meth c T locs cells slots) {cb : ByteArray} (hq : p.tables.exec = Jvm.exec ∧ c.code = cb) {i : Int} (z : Int32) (hd : decode cb pc = .ok (.sipush i, 3)) (hz : (Int16.ofInt i).toInt32 = z) (g : own_Go p.tables e below P (T.setTop (mkF m (pc + 3) Ls (.int z :: st)))) : own_Go p.tables e below P (T.setTop (mkF m pc Ls st)) := by subst hz; exact own_st (fun t k => XS.sipush X.here hq.1 rfl (hb hq.2 hd) k) g
theorem o_lconst (X : Stand p l e R s m args below meth c T locs cells slots) {cb : ByteArray} (hq : p.tables.exec = Jvm.exec ∧ c.code = cb) {i : Fin 2} (z : Int64) (hd : decode cb pc = .ok (.lconst i, 1)) (hz : Int64.ofNat i = z) (g : own_Go p.tables e below P (T.setTop (mkF m (pc + 1) Ls (.long z :: st)))) : own_Go p.tables e below P (T.setTop (mkF m pc Ls st)) := by subst hz; exact own_st (fun t k => XS.lconst X.here hq.1 rfl (hb hq.2 hd) k) g
theorem o_aconstNull (X : Stand p l e R s m args below meth c T locs cells slots) {cb : ByteArray} (hq : p.tables.exec = Jvm.exec ∧ c.code = cb) (hd : decode cb pc = .ok (.aconst_null, 1)) (g : own_Go p.tables e below P (T.setTop (mkF m (pc + 1) Ls (.null :: st)))) : own_Go p.tables e below P (T.setTop (mkF m pc Ls st)) := own_st (fun t k => XS.aconstNull X.here hq.1 rfl (hb hq.2 hd) k) g
theorem o_iadd (X : Stand p l e R s m args below meth c T locs cells slots) {cb : ByteArray} (hq : p.tables.exec = Jvm.exec ∧ c.code = cb) {x y : Int32} (hd : decode cb pc = .ok (.iadd, 1)) (g : own_Go p.tables e below P (T.setTop (mkF m (pc + 1) Ls (.int (x + y) :: st)))) : own_Go p.tables e below P (T.setTop (mkF m pc Ls (.int y :: .int x :: st))) := own_st (fun t k => XS.iadd X.here hq.1 rfl (hb hq.2 hd) rfl k) g
theorem o_ladd (X : Stand p l e R s m args below meth c T locs cells slots) {cb : ByteArray} (hq : p.tables.exec = Jvm.exec ∧ c.code = cb) {x y : Int64} (hd : decode cb pc = .ok (.ladd, 1)) (g : own_Go p.tables e below P (T.setTop (mkF m (pc + 1) Ls (.long (x + y) :: st)))) : own_Go p.tables e below P (T.setTop (mkF m pc Ls (.long y :: .long x :: st))) := own_st (fun t k => XS.ladd X.here hq.1 rfl (hb hq.2 hd) rfl k) g
theorem o_isub (X : Stand p l e R s m args below meth c T locs cells slots) {cb : ByteArray} (hq : p.tables.exec = Jvm.exec ∧ c.code = cb) {x y : Int32} (hd : decode cb pc = .ok (.isub, 1)) (g : own_Go p.tables e below P (T.setTop (mkF m (pc + 1) Ls (.int (x - y) :: st)))) : own_Go p.tables e below P (T.setTop (mkF m pc Ls (.int y :: .int x :: st))) := own_st (fun t k => XS.isub X.here hq.1 rfl (hb hq.2 hd) rfl k) g
theorem o_lsub (X : Stand p l e R s m args below meth c T locs cells slots) {cb : ByteArray} (hq : p.tables.exec = Jvm.exec ∧ c.code = cb) {x y : Int64} (hd : decode cb pc = .ok (.lsub, 1)) (g : own_Go p.tables e below P (T.setTop (mkF m (pc + 1) Ls (.long (x - y) :: st)))) : own_Go p.tables e below P (T.setTop (mkF m pc Ls (.long y :: .long x :: st))) := own_st (fun t k => XS.lsub X.here hq.1 rfl (hb hq.2 hd) rfl k) g
theorem o_imul (X : Stand p l e R s m args below meth c T locs cells slots) {cb : ByteArray} (hq : p.tables.exec = Jvm.exec ∧ c.code = cb) {x y : Int32} (hd : decode cb pc = .ok (.imul, 1)) (g : own_Go p.tables e below P (T.setTop (mkF m (pc + 1) Ls (.int (x * y) :: st)))) : own_Go p.tables e below P (T.setTop (mkF m pc Ls (.int y :: .int x :: st))) := own_st (fun t k => XS.imul X.here hq.1 rfl (hb hq.2 hd) rfl k) g
theorem o_lmul (X : Stand p l e R s m args below meth c T locs cells slots) {cb : ByteArray} (hq : p.tables.exec = Jvm.exec ∧ c.code = cb) {x y : Int64} (hd : decode cb pc = .ok (.lmul, 1)) (g : own_Go p.tables e below P (T.setTop (mkF m (pc + 1) Ls (.long (x * y) :: st)))) : own_Go p.tables e below P (T.setTop (mkF m pc Ls (.long y :: .long x :: st))) := own_st (fun t k => XS.lmul X.here hq.1 rfl (hb hq.2 hd) rfl k) g
theorem o_iand (X : Stand p l e R s m args below meth c T locs cells slots) {cb : ByteArray} (hq : p.tables.exec = Jvm.exec ∧ c.code = cb) {x y : Int32} (hd : decode cb pc = .ok (.iand, 1)) (g : own_Go p.tables e below P (T.setTop (mkF m (pc + 1) Ls (.int (x &&& y) :: st)))) : own_Go p.tables e below P (T.setTop (mkF m pc Ls (.int y :: .int x :: st))) := own_st (fun t k => XS.iand X.here hq.1 rfl (hb hq.2 hd) rfl k) g
theorem o_land (X : Stand p l e R s m args below meth c T locs cells slots) {cb : ByteArray} (hq : p.tables.exec = Jvm.exec ∧ c.code = cb) {x y : Int64} (hd : decode cb pc = .ok (.land, 1)) (g : own_Go p.tables e below P (T.setTop (mkF m (pc + 1) Ls (.long (x &&& y) :: st)))) : own_Go p.tables e below P (T.setTop (mkF m pc Ls (.long y :: .long x :: st))) := own_st (fun t k => XS.land X.here hq.1 rfl (hb hq.2 hd) rfl k) g
theorem o_ior (X : Stand p l e R s m args below meth c T locs cells slots) {cb : ByteArray} (hq : p.tables.exec = Jvm.exec ∧ c.code = cb) {x y : Int32} (hd : decode cb pc = .ok (.ior, 1)) (g : own_Go p.tables e below P (T.setTop (mkF m (pc + 1) Ls (.int (x ||| y) :: st)))) : own_Go p.tables e below P (T.setTop (mkF m pc Ls (.int y :: .int x :: st))) := own_st (fun t k => XS.ior X.here hq.1 rfl (hb hq.2 hd) rfl k) g
theorem o_lor (X : Stand p l e R s m args below meth c T locs cells slots) {cb : ByteArray} (hq : p.tables.exec = Jvm.exec ∧ c.code = cb) {x y : Int64} (hd : decode cb pc = .ok (.lor, 1)) (g : own_Go p.tables e below P (T.setTop (mkF m (pc + 1) Ls (.long (x ||| y) :: st)))) : own_Go p.tables e below P (T.setTop (mkF m pc Ls (.long y :: .long x :: st))) := own_st (fun t k => XS.lor X.here hq.1 rfl (hb hq.2 hd) rfl k) g
theorem o_ixor (X : Stand p l e R s m args below meth c T locs cells slots) {cb : ByteArray} (hq : p.tables.exec = Jvm.exec ∧ c.code = cb) {x y : Int32} (hd : decode cb pc = .ok (.ixor, 1)) (g : own_Go p.tables e below P (T.setTop (mkF m (pc + 1) Ls (.int (x ^^^ y) :: st)))) : own_Go p.tables e below P (T.setTop (mkF m pc Ls (.int y :: .int x :: st))) := own_st (fun t k => XS.ixor X.here hq.1 rfl (hb hq.2 hd) rfl k) g
theorem o_lxor (X : Stand p l e R s m args below meth c T locs cells slots) {cb : ByteArray} (hq : p.tables.exec = Jvm.exec ∧ c.code = cb) {x y : Int64} (hd : decode cb pc = .ok (.lxor, 1)) (g : own_Go p.tables e below P (T.setTop (mkF m (pc + 1) Ls (.long (x ^^^ y) :: st)))) : own_Go p.tables e below P (T.setTop (mkF m pc Ls (.long y :: .long x :: st))) := own_st (fun t k => XS.lxor X.here hq.1 rfl (hb hq.2 hd) rfl k) g
theorem o_idiv (X : Stand p l e R s m args below meth c T locs cells slots) {cb : ByteArray} (hq : p.tables.exec = Jvm.exec ∧ c.code = cb) {x y : Int32} (hd : decode cb pc = .ok (.idiv, 1)) (hy : y ≠ 0) (g : own_Go p.tables e below P (T.setTop (mkF m (pc + 1) Ls (.int (x / y) :: st)))) : own_Go p.tables e below P (T.setTop (mkF m pc Ls (.int y :: .int x :: st))) := own_st (fun t k => XS.idiv X.here hq.1 rfl (hb hq.2 hd) rfl hy k) g
theorem o_irem (X : Stand p l e R s m args below meth c T locs cells slots) {cb : ByteArray} (hq : p.tables.exec = Jvm.exec ∧ c.code = cb) {x y : Int32} (hd : decode cb pc = .ok (.irem, 1)) (hy : y ≠ 0) (g : own_Go p.tables e below P (T.setTop (mkF m (pc + 1) Ls (.int (x - x / y * y) :: st)))) : own_Go p.tables e below P (T.setTop (mkF m pc Ls (.int y :: .int x :: st))) := own_st (fun t k => XS.irem X.here hq.1 rfl (hb hq.2 hd) rfl hy k) g
theorem o_ldiv (X : Stand p l e R s m args below meth c T locs cells slots) {cb : ByteArray} (hq : p.tables.exec = Jvm.exec ∧ c.code = cb) {x y : Int64} (hd : decode cb pc = .ok (.ldiv, 1)) (hy : y ≠ 0) (g : own_Go p.tables e below P (T.setTop (mkF m (pc + 1) Ls (.long (x / y) :: st)))) : own_Go p.tables e below P (T.setTop (mkF m pc Ls (.long y :: .long x :: st))) := own_st (fun t k => XS.ldiv X.here hq.1 rfl (hb hq.2 hd) rfl hy k) g
theorem o_lrem (X : Stand p l e R s m args below meth c T locs cells slots) {cb : ByteArray} (hq : p.tables.exec = Jvm.exec ∧ c.code = cb) {x y : Int64} (hd : decode cb pc = .ok (.lrem, 1)) (hy : y ≠ 0) (g : own_Go p.tables e below P (T.setTop (mkF m (pc + 1) Ls (.long (x - x / y * y) :: st)))) : own_Go p.tables e below P (T.setTop (mkF m pc Ls (.long y :: .long x :: st))) := own_st (fun t k => XS.lrem X.here hq.1 rfl (hb hq.2 hd) rfl hy k) g
theorem o_ineg (X : Stand p l e R s m args below meth c T locs cells slots) {cb : ByteArray} (hq : p.tables.exec = Jvm.exec ∧ c.code = cb) {x : Int32} (hd : decode cb pc = .ok (.ineg, 1)) (g : own_Go p.tables e below P (T.setTop (mkF m (pc + 1) Ls (.int ((-x)) :: st)))) : own_Go p.tables e below P (T.setTop (mkF m pc Ls (.int x :: st))) := own_st (fun t k => XS.ineg X.here hq.1 rfl (hb hq.2 hd) rfl k) g
theorem o_lneg (X : Stand p l e R s m args below meth c T locs cells slots) {cb : ByteArray} (hq : p.tables.exec = Jvm.exec ∧ c.code = cb) {x : Int64} (hd : decode cb pc = .ok (.lneg, 1)) (g : own_Go p.tables e below P (T.setTop (mkF m (pc + 1) Ls (.long ((-x)) :: st)))) : own_Go p.tables e below P (T.setTop (mkF m pc Ls (.long x :: st))) := own_st (fun t k => XS.lneg X.here hq.1 rfl (hb hq.2 hd) rfl k) g
theorem o_i2l (X : Stand p l e R s m args below meth c T locs cells slots) {cb : ByteArray} (hq : p.tables.exec = Jvm.exec ∧ c.code = cb) {x : Int32} (hd : decode cb pc = .ok (.i2l, 1)) (g : own_Go p.tables e below P (T.setTop (mkF m (pc + 1) Ls (.long (x.toInt64) :: st)))) : own_Go p.tables e below P (T.setTop (mkF m pc Ls (.int x :: st))) := own_st (fun t k => XS.i2l X.here hq.1 rfl (hb hq.2 hd) rfl k) g
theorem o_l2i (X : Stand p l e R s m args below meth c T locs cells slots) {cb : ByteArray} (hq : p.tables.exec = Jvm.exec ∧ c.code = cb) {x : Int64} (hd : decode cb pc = .ok (.l2i, 1)) (g : own_Go p.tables e below P (T.setTop (mkF m (pc + 1) Ls (.int (x.toInt32) :: st)))) : own_Go p.tables e below P (T.setTop (mkF m pc Ls (.long x :: st))) := own_st (fun t k => XS.l2i X.here hq.1 rfl (hb hq.2 hd) rfl k) g
theorem o_i2b (X : Stand p l e R s m args below meth c T locs cells slots) {cb : ByteArray} (hq : p.tables.exec = Jvm.exec ∧ c.code = cb) {x : Int32} (hd : decode cb pc = .ok (.i2b, 1)) (g : own_Go p.tables e below P (T.setTop (mkF m (pc + 1) Ls (.int (x.toInt8.toInt32) :: st)))) : own_Go p.tables e below P (T.setTop (mkF m pc Ls (.int x :: st))) := own_st (fun t k => XS.i2b X.here hq.1 rfl (hb hq.2 hd) rfl k) g
theorem o_i2s (X : Stand p l e R s m args below meth c T locs cells slots) {cb : ByteArray} (hq : p.tables.exec = Jvm.exec ∧ c.code = cb) {x : Int32} (hd : decode cb pc = .ok (.i2s, 1)) (g : own_Go p.tables e below P (T.setTop (mkF m (pc + 1) Ls (.int (x.toInt16.toInt32) :: st)))) : own_Go p.tables e below P (T.setTop (mkF m pc Ls (.int x :: st))) := own_st (fun t k => XS.i2s X.here hq.1 rfl (hb hq.2 hd) rfl k) g
theorem o_i2c (X : Stand p l e R s m args below meth c T locs cells slots) {cb : ByteArray} (hq : p.tables.exec = Jvm.exec ∧ c.code = cb) {x : Int32} (hd : decode cb pc = .ok (.i2c, 1)) (g : own_Go p.tables e below P (T.setTop (mkF m (pc + 1) Ls (.int (x.toUInt32.toUInt16.toUInt32.toInt32) :: st)))) : own_Go p.tables e below P (T.setTop (mkF m pc Ls (.int x :: st))) := own_st (fun t k => XS.i2c X.here hq.1 rfl (hb hq.2 hd) rfl k) g
theorem o_ishl (X : Stand p l e R s m args below meth c T locs cells slots) {cb : ByteArray} (hq : p.tables.exec = Jvm.exec ∧ c.code = cb) {x : Int32} {y : Int32} (hd : decode cb pc = .ok (.ishl, 1)) (g : own_Go p.tables e below P (T.setTop (mkF m (pc + 1) Ls (.int (x <<< (y &&& 31)) :: st)))) : own_Go p.tables e below P (T.setTop (mkF m pc Ls (.int y :: .int x :: st))) := own_st (fun t k => XS.ishl X.here hq.1 rfl (hb hq.2 hd) rfl k) g
theorem o_ishr (X : Stand p l e R s m args below meth c T locs cells slots) {cb : ByteArray} (hq : p.tables.exec = Jvm.exec ∧ c.code = cb) {x : Int32} {y : Int32} (hd : decode cb pc = .ok (.ishr, 1)) (g : own_Go p.tables e below P (T.setTop (mkF m (pc + 1) Ls (.int (x >>> (y &&& 31)) :: st)))) : own_Go p.tables e below P (T.setTop (mkF m pc Ls (.int y :: .int x :: st))) := own_st (fun t k => XS.ishr X.here hq.1 rfl (hb hq.2 hd) rfl k) g
theorem o_iushr (X : Stand p l e R s m args below meth c T locs cells slots) {cb : ByteArray} (hq : p.tables.exec = Jvm.exec ∧ c.code = cb) {x : Int32} {y : Int32} (hd : decode cb pc = .ok (.iushr, 1)) (g : own_Go p.tables e below P (T.setTop (mkF m (pc + 1) Ls (.int ((x.toUInt32 >>> (y &&& 31).toUInt32).toInt32) :: st)))) : own_Go p.tables e below P (T.setTop (mkF m pc Ls (.int y :: .int x :: st))) := own_st (fun t k => XS.iushr X.here hq.1 rfl (hb hq.2 hd) rfl k) g
theorem o_lshl (X : Stand p l e R s m args below meth c T locs cells slots) {cb : ByteArray} (hq : p.tables.exec = Jvm.exec ∧ c.code = cb) {x : Int64} {y : Int32} (hd : decode cb pc = .ok (.lshl, 1)) (g : own_Go p.tables e below P (T.setTop (mkF m (pc + 1) Ls (.long (x <<< (y &&& 0x3f).toInt64) :: st)))) : own_Go p.tables e below P (T.setTop (mkF m pc Ls (.int y :: .long x :: st))) := own_st (fun t k => XS.lshl X.here hq.1 rfl (hb hq.2 hd) rfl k) g
theorem o_lshr (X : Stand p l e R s m args below meth c T locs cells slots) {cb : ByteArray} (hq : p.tables.exec = Jvm.exec ∧ c.code = cb) {x : Int64} {y : Int32} (hd : decode cb pc = .ok (.lshr, 1)) (g : own_Go p.tables e below P (T.setTop (mkF m (pc + 1) Ls (.long (x >>> (y &&& 0x3f).toInt64) :: st)))) : own_Go p.tables e below P (T.setTop (mkF m pc Ls (.int y :: .long x :: st))) := own_st (fun t k => XS.lshr X.here hq.1 rfl (hb hq.2 hd) rfl k) g
theorem o_lushr (X : Stand p l e R s m args below meth c T locs cells slots) {cb : ByteArray} (hq : p.tables.exec = Jvm.exec ∧ c.code = cb) {x : Int64} {y : Int32} (hd : decode cb pc = .ok (.lushr, 1)) (g : own_Go p.tables e below P (T.setTop (mkF m (pc + 1) Ls (.long ((x.toUInt64 >>> (y &&& 0x3f).toInt64.toUInt64).toInt64) :: st)))) : own_Go p.tables e below P (T.setTop (mkF m pc Ls (.int y :: .long x :: st))) := own_st (fun t k => XS.lushr X.here hq.1 rfl (hb hq.2 hd) rfl k) g
theorem o_lcmp (X : Stand p l e R s m args below meth c T locs cells slots) {cb : ByteArray} (hq : p.tables.exec = Jvm.exec ∧ c.code = cb) {x y : Int64} (hd : decode cb pc = .ok (.lcmp, 1)) (g : own_Go p.tables e below P (T.setTop (mkF m (pc + 1) Ls (.int (lcmpW x y) :: st)))) : own_Go p.tables e below P (T.setTop (mkF m pc Ls (.long y :: .long x :: st))) := own_st (fun t k => XS.lcmp X.here hq.1 rfl (hb hq.2 hd) rfl k) g
theorem o_iinc (X : Stand p l e R s m args below meth c T locs cells slots) {cb : ByteArray} (hq : p.tables.exec = Jvm.exec ∧ c.code = cb) {k : Nat} {cst : Int} {x : Int32} {l' : Array Slot} (hd : decode cb pc = .ok (.iinc k cst, 3)) (hl : Ls[k]? = some (.val (.int x))) (hl' : storeLocals Ls k (.int (x + Int32.ofInt cst)) = some l') (g : own_Go p.tables e below P (T.setTop (mkF m (pc + 3) l' st))) : own_Go p.tables e below P (T.setTop (mkF m pc Ls st)) := own_st (fun t k => XS.iinc X.here hq.1 rfl (hb hq.2 hd) hl hl' k) g
theorem o_dup (X : Stand p l e R s m args below meth c T locs cells slots) {cb : ByteArray} (hq : p.tables.exec = Jvm.exec ∧ c.code = cb) {x : Value} (hd : decode cb pc = .ok (.dup, 1)) (hc : x.category = 1) (g : own_Go p.tables e below P (T.setTop (mkF m (pc + 1) Ls (x :: x :: st)))) : own_Go p.tables e below P (T.setTop (mkF m pc Ls (x :: st))) := own_st (fun t k => XS.dup X.here hq.1 rfl (hb hq.2 hd) rfl hc k) g
theorem o_pop (X : Stand p l e R s m args below meth c T locs cells slots) {cb : ByteArray} (hq : p.tables.exec = Jvm.exec ∧ c.code = cb) {x : Value} (hd : decode cb pc = .ok (.pop, 1)) (hc : x.category = 1) (g : own_Go p.tables e below P (T.setTop (mkF m (pc + 1) Ls st))) : own_Go p.tables e below P (T.setTop (mkF m pc Ls (x :: st))) := own_st (fun t k => XS.pop X.here hq.1 rfl (hb hq.2 hd) rfl hc k) g
theorem o_dupX1 (X : Stand p l e R s m args below meth c T locs cells slots) {cb : ByteArray} (hq : p.tables.exec = Jvm.exec ∧ c.code = cb) {x y : Value} (hd : decode cb pc = .ok (.dup_x1, 1)) (hc : x.category = 1) (hc' : y.category = 1) (g : own_Go p.tables e below P (T.setTop (mkF m (pc + 1) Ls (x :: y :: x :: st)))) : own_Go p.tables e below P (T.setTop (mkF m pc Ls (x :: y :: st))) := own_st (fun t k => XS.dupX1 X.here hq.1 rfl (hb hq.2 hd) rfl hc hc' k) g
theorem o_dup2 (X : Stand p l e R s m args below meth c T locs cells slots) {cb : ByteArray} (hq : p.tables.exec = Jvm.exec ∧ c.code = cb) {x y : Value} (hd : decode cb pc = .ok (.dup2, 1)) (hc : x.category = 1) (hc' : y.category = 1) (g : own_Go p.tables e below P (T.setTop (mkF m (pc + 1) Ls (x :: y :: x :: y :: st)))) : own_Go p.tables e below P (T.setTop (mkF m pc Ls (x :: y :: st))) := own_st (fun t k => Jvm.Free.XT.dup2 X.here hq.1 rfl (hb hq.2 hd) rfl hc hc' k) g
theorem o_goto (X : Stand p l e R s m args below meth c T locs cells slots) {cb : ByteArray} (hq : p.tables.exec = Jvm.exec ∧ c.code = cb) {o : Int} {pc' : Nat} (hd : decode cb pc = .ok (.goto o, 3)) (g : own_Go p.tables e below P (T.setTop (mkF m pc' Ls st))) (ho : 0 ≤ (pc : Int) + o := by decide) (hp : ((pc : Int) + o).toNat = pc' := by decide) : own_Go p.tables e below P (T.setTop (mkF m pc Ls st)) := own_st (fun t k => XS.goto X.here hq.1 rfl rfl (hb hq.2 hd) ho hp k) g
theorem o_ifYes (X : Stand p l e R s m args below meth c T locs cells slots) {cb : ByteArray} (hq : p.tables.exec = Jvm.exec ∧ c.code = cb) {cd : ClassFile.Cond} {x : Int32} {o : Int} {pc' : Nat} (hd : decode cb pc = .ok (.ifCond cd o, 3)) (hc : if_icmp.holds cd x 0 = true) (g : own_Go p.tables e below P (T.setTop (mkF m pc' Ls st))) (ho : 0 ≤ (pc : Int) + o := by decide) (hp : ((pc : Int) + o).toNat = pc' := by decide) : own_Go p.tables e below P (T.setTop (mkF m pc Ls (.int x :: st))) := own_st (fun t k => XS.ifYes X.here hq.1 rfl rfl (hb hq.2 hd) rfl ((if0 _ _).trans hc) ho hp k) g
theorem o_ifNo (X : Stand p l e R s m args below meth c T locs cells slots) {cb : ByteArray} (hq : p.tables.exec = Jvm.exec ∧ c.code = cb) {cd : ClassFile.Cond} {x : Int32} {o : Int} (hd : decode cb pc = .ok (.ifCond cd o, 3)) (hc : if_icmp.holds cd x 0 = false) (g : own_Go p.tables e below P (T.setTop (mkF m (pc + 3) Ls st))) : own_Go p.tables e below P (T.setTop (mkF m pc Ls (.int x :: st))) := own_st (fun t k => XS.ifNo X.here hq.1 rfl (hb hq.2 hd) rfl ((if0 _ _).trans hc) k) g
theorem o_icmpYes (X : Stand p l e R s m args below meth c T locs cells slots) {cb : ByteArray} (hq : p.tables.exec = Jvm.exec ∧ c.code = cb) {cd : ClassFile.Cond} {x y : Int32} {o : Int} {pc' : Nat} (hd : decode cb pc = .ok (.if_icmp cd o, 3)) (hc : if_icmp.holds cd x y = true) (g : own_Go p.tables e below P (T.setTop (mkF m pc' Ls st))) (ho : 0 ≤ (pc : Int) + o := by decide) (hp : ((pc : Int) + o).toNat = pc' := by decide) : own_Go p.tables e below P (T.setTop (mkF m pc Ls (.int y :: .int x :: st))) := own_st (fun t k => XS.icmpYes X.here hq.1 rfl rfl (hb hq.2 hd) rfl hc ho hp k) g
theorem o_icmpNo (X : Stand p l e R s m args below meth c T locs cells slots) {cb : ByteArray} (hq : p.tables.exec = Jvm.exec ∧ c.code = cb) {cd : ClassFile.Cond} {x y : Int32} {o : Int} (hd : decode cb pc = .ok (.if_icmp cd o, 3)) (hc : if_icmp.holds cd x y = false) (g : own_Go p.tables e below P (T.setTop (mkF m (pc + 3) Ls st))) : own_Go p.tables e below P (T.setTop (mkF m pc Ls (.int y :: .int x :: st))) := own_st (fun t k => XS.icmpNo X.here hq.1 rfl (hb hq.2 hd) rfl hc k) g
theorem o_ifnullYes (X : Stand p l e R s m args below meth c T locs cells slots) {cb : ByteArray} (hq : p.tables.exec = Jvm.exec ∧ c.code = cb) {o : Int} {pc' : Nat} (hd : decode cb pc = .ok (.ifnull o, 3)) (g : own_Go p.tables e below P (T.setTop (mkF m pc' Ls st))) (ho : 0 ≤ (pc : Int) + o := by decide) (hp : ((pc : Int) + o).toNat = pc' := by decide) : own_Go p.tables e below P (T.setTop (mkF m pc Ls (.null :: st))) := own_st (fun t k => XS.ifnullYes X.here hq.1 rfl rfl (hb hq.2 hd) rfl ho hp k) g
theorem o_ifnullNo (X : Stand p l e R s m args below meth c T locs cells slots) {cb : ByteArray} (hq : p.tables.exec = Jvm.exec ∧ c.code = cb) {o : Int} {b : Addr} (hd : decode cb pc = .ok (.ifnull o, 3)) (g : own_Go p.tables e below P (T.setTop (mkF m (pc + 3) Ls st))) : own_Go p.tables e below P (T.setTop (mkF m pc Ls (.ref b :: st))) := own_st (fun t k => XS.ifnullNo X.here hq.1 rfl (hb hq.2 hd) rfl k) g
theorem o_ifnonnullNo (X : Stand p l e R s m args below meth c T locs cells slots) {cb : ByteArray} (hq : p.tables.exec = Jvm.exec ∧ c.code = cb) {o : Int} (hd : decode cb pc = .ok (.ifnonnull o, 3)) (g : own_Go p.tables e below P (T.setTop (mkF m (pc + 3) Ls st))) : own_Go p.tables e below P (T.setTop (mkF m pc Ls (.null :: st))) := own_st (fun t k => XS.ifnonnullNo X.here hq.1 rfl (hb hq.2 hd) rfl k) g
theorem o_ifnonnullYes (X : Stand p l e R s m args below meth c T locs cells slots) {cb : ByteArray} (hq : p.tables.exec = Jvm.exec ∧ c.code = cb) {o : Int} {b : Addr} {pc' : Nat} (hd : decode cb pc = .ok (.ifnonnull o, 3)) (g : own_Go p.tables e below P (T.setTop (mkF m pc' Ls st))) (ho : 0 ≤ (pc : Int) + o := by decide) (hp : ((pc : Int) + o).toNat = pc' := by decide) : own_Go p.tables e below P (T.setTop (mkF m pc Ls (.ref b :: st))) := own_st (fun t k => XS.ifnonnullYes X.here hq.1 rfl rfl (hb hq.2 hd) rfl ho hp k) g
theorem o_ldc (X : Stand p l e R s m args below meth c T locs cells slots) {cb : ByteArray} (hq : p.tables.exec = Jvm.exec ∧ c.code = cb) {own : String} {index : Nat} {v : Int32} (hown : s.vm.findClass own = some m.cls) (hd : decode cb pc = .ok (.ldc index, 2)) (hk : (Cond.constant own index v).before args s = true) (g : own_Go p.tables e below P (T.setTop (mkF m (pc + 2) Ls (.int v :: st)))) : own_Go p.tables e below P (T.setTop (mkF m pc Ls st)) := own_st (X.ldcInt hq.1 hown hk (g := mkF m pc Ls st) rfl (hb hq.2 hd)) g
theorem o_ldc2 (X : Stand p l e R s m args below meth c T locs cells slots) {cb : ByteArray} (hq : p.tables.exec = Jvm.exec ∧ c.code = cb) {own : String} {index : Nat} {v : Int64} (hown : s.vm.findClass own = some m.cls) (hd : decode cb pc = .ok (.ldc2_w index, 3)) (hk : (Cond.constantLong own index v).before args s = true) (g : own_Go p.tables e below P (T.setTop (mkF m (pc + 3) Ls (.long v :: st)))) : own_Go p.tables e below P (T.setTop (mkF m pc Ls st)) := own_st (X.ldc2Long hq.1 hown hk (g := mkF m pc Ls st) rfl (hb hq.2 hd)) g
end Steps2
end Jvm.RoadKit
namespace Jvm.Pilot.@@N@@
open Jvm Jvm.ClassFile Sem Op Lib Jvm.Free Jvm.Stand Jvm.LawKit Jvm.RoadKit Bundle Jvm.Pilot.@@N@@.Jvm.D
abbrev R_ (a b c d : Nat) : Room := ⟨a, b, c, d⟩
abbrev y0_ : MethodName := ⟨"com/example/vernum/vernum/VersionScanner", "trim", "()V"⟩
abbrev y1_ : MethodName := ⟨"com/example/vernum/vernum/VersionScannerAtEndPinLaw", "make", "(ICCC)Ljava/lang/String;"⟩
abbrev y2_ : MethodName := ⟨"java/lang/String", "<init>", "([CIILjava/lang/Void;)V"⟩
abbrev y3_ : MethodName := ⟨"java/lang/String", "<init>", "([C)V"⟩
abbrev y4_ : MethodName := ⟨"java/lang/StringUTF16", "compress", "([CI[BII)I"⟩
abbrev y5_ : MethodName := ⟨"java/lang/StringUTF16", "compress", "([CII)[B"⟩
abbrev y6_ : MethodName := ⟨"java/lang/StringUTF16", "coderFromArrayLen", "([BI)B"⟩
abbrev y7_ : MethodName := ⟨"java/lang/String", "length", "()I"⟩
abbrev y8_ : MethodName := ⟨"java/lang/String", "charAt", "(I)C"⟩
abbrev y9_ : MethodName := ⟨"com/example/vernum/vernum/VersionScannerAtEndPinLaw", "draw", "(I)C"⟩
abbrev y10_ : MethodName := ⟨"com/example/vernum/vernum/VersionScanner", "skip", "(C)Z"⟩
abbrev y11_ : MethodName := ⟨"jdk/internal/util/Preconditions", "checkIndex", "(IILjava/util/function/BiFunction;)I"⟩
abbrev y12_ : MethodName := ⟨"java/lang/String", "checkIndex", "(II)V"⟩
abbrev y13_ : MethodName := ⟨"java/lang/StringLatin1", "charAt", "([BI)C"⟩
abbrev y14_ : MethodName := ⟨"java/lang/String", "isLatin1", "()Z"⟩
abbrev y15_ : MethodName := ⟨"java/lang/String", "coder", "()B"⟩
abbrev y16_ : MethodName := ⟨"com/example/vernum/vernum/VersionScanner", "<init>", "(Ljava/lang/String;)V"⟩
abbrev y17_ : MethodName := ⟨"com/example/vernum/vernum/VersionScanner", "atEnd", "()Z"⟩
abbrev y18_ : MethodName := ⟨"com/example/vernum/vernum/VersionScannerAtEndPinLaw", "step", "(Lcom/example/vernum/vernum/VersionScanner;[CIIZI)I"⟩
abbrev HW (a0 : Array Value) (Z : State) : Prop := ∀ d ∈ tables_1, d.before a0 Z = true
theorem w_ {a0 : Array Value} {Z : State} {d : Jvm.Cond} (hw : HW a0 Z) (i : Nat) (h : tables_1[i]? = some d) : d.before a0 Z = true := hw _ (List.mem_of_getElem? h)
theorem v_ {a0 args : Array Value} {Z s : State} {d : Jvm.Cond} (hZ : Z.Warmed39 s.vm) (hw : HW a0 Z) (i : Nat) (h : tables_1[i]? = some d) (hd : (d.onTables && d.keepsFace) = true := by first | rfl | simp [Cond.onTables, Cond.keepsFace, Cond.keeps, Cond.steady]) : d.before args s = true := mvT hZ (hw _ (List.mem_of_getElem? h)) hd
theorem z_ {a b : Nat} (h : 2 * 0 + a = b) : 2 * 0 + a ≤ b := Nat.le_of_eq h
def own_P (s : State) (Q : Option Value → Heap → List Loc → Prop) (R : Room) : Outcome → State → Prop := fun o U' => ∃ v L, o = .returned v ∧ Q v U'.heap L ∧ FrameEnd s o U' L R.cells R.slots
def own_PW (s : State) (Q : Option Value → Heap → List Loc → Prop) (R : Room) : Outcome → State → Prop := fun o U' => ∃ v L, o = .returned v ∧ Q v U'.heap L ∧ ReturnedEndW s o U' L R.cells R.slots
abbrev own_Met (l : Launch) (y : MethodName) (bytes : ByteArray) (ML : Nat) (ret : Option FieldType) (R : Room) (as' : Array Value) (Z : State) (h0 : Heap) (Q : Option Value → Heap → List Loc → Prop) : Prop :=
 MetFree l y (head1 [Jvm.Cond.code y bytes ML ret] R) (fun a U => a = as' ∧ Z.Warmed39 U.vm ∧ U.heap = h0) (fun _ _ _ _ _ => True) (fun _ U o U' => ∃ v L, o = .returned v ∧ Q v U'.heap L ∧ FrameEnd U o U' L R.cells R.slots)
theorem own_bd {l : Launch} {y : MethodName} {bytes : ByteArray} {ML : Nat} {ret : Option FieldType} {R : Room} {as' : Array Value} {Z : State} {h0 : Heap} {Q : Option Value → Heap → List Loc → Prop} {own : String} (ho : y.cls = own) (hpl : plainFor y = true) (Ls : Array Slot)
  (k : ∀ (p : Program) (e : Env) (s : State) (m : MethodId) (below : List Frame) (meth : Method) (c : Code) (s₁ : State), p.tables.exec = Jvm.exec → c.code = bytes → (p.tables.exec = Jvm.exec ∧ c.code = bytes) → c.maxLocals = ML → s.vm.findClass own = some m.cls → meth.name = y.name → meth.locks = false → meth.sig.returnType = ret → Z.Warmed39 s.vm → Stand p l e R s m as' below meth c s₁ [] 0 0 → s₁.heap = h0 → own_Go p.tables e below (own_P s Q R) (s₁.setTop (mkF m 0 Ls []))) (hef : ∀ m : MethodId, entryFrame m as' ML = mkF m 0 Ls [] := by intro m; first | (simp [entryFrame, mkF, argsToLocals, Value.category]; done) | rfl) : own_Met l y bytes ML ret R as' Z h0 Q := by
 refine MetFree.of_bodySF hpl hisR ?_
 intro p e s m args below meth c s₁ Bd hml hP hK
 obtain ⟨rfl, hZ, hh⟩ := hP
 have hlk : meth.locks = false := BodyLoose.notSynchronized (by assumption)
 have X0 : Stand p l e R s m _ below meth c s₁ [] 0 0 := Stand.of_body Bd
 have e0 : s₁.heap = h0 := by rw [← hh, Bd.state]; rfl
 have g := k p e s m below meth c s₁ Bd.exec Bd.bytes ⟨Bd.exec, Bd.bytes⟩ hml (by rw [← ho]; exact findClass_of_methodNamed Bd.named) (name_of_methodNamed Bd.named Bd.method).1 hlk Bd.returns hZ X0 e0
 exact own_st (fun t k => castTop (hef m) k) g
variable {l : Launch} {Z : State} {a0 : Array Value}
theorem own_Sta_keep {Z : State} {h h' : Heap} {C n d : String} {v : Value} {ws : List Addr} (F : Sta Z h C n d v) (K : Keep h h' ws) (hs : ∀ x ∈ ws, ∀ cell : Cell, h[x]? = some cell → cell.vm.isStatics = false) : Sta Z h' C n d v := by
 obtain ⟨cf, i, k, f, st, cell, h1, h2, h3, h4, h5, h6, h7⟩ := F
 refine ⟨cf, i, k, f, st, cell, h1, h2, h3, h4, K.2.1 _ _ h5 fun hm => ?_, h6, h7⟩
 rw [hs _ hm _ h5] at h6
 cases h6
theorem pn_7 : plainName "java/lang/StringUTF16" = true := by first | (simp [plainName, overriddenIn]; done) | decide +kernel
abbrev D7 := decode jdk_52_method_21_code
theorem d7_0 : D7 0 = .ok (.iconst 0, 1) := by decide +kernel
theorem d7_1 : D7 1 = .ok (.istore 5, 2) := by decide +kernel
theorem d7_3 : D7 3 = .ok (.iload 5, 2) := by decide +kernel
theorem d7_5 : D7 5 = .ok (.iload 4, 2) := by decide +kernel
theorem d7_7 : D7 7 = .ok (.if_icmp .ge 37, 3) := by decide +kernel
theorem d7_10 : D7 10 = .ok (.aload_n 0, 1) := by decide +kernel
theorem d7_11 : D7 11 = .ok (.iload_n 1, 1) := by decide +kernel
theorem d7_12 : D7 12 = .ok (.caload, 1) := by decide +kernel
theorem d7_13 : D7 13 = .ok (.istore 6, 2) := by decide +kernel
theorem d7_15 : D7 15 = .ok (.iload 6, 2) := by decide +kernel
theorem d7_17 : D7 17 = .ok (.sipush 255, 3) := by decide +kernel
theorem d7_20 : D7 20 = .ok (.if_icmp .le 6, 3) := by decide +kernel
theorem d7_26 : D7 26 = .ok (.aload_n 2, 1) := by decide +kernel
theorem d7_27 : D7 27 = .ok (.iload_n 3, 1) := by decide +kernel
theorem d7_28 : D7 28 = .ok (.iload 6, 2) := by decide +kernel
theorem d7_30 : D7 30 = .ok (.i2b, 1) := by decide +kernel
theorem d7_31 : D7 31 = .ok (.bastore, 1) := by decide +kernel
theorem d7_32 : D7 32 = .ok (.iinc 1 1, 3) := by decide +kernel
theorem d7_35 : D7 35 = .ok (.iinc 3 1, 3) := by decide +kernel
theorem d7_38 : D7 38 = .ok (.iinc 5 1, 3) := by decide +kernel
theorem d7_41 : D7 41 = .ok (.goto (-38), 3) := by decide +kernel
theorem d7_44 : D7 44 = .ok (.iload 4, 2) := by decide +kernel
theorem d7_46 : D7 46 = .ok (.ireturn, 1) := by decide +kernel
section Sm
variable {p : Program} {l : Launch} {e : Env} {R : Room} {s : State} {m : MethodId} {args : Array Value} {below : List Frame} {meth : Method} {c : Code} {T : State} {locs : List Loc} {cells slots : Nat} {P : Outcome → State → Prop} {pc : Nat} {Ls : Array Slot} {st : List Value}
theorem e_I (X : Stand p l e R s m args below meth c T locs cells slots) {h : Heap} (eT : T.heap = h) {cb : ByteArray} (hq : p.tables.exec = Jvm.exec ∧ c.code = cb) (hlk : meth.locks = false) {z : Int32} {rest : List Value} (hrt : meth.sig.returnType = some .int) (hd : decode cb pc = .ok (.ireturn, 1)) {Q : Option Value → Heap → List Loc → Prop} (hQ : Q (some (.int z)) h locs) (hcs : cells ≤ R.cells ∧ slots ≤ R.slots := by decide) :
  own_Go p.tables e below (own_P s Q R) (T.setTop (mkF m pc Ls (.int z :: rest))) := own_end X eT (v := (some (.int z))) (fun h => by rw [hrt] at h; cases h) hlk (fun fs hr => retI X hq.1 hrt (hb hq.2 hd) hr) (Q := Q) hQ hcs.1 hcs.2
end Sm
def Q_rmcA1 (Z : State) (a0 : Array Value) (a1 a2 : Addr) (k1 : ClassId) (d1 : Value) (c0 : Int32) (k2 : ClassId) (h0 : Heap) (n0 : Nat) (v : Option Value) (h : Heap) (L : List Loc) : Prop := v = some (.int (1 : Int32)) ∧ Fr n0 L ∧ Keep h0 h [a2] ∧ Arv Z h a2 k2 .byte (1 : Int32) [(.int ((c0.toInt8.toInt32).toInt8.toInt32))] (.int (0 : Int32))
theorem rmcA1 (hw : HW a0 Z) (a1 a2 : Addr) (k1 : ClassId) (d1 : Value) (c0 : Int32) (k2 : ClassId) (h0 : Heap) (n0 : Nat) (Z0 : n0 ≤ h0.size) (V1 : Arv Z h0 a1 k1 .char (1 : Int32) [(.int c0)] d1) (V2 : Arv Z h0 a2 k2 .byte (1 : Int32) [(.int (0 : Int32))] (.int (0 : Int32))) (g2 : n0 ≤ a2) (n12 : a1 ≠ a2) (hc0 : ¬ (255 : Int32) < c0) :
  own_Met l y4_ jdk_52_method_21_code 7 (some .int) (R_ 0 0 0 0) #[(.ref a1), (.int (0 : Int32)), (.ref a2), (.int (0 : Int32)), (.int (1 : Int32))] Z h0 (Q_rmcA1 Z a0 a1 a2 k1 d1 c0 k2 h0 n0) := by
 refine own_bd (own := "java/lang/StringUTF16") rfl (plainFor_of_name pn_7) #[rv a1, iv 0, rv a2, iv 0, iv 1, .unset, .unset] ?_
 intro p e s m below meth c s₁ hx hby Hq hml hown hnm hlk hrt hZ X0 e0
 refine o_iconst X0 Hq 0 d7_0 rfl (o_istore X0 Hq d7_1 (l' := #[rv a1, iv 0, rv a2, iv 0, iv 1, iv 0, .unset]) rfl (o_iload X0 Hq d7_3 rfl (o_iload X0 Hq d7_5 rfl (o_icmpNo X0 Hq d7_7 (by decide) (o_aloadN X0 Hq d7_10 rfl rfl (o_iloadN X0 Hq d7_11 rfl ?_))))))
 obtain ⟨cl_1, Ar_1, qk_1, Sz_1, Ng_1, Hs_1, Gs_1⟩ := id V1
 refine own_st (X0.caload hx (j := (0 : Int32)) (v := (.int c0)) (by rw [e0]; exact Ar_1.1) (State.isArrayOf_alike hZ.alike Ar_1.2.1) Ar_1.2.2 (inb_of Sz_1 ⟨by decide, by decide⟩) (Hs_1.at (j := (0 : Int32)) (inb_of Sz_1 ⟨by decide, by decide⟩) rfl) (g := (mkF m 12 #[rv a1, iv 0, rv a2, iv 0, iv 1, iv 0, .unset] [(.int 0), (.ref a1)])) rfl rfl (hb hby d7_12)) ?_
 show own_Go _ _ _ _ (s₁.setTop (mkF m 13 #[rv a1, iv 0, rv a2, iv 0, iv 1, iv 0, .unset] [(.int c0)]))
 refine o_istore X0 Hq d7_13 (l' := #[rv a1, iv 0, rv a2, iv 0, iv 1, iv 0, iv c0]) rfl (o_iload X0 Hq d7_15 rfl (o_sipush X0 Hq 255 d7_17 rfl (o_icmpYes X0 Hq (pc' := 26) d7_20 (flt hc0).2.2.2 (o_aloadN X0 Hq d7_26 rfl rfl (o_iloadN X0 Hq d7_27 rfl (o_iload X0 Hq d7_28 rfl (o_i2b X0 Hq d7_30 ?_)))))))
 obtain ⟨cl_2, Ar_2, qk_2, Sz_2, Ng_2, Hs_2, Gs_2⟩ := id V2
 obtain ⟨T_3, h_3, X_3, e_3, W_3, st_3⟩ := stB X0 hx hZ e0 Ar_2 (j := (0 : Int32)) (inb_of Sz_2 ⟨by decide, by decide⟩) (g := (mkF m 31 #[rv a1, iv 0, rv a2, iv 0, iv 1, iv 0, iv c0] [(.int (c0.toInt8.toInt32)), (.int 0), (.ref a2)])) rfl rfl (hb hby d7_31)
 refine own_st st_3 ?_
 have V_3 : Arv Z h_3 a2 k2 .byte (1 : Int32) [(.int ((c0.toInt8.toInt32).toInt8.toInt32))] (.int (0 : Int32)) := Arv.set Ar_2 qk_2 Sz_2 Ng_2 Hs_2 Gs_2 (fits_nar_byte _) W_3 0 rfl (Nat.le_of_ble_eq_true rfl)
 have N_3 := Fr.snoc X_3 (Fr.nil n0) g2
 show own_Go _ _ _ _ (T_3.setTop (mkF m 32 #[rv a1, iv 0, rv a2, iv 0, iv 1, iv 0, iv c0] []))
 refine o_iinc X_3 Hq d7_32 rfl (l' := #[rv a1, iv 1, rv a2, iv 0, iv 1, iv 0, iv c0]) rfl (o_iinc X_3 Hq d7_35 rfl (l' := #[rv a1, iv 1, rv a2, iv 1, iv 1, iv 0, iv c0]) rfl (o_iinc X_3 Hq d7_38 rfl (l' := #[rv a1, iv 1, rv a2, iv 1, iv 1, iv 1, iv c0]) rfl (o_goto X_3 Hq (pc' := 3) d7_41 (o_iload X_3 Hq d7_3 rfl (o_iload X_3 Hq d7_5 rfl (o_icmpYes X_3 Hq (pc' := 44) d7_7 (by decide) (o_iload X_3 Hq d7_44 rfl ?_)))))))
 have Kp_4 : Keep h0 h_3 [a2] := ((Keep.refl h0 [a2]).wr W_3 (Or.inl (List.mem_of_getElem? (i := 0) rfl)))
 exact e_I X_3 e_3 Hq hlk hrt d7_46 ⟨rfl, N_3, Kp_4, V_3⟩
abbrev D6 := decode jdk_52_method_16_code
theorem d6_0 : D6 0 = .ok (.iload_n 2, 1) := by decide +kernel
theorem d6_1 : D6 1 = .ok (.newarray .byte, 2) := by decide +kernel
theorem d6_3 : D6 3 = .ok (.astore_n 3, 1) := by decide +kernel
theorem d6_4 : D6 4 = .ok (.aload_n 0, 1) := by decide +kernel
theorem d6_5 : D6 5 = .ok (.iload_n 1, 1) := by decide +kernel
theorem d6_6 : D6 6 = .ok (.aload_n 3, 1) := by decide +kernel
theorem d6_7 : D6 7 = .ok (.iconst 0, 1) := by decide +kernel
theorem d6_8 : D6 8 = .ok (.iload_n 2, 1) := by decide +kernel
theorem d6_9 : D6 9 = .ok (.invokestatic 115, 3) := by decide +kernel
theorem pd_1 : parseMethodDescriptor "([CI[BII)I" = some ⟨[(.array .char), .int, (.array .byte), .int, .int], some .int⟩ := by decide +kernel
def own_KS (a0 : Array Value) (Z : State) (own C : String) (index : Nat) (y z : MethodName) (bytes : ByteArray) (maxL : Nat) (ret : Option FieldType) (k : Nat) : Prop := ((Jvm.Cond.methodLink own index y).before a0 Z = true ∧ (∃ ps r, parseMethodDescriptor y.desc = some ⟨ps, r⟩ ∧ k = ps.length) ∧ (y.cls ≠ "java/lang/invoke/MethodHandle" ∧ y.cls ≠ "java/lang/invoke/VarHandle")) ∧ (Jvm.Cond.static y).before a0 Z = true ∧ (Jvm.Cond.initialized y.cls).before a0 Z = true ∧ (Jvm.Cond.code y bytes maxL ret).before a0 Z = true
section Sm
variable {p : Program} {l : Launch} {e : Env} {R : Room} {s : State} {m : MethodId} {args : Array Value} {below : List Frame} {meth : Method} {c : Code} {T : State} {locs : List Loc} {cells slots : Nat} {P : Outcome → State → Prop} {pc : Nat} {Ls : Array Slot} {st : List Value}
theorem c_S5 (X : Stand p l e R s m args below meth c T locs cells slots) {cb : ByteArray} (hq : p.tables.exec = Jvm.exec ∧ c.code = cb) {Z : State} {a0 : Array Value} {h : Heap} {own C : String} {index : Nat} {y z : MethodName} {bytes : ByteArray} {maxL ML : Nat} {ret : Option FieldType} {rm : Room} {Q : Option Value → Heap → List Loc → Prop} {v1 v2 v3 v4 v5 : Value}
  (eT : T.heap = h) (hZ : Z.Warmed39 s.vm) (hown : s.vm.findClass own = some m.cls) (hml : c.maxLocals = ML) (hK : own_KS a0 Z own C index y z bytes maxL ret 5) (hM : own_Met l y bytes maxL ret rm #[v1, v2, v3, v4, v5] Z h Q)
  (hd : decode cb pc = .ok (.invokestatic index, 3)) 
  (k : ∀ (T' : State) (L : List Loc) (w : Value), Stand p l e R s m args below meth c T' (locs ++ L) (cells + rm.cells) (slots + rm.slots) → Q (some w) T'.heap L → own_Go p.tables e below P (T'.setTop (mkF m (pc + 3) Ls (w :: st)))) (W : Nat) (hsz : Ls.size = ML := by rfl) (hW : (st.map fun v => v.category).sum = W := by rfl) (sd : rm.frames + 1 ≤ R.frames ∧ W + (maxL + 11) + rm.locals ≤ R.locals ∧ cells + rm.cells ≤ R.cells ∧ slots + rm.slots ≤ R.slots := by decide) (hv : ∀ v h L, Q v h L → ∃ w, v = some w := by intro v h L q; first | exact Exists.intro _ q.1 | (obtain ⟨_, q⟩ := q; exact Exists.intro _ q.1) | (obtain ⟨_, _, q⟩ := q; exact Exists.intro _ q.1) | (obtain ⟨_, _, _, q⟩ := q; exact Exists.intro _ q.1)) : own_Go p.tables e below P (T.setTop (mkF m pc Ls (v5 :: v4 :: v3 :: v2 :: v1 :: st))) := by
 obtain ⟨⟨w1, ⟨ps, r, hp, hlen⟩, hy⟩, w2, w3, w4⟩ := hK
 obtain ⟨v, vm1, ⟨T', L0, k0, n0⟩, -, X', ⟨L, hQ, e1, e2, e3⟩, hst⟩ := Jvm.LawKit.callS X hq.1 (y := y) hown (mvT hZ w1) (mvT hZ w2) (mvT hZ w3) (mvT hZ w4) hy (backOf (W := W) (Q := Q) hM hZ w4 w3 sd.1 sd.2.1) (g := mkF m pc Ls (v5 :: v4 :: v3 :: v2 :: v1 :: st)) rfl (by rw [hml]; exact hsz) (argsL := [v1, v2, v3, v4, v5]) (rest := st) (lenOf hp hlen) rfl (by show 2 * 0 + _ ≤ _; rw [Nat.mul_zero, Nat.zero_add]; exact Nat.le_of_eq hW) (hb hq.2 hd) (fun _ _ => ⟨rfl, eT, sd.2.2.1, sd.2.2.2⟩)
 dsimp only [Pt.U, Pt.locs, Pt.cells, Pt.slots] at X' e1 e2 e3 hst hQ
 subst e1 e2 e3
 obtain ⟨w, rfl⟩ := hv _ _ _ hQ
 exact own_st hst (k _ _ _ X' hQ)
end Sm
theorem k6_115 {a0 : Array Value} {Z : State} (hw : HW a0 Z) : own_KS a0 Z "java/lang/StringUTF16" "" 115 y4_ y4_ jdk_52_method_21_code 7 (some .int) 5 := ⟨⟨(w_ hw 27 rfl), ⟨_, _, pd_1, rfl⟩, by decide⟩, (w_ hw 28 rfl), (w_ hw 24 rfl), (w_ hw 29 rfl)⟩
theorem d6_12 : D6 12 = .ok (.istore 4, 2) := by decide +kernel
theorem d6_14 : D6 14 = .ok (.iload 4, 2) := by decide +kernel
theorem d6_16 : D6 16 = .ok (.iload_n 2, 1) := by decide +kernel
theorem d6_17 : D6 17 = .ok (.if_icmp .eq 40, 3) := by decide +kernel
theorem d6_57 : D6 57 = .ok (.aload_n 3, 1) := by decide +kernel
theorem d6_58 : D6 58 = .ok (.areturn, 1) := by decide +kernel
section Sm
variable {p : Program} {l : Launch} {e : Env} {R : Room} {s : State} {m : MethodId} {args : Array Value} {below : List Frame} {meth : Method} {c : Code} {T : State} {locs : List Loc} {cells slots : Nat} {P : Outcome → State → Prop} {pc : Nat} {Ls : Array Slot} {st : List Value}
theorem e_R (X : Stand p l e R s m args below meth c T locs cells slots) {h : Heap} (eT : T.heap = h) {cb : ByteArray} (hq : p.tables.exec = Jvm.exec ∧ c.code = cb) (hlk : meth.locks = false) {z : Value} {t : FieldType} {rest : List Value} (ht : t.isReference = true) (hz : z.isRef = true) (hrt : meth.sig.returnType = some t) (hd : decode cb pc = .ok (.areturn, 1)) {Q : Option Value → Heap → List Loc → Prop} (hQ : Q (some z) h locs) (hcs : cells ≤ R.cells ∧ slots ≤ R.slots := by decide) :
  own_Go p.tables e below (own_P s Q R) (T.setTop (mkF m pc Ls (z :: rest))) := own_end X eT (v := (some z)) (fun h => by rw [hrt] at h; cases h) hlk (fun fs hr => own_retA X hq.1 hrt ht hz (hb hq.2 hd) hr) (Q := Q) hQ hcs.1 hcs.2
end Sm
def Q_rmcB1 (Z : State) (a0 : Array Value) (a1 : Addr) (k1 : ClassId) (d1 : Value) (c0 : Int32) (h0 : Heap) (n0 : Nat) (v : Option Value) (h : Heap) (L : List Loc) : Prop := ∃ b : Addr, ∃ kb : ClassId, v = some (.ref b) ∧ Fr n0 L ∧ Keep h0 h [] ∧ n0 ≤ b ∧ h0.size ≤ b ∧ Arv Z h b kb .byte (1 : Int32) [(.int ((c0.toInt8.toInt32).toInt8.toInt32))] (.int (0 : Int32))
theorem rmcB1 (hw : HW a0 Z) (a1 : Addr) (k1 : ClassId) (d1 : Value) (c0 : Int32) (h0 : Heap) (n0 : Nat) (Z0 : n0 ≤ h0.size) (V1 : Arv Z h0 a1 k1 .char (1 : Int32) [(.int c0)] d1) (hc0 : ¬ (255 : Int32) < c0) :
  own_Met l y5_ jdk_52_method_16_code 6 (some (.array .byte)) (R_ 1 1 1 18) #[(.ref a1), (.int (0 : Int32)), (.int (1 : Int32))] Z h0 (Q_rmcB1 Z a0 a1 k1 d1 c0 h0 n0) := by
 refine own_bd (own := "java/lang/StringUTF16") rfl (plainFor_of_name pn_7) #[rv a1, iv 0, iv 1, .unset, .unset, .unset] ?_
 intro p e s m below meth c s₁ hx hby Hq hml hown hnm hlk hrt hZ X0 e0
 refine o_iloadN X0 Hq d6_0 rfl ?_
 obtain ⟨T_1, h_1, k_1, X_1, e_1, E_1, A_1, st_1⟩ := newP X0 hx hZ (w_ hw 26 rfl) e0 (g := (mkF m 1 #[rv a1, iv 0, iv 1, .unset, .unset, .unset] [(.int 1)])) rfl (hb hby d6_1) rfl (by decide) (cap := 1) (by decide) (by decide) (by decide) (by decide)
 obtain ⟨b_1, g_1⟩ : ∃ z, z = h0.size := ⟨_, rfl⟩
 rw [← g_1] at A_1 st_1
 have V_1 : Arv Z h_1 b_1 k_1 .byte (1 : Int32) [(.int (0 : Int32))] (.int (0 : Int32)) := (Arv.new A_1 (by decide)).pad (pad_rep [] (.int (0 : Int32)) 1)
 have gg_1 : n0 ≤ b_1 := Nat.le_trans Z0 (Nat.le_of_eq g_1.symm)
 have sz_1 : h0.size ≤ b_1 := Nat.le_trans (Keep.refl h0 []).1 (Nat.le_of_eq g_1.symm)
 refine own_st st_1 ?_
 show own_Go _ _ _ _ (T_1.setTop (mkF m 3 #[rv a1, iv 0, iv 1, .unset, .unset, .unset] [(.ref b_1)]))
 refine o_astoreN X_1 Hq d6_3 rfl (l' := #[rv a1, iv 0, iv 1, rv b_1, .unset, .unset]) rfl (o_aloadN X_1 Hq d6_4 rfl rfl (o_iloadN X_1 Hq d6_5 rfl (o_aloadN X_1 Hq d6_6 rfl rfl (o_iconst X_1 Hq 0 d6_7 rfl (o_iloadN X_1 Hq d6_8 rfl ?_)))))
 have Fa_3 := (V1.ext E_1)
 have Zs_4 : n0 ≤ h_1.size := (Nat.le_trans Z0 E_1.1)
 refine c_S5 X_1 Hq e_1 hZ hown hml (k6_115 hw) (rmcA1 hw a1 b_1 k1 d1 c0 k_1 h_1 n0 Zs_4 Fa_3 V_1 gg_1 (Nat.ne_of_lt (Nat.lt_of_lt_of_le V1.lt (Nat.le_of_eq g_1.symm))) hc0) d6_9 ?_ 0
 rintro T_2 L_2 _ X_2 ⟨⟨⟩, Nq_2, K_2, Fq_2_0⟩
 have N_2 := Fr.app (Fr.nil n0) Nq_2
 refine o_istore X_2 Hq d6_12 (l' := #[rv a1, iv 0, iv 1, rv b_1, iv 1, .unset]) rfl (o_iload X_2 Hq d6_14 rfl (o_iloadN X_2 Hq d6_16 rfl (o_icmpYes X_2 Hq (pc' := 57) d6_17 (by decide) (o_aloadN X_2 Hq d6_57 rfl rfl ?_))))
 have Kp_5 : Keep h0 T_2.heap [] := (((Keep.refl h0 []).ext E_1).trans K_2 (allS (Or.inr sz_1) all0))
 exact e_R X_2 rfl Hq hlk rfl rfl hrt d6_58 ⟨b_1, k_1, rfl, N_2, Kp_5, gg_1, sz_1, Fq_2_0⟩
abbrev D8 := decode jdk_52_method_15_code
theorem d8_0 : D8 0 = .ok (.iload_n 1, 1) := by decide +kernel
theorem d8_1 : D8 1 = .ok (.aload_n 0, 1) := by decide +kernel
theorem d8_2 : D8 2 = .ok (.arraylength, 1) := by decide +kernel
theorem d8_3 : D8 3 = .ok (.isub, 1) := by decide +kernel
theorem d8_4 : D8 4 = .ok (.bipush 31, 2) := by decide +kernel
theorem d8_6 : D8 6 = .ok (.iushr, 1) := by decide +kernel
theorem d8_7 : D8 7 = .ok (.i2b, 1) := by decide +kernel
theorem d8_8 : D8 8 = .ok (.ireturn, 1) := by decide +kernel
section Sm
variable {p : Program} {l : Launch} {e : Env} {R : Room} {s : State} {m : MethodId} {args : Array Value} {below : List Frame} {meth : Method} {c : Code} {T : State} {locs : List Loc} {cells slots : Nat} {P : Outcome → State → Prop} {pc : Nat} {Ls : Array Slot} {st : List Value}
theorem e_B (X : Stand p l e R s m args below meth c T locs cells slots) {h : Heap} (eT : T.heap = h) {cb : ByteArray} (hq : p.tables.exec = Jvm.exec ∧ c.code = cb) (hlk : meth.locks = false) {z : Int32} {rest : List Value} (hrt : meth.sig.returnType = some .byte) (hd : decode cb pc = .ok (.ireturn, 1)) {Q : Option Value → Heap → List Loc → Prop} (hQ : Q (some (.int (nar .byte z))) h locs) (hcs : cells ≤ R.cells ∧ slots ≤ R.slots := by decide) :
  own_Go p.tables e below (own_P s Q R) (T.setTop (mkF m pc Ls (.int z :: rest))) := own_end X eT (v := (some (.int (nar .byte z)))) (fun h => by rw [hrt] at h; cases h) hlk (fun fs hr => retN X hq.1 (z := z) (t := .byte) hrt (by simp) (hb hq.2 hd) hr) (Q := Q) hQ hcs.1 hcs.2
end Sm
def Q_rmcl1 (Z : State) (a0 : Array Value) (a1 : Addr) (k1 : ClassId) (vs : List Value) (d1 : Value) (h0 : Heap) (n0 : Nat) (v : Option Value) (h : Heap) (L : List Loc) : Prop := v = some (.int (0 : Int32)) ∧ Fr n0 L ∧ h = h0
theorem rmcl1 (hw : HW a0 Z) (a1 : Addr) (k1 : ClassId) (vs : List Value) (d1 : Value) (h0 : Heap) (n0 : Nat) (Z0 : n0 ≤ h0.size) (V1 : Arv Z h0 a1 k1 .byte (1 : Int32) vs d1) :
  own_Met l y6_ jdk_52_method_15_code 2 (some .byte) (R_ 0 0 0 0) #[(.ref a1), (.int (1 : Int32))] Z h0 (Q_rmcl1 Z a0 a1 k1 vs d1 h0 n0) := by
 refine own_bd (own := "java/lang/StringUTF16") rfl (plainFor_of_name pn_7) #[rv a1, iv 1] ?_
 intro p e s m below meth c s₁ hx hby Hq hml hown hnm hlk hrt hZ X0 e0
 refine o_iloadN X0 Hq d8_0 rfl (o_aloadN X0 Hq d8_1 rfl rfl ?_)
 obtain ⟨cl_1, Ar_1, qk_1, Sz_1, Ng_1, Hs_1, Gs_1⟩ := id V1
 refine own_st (X0.arraylength hx (by rw [e0]; exact Ar_1.1) (State.isArrayOf_alike hZ.alike Ar_1.2.1) (g := (mkF m 2 #[rv a1, iv 1] [(.ref a1), (.int 1)])) rfl rfl (hb hby d8_2)) ?_
 rw [len_of Sz_1 Ng_1]
 show own_Go _ _ _ _ (s₁.setTop (mkF m 3 #[rv a1, iv 1] [(.int 1), (.int 1)]))
 refine o_isub X0 Hq d8_3 ?_
 show own_Go _ _ _ _ (s₁.setTop (mkF m 4 #[rv a1, iv 1] [(.int 0)]))
 refine o_bipush X0 Hq 31 d8_4 rfl (o_iushr X0 Hq d8_6 ?_)
 show own_Go _ _ _ _ (s₁.setTop (mkF m 7 #[rv a1, iv 1] [(.int 0)]))
 refine o_i2b X0 Hq d8_7 ?_
 show own_Go _ _ _ _ (s₁.setTop (mkF m 8 #[rv a1, iv 1] [(.int 0)]))
 exact e_B X0 e0 Hq hlk hrt d8_8 ⟨rfl, (Fr.nil n0), rfl⟩
theorem pn_4 : plainName "java/lang/String" = true := by first | (simp [plainName, overriddenIn]; done) | decide +kernel
abbrev D4 := decode jdk_42_method_149_code
theorem d4_0 : D4 0 = .ok (.aload_n 0, 1) := by decide +kernel
theorem d4_1 : D4 1 = .ok (.invokespecial 1, 3) := by decide +kernel
theorem d4_4 : D4 4 = .ok (.iload_n 3, 1) := by decide +kernel
theorem d4_5 : D4 5 = .ok (.ifCond .ne 22, 3) := by decide +kernel
theorem d4_27 : D4 27 = .ok (.getstatic 38, 3) := by decide +kernel
theorem d4_30 : D4 30 = .ok (.ifCond .eq 28, 3) := by decide +kernel
theorem d4_33 : D4 33 = .ok (.aload_n 1, 1) := by decide +kernel
theorem d4_34 : D4 34 = .ok (.iload_n 2, 1) := by decide +kernel
theorem d4_35 : D4 35 = .ok (.iload_n 3, 1) := by decide +kernel
theorem d4_36 : D4 36 = .ok (.invokestatic 177, 3) := by decide +kernel
theorem pd_2 : parseMethodDescriptor "([CII)[B" = some ⟨[(.array .char), .int, .int], some (.array .byte)⟩ := by decide +kernel
section Sm
variable {p : Program} {l : Launch} {e : Env} {R : Room} {s : State} {m : MethodId} {args : Array Value} {below : List Frame} {meth : Method} {c : Code} {T : State} {locs : List Loc} {cells slots : Nat} {P : Outcome → State → Prop} {pc : Nat} {Ls : Array Slot} {st : List Value}
theorem c_S3 (X : Stand p l e R s m args below meth c T locs cells slots) {cb : ByteArray} (hq : p.tables.exec = Jvm.exec ∧ c.code = cb) {Z : State} {a0 : Array Value} {h : Heap} {own C : String} {index : Nat} {y z : MethodName} {bytes : ByteArray} {maxL ML : Nat} {ret : Option FieldType} {rm : Room} {Q : Option Value → Heap → List Loc → Prop} {v1 v2 v3 : Value}
  (eT : T.heap = h) (hZ : Z.Warmed39 s.vm) (hown : s.vm.findClass own = some m.cls) (hml : c.maxLocals = ML) (hK : own_KS a0 Z own C index y z bytes maxL ret 3) (hM : own_Met l y bytes maxL ret rm #[v1, v2, v3] Z h Q)
  (hd : decode cb pc = .ok (.invokestatic index, 3)) 
  (k : ∀ (T' : State) (L : List Loc) (w : Value), Stand p l e R s m args below meth c T' (locs ++ L) (cells + rm.cells) (slots + rm.slots) → Q (some w) T'.heap L → own_Go p.tables e below P (T'.setTop (mkF m (pc + 3) Ls (w :: st)))) (W : Nat) (hsz : Ls.size = ML := by rfl) (hW : (st.map fun v => v.category).sum = W := by rfl) (sd : rm.frames + 1 ≤ R.frames ∧ W + (maxL + 11) + rm.locals ≤ R.locals ∧ cells + rm.cells ≤ R.cells ∧ slots + rm.slots ≤ R.slots := by decide) (hv : ∀ v h L, Q v h L → ∃ w, v = some w := by intro v h L q; first | exact Exists.intro _ q.1 | (obtain ⟨_, q⟩ := q; exact Exists.intro _ q.1) | (obtain ⟨_, _, q⟩ := q; exact Exists.intro _ q.1) | (obtain ⟨_, _, _, q⟩ := q; exact Exists.intro _ q.1)) : own_Go p.tables e below P (T.setTop (mkF m pc Ls (v3 :: v2 :: v1 :: st))) := by
 obtain ⟨⟨w1, ⟨ps, r, hp, hlen⟩, hy⟩, w2, w3, w4⟩ := hK
 obtain ⟨v, vm1, ⟨T', L0, k0, n0⟩, -, X', ⟨L, hQ, e1, e2, e3⟩, hst⟩ := Jvm.LawKit.callS X hq.1 (y := y) hown (mvT hZ w1) (mvT hZ w2) (mvT hZ w3) (mvT hZ w4) hy (backOf (W := W) (Q := Q) hM hZ w4 w3 sd.1 sd.2.1) (g := mkF m pc Ls (v3 :: v2 :: v1 :: st)) rfl (by rw [hml]; exact hsz) (argsL := [v1, v2, v3]) (rest := st) (lenOf hp hlen) rfl (by show 2 * 0 + _ ≤ _; rw [Nat.mul_zero, Nat.zero_add]; exact Nat.le_of_eq hW) (hb hq.2 hd) (fun _ _ => ⟨rfl, eT, sd.2.2.1, sd.2.2.2⟩)
 dsimp only [Pt.U, Pt.locs, Pt.cells, Pt.slots] at X' e1 e2 e3 hst hQ
 subst e1 e2 e3
 obtain ⟨w, rfl⟩ := hv _ _ _ hQ
 exact own_st hst (k _ _ _ X' hQ)
end Sm
theorem k4_177 {a0 : Array Value} {Z : State} (hw : HW a0 Z) : own_KS a0 Z "java/lang/String" "" 177 y5_ y5_ jdk_52_method_16_code 6 (some (.array .byte)) 3 := ⟨⟨(w_ hw 22 rfl), ⟨_, _, pd_2, rfl⟩, by decide⟩, (w_ hw 23 rfl), (w_ hw 24 rfl), (w_ hw 25 rfl)⟩
theorem d4_39 : D4 39 = .ok (.astore 5, 2) := by decide +kernel
theorem d4_41 : D4 41 = .ok (.aload_n 0, 1) := by decide +kernel
theorem d4_42 : D4 42 = .ok (.aload 5, 2) := by decide +kernel
theorem d4_44 : D4 44 = .ok (.iload_n 3, 1) := by decide +kernel
theorem d4_45 : D4 45 = .ok (.invokestatic 47, 3) := by decide +kernel
theorem pd_3 : parseMethodDescriptor "([BI)B" = some ⟨[(.array .byte), .int], some .byte⟩ := by decide +kernel
section Sm
variable {p : Program} {l : Launch} {e : Env} {R : Room} {s : State} {m : MethodId} {args : Array Value} {below : List Frame} {meth : Method} {c : Code} {T : State} {locs : List Loc} {cells slots : Nat} {P : Outcome → State → Prop} {pc : Nat} {Ls : Array Slot} {st : List Value}
theorem c_S2 (X : Stand p l e R s m args below meth c T locs cells slots) {cb : ByteArray} (hq : p.tables.exec = Jvm.exec ∧ c.code = cb) {Z : State} {a0 : Array Value} {h : Heap} {own C : String} {index : Nat} {y z : MethodName} {bytes : ByteArray} {maxL ML : Nat} {ret : Option FieldType} {rm : Room} {Q : Option Value → Heap → List Loc → Prop} {v1 v2 : Value}
  (eT : T.heap = h) (hZ : Z.Warmed39 s.vm) (hown : s.vm.findClass own = some m.cls) (hml : c.maxLocals = ML) (hK : own_KS a0 Z own C index y z bytes maxL ret 2) (hM : own_Met l y bytes maxL ret rm #[v1, v2] Z h Q)
  (hd : decode cb pc = .ok (.invokestatic index, 3)) 
  (k : ∀ (T' : State) (L : List Loc) (w : Value), Stand p l e R s m args below meth c T' (locs ++ L) (cells + rm.cells) (slots + rm.slots) → Q (some w) T'.heap L → own_Go p.tables e below P (T'.setTop (mkF m (pc + 3) Ls (w :: st)))) (W : Nat) (hsz : Ls.size = ML := by rfl) (hW : (st.map fun v => v.category).sum = W := by rfl) (sd : rm.frames + 1 ≤ R.frames ∧ W + (maxL + 11) + rm.locals ≤ R.locals ∧ cells + rm.cells ≤ R.cells ∧ slots + rm.slots ≤ R.slots := by decide) (hv : ∀ v h L, Q v h L → ∃ w, v = some w := by intro v h L q; first | exact Exists.intro _ q.1 | (obtain ⟨_, q⟩ := q; exact Exists.intro _ q.1) | (obtain ⟨_, _, q⟩ := q; exact Exists.intro _ q.1) | (obtain ⟨_, _, _, q⟩ := q; exact Exists.intro _ q.1)) : own_Go p.tables e below P (T.setTop (mkF m pc Ls (v2 :: v1 :: st))) := by
 obtain ⟨⟨w1, ⟨ps, r, hp, hlen⟩, hy⟩, w2, w3, w4⟩ := hK
 obtain ⟨v, vm1, ⟨T', L0, k0, n0⟩, -, X', ⟨L, hQ, e1, e2, e3⟩, hst⟩ := Jvm.LawKit.callS X hq.1 (y := y) hown (mvT hZ w1) (mvT hZ w2) (mvT hZ w3) (mvT hZ w4) hy (backOf (W := W) (Q := Q) hM hZ w4 w3 sd.1 sd.2.1) (g := mkF m pc Ls (v2 :: v1 :: st)) rfl (by rw [hml]; exact hsz) (argsL := [v1, v2]) (rest := st) (lenOf hp hlen) rfl (by show 2 * 0 + _ ≤ _; rw [Nat.mul_zero, Nat.zero_add]; exact Nat.le_of_eq hW) (hb hq.2 hd) (fun _ _ => ⟨rfl, eT, sd.2.2.1, sd.2.2.2⟩)
 dsimp only [Pt.U, Pt.locs, Pt.cells, Pt.slots] at X' e1 e2 e3 hst hQ
 subst e1 e2 e3
 obtain ⟨w, rfl⟩ := hv _ _ _ hQ
 exact own_st hst (k _ _ _ X' hQ)
end Sm
theorem k4_47 {a0 : Array Value} {Z : State} (hw : HW a0 Z) : own_KS a0 Z "java/lang/String" "" 47 y6_ y6_ jdk_52_method_15_code 2 (some .byte) 2 := ⟨⟨(w_ hw 30 rfl), ⟨_, _, pd_3, rfl⟩, by decide⟩, (w_ hw 31 rfl), (w_ hw 24 rfl), (w_ hw 32 rfl)⟩
theorem d4_48 : D4 48 = .ok (.putfield 15, 3) := by decide +kernel
theorem d4_51 : D4 51 = .ok (.aload_n 0, 1) := by decide +kernel
theorem d4_52 : D4 52 = .ok (.aload 5, 2) := by decide +kernel
theorem d4_54 : D4 54 = .ok (.putfield 9, 3) := by decide +kernel
theorem d4_57 : D4 57 = .ok (.return_, 1) := by decide +kernel
section Sm
variable {p : Program} {l : Launch} {e : Env} {R : Room} {s : State} {m : MethodId} {args : Array Value} {below : List Frame} {meth : Method} {c : Code} {T : State} {locs : List Loc} {cells slots : Nat} {P : Outcome → State → Prop} {pc : Nat} {Ls : Array Slot} {st : List Value}
theorem e_V (X : Stand p l e R s m args below meth c T locs cells slots) {h : Heap} (eT : T.heap = h) {cb : ByteArray} (hq : p.tables.exec = Jvm.exec ∧ c.code = cb) (hlk : meth.locks = false) (hrt : meth.sig.returnType = none) (hd : decode cb pc = .ok (.return_, 1)) {Q : Option Value → Heap → List Loc → Prop} (hQ : Q none h locs) (hcs : cells ≤ R.cells ∧ slots ≤ R.slots := by decide) :
  own_Go p.tables e below (own_P s Q R) (T.setTop (mkF m pc Ls [])) := own_end X eT (v := none) (fun _ => rfl) hlk (fun fs hr => X.returnOut hq.1 hrt (hb hq.2 hd) hr) (Q := Q) hQ hcs.1 hcs.2
end Sm
def Q_rmiB1 (Z : State) (a0 : Array Value) (a1 a2 : Addr) (k1 : ClassId) (d1 : Value) (w c0 : Int32) (h0 : Heap) (n0 : Nat) (v : Option Value) (h : Heap) (L : List Loc) : Prop := ∃ b : Addr, ∃ kb : ClassId, v = none ∧ Fr n0 L ∧ Keep h0 h [a1] ∧ n0 ≤ b ∧ h0.size ≤ b ∧ Fld Z h a1 "java/lang/String" "value" "[B" (.ref b) ∧ Fld Z h a1 "java/lang/String" "coder" "B" (.int (0 : Int32)) ∧ Arv Z h b kb .byte (1 : Int32) [(.int ((c0.toInt8.toInt32).toInt8.toInt32))] (.int (0 : Int32))
theorem rmiB1 (hw : HW a0 Z) (a1 a2 : Addr) (k1 : ClassId) (d1 : Value) (w c0 : Int32) (h0 : Heap) (n0 : Nat) (Z0 : n0 ≤ h0.size) (E1 : Exa Z h0 a1 "java/lang/String") (g1 : n0 ≤ a1) (F1 : Fld Z h0 a1 "java/lang/String" "value" "[B" .null) (F2 : Fld Z h0 a1 "java/lang/String" "coder" "B" (.int (0 : Int32))) (V1 : Arv Z h0 a2 k1 .char (1 : Int32) [(.int c0)] d1) (hc0 : ¬ (255 : Int32) < c0) (S1 : Sta Z h0 "java/lang/String" "COMPACT_STRINGS" "Z" (.int w)) (hw0 : ¬ w = (0 : Int32)) :
  own_Met l y2_ jdk_42_method_149_code 6 none (R_ 2 1 1 35) #[(.ref a1), (.ref a2), (.int (0 : Int32)), (.int (1 : Int32)), .null] Z h0 (Q_rmiB1 Z a0 a1 a2 k1 d1 w c0 h0 n0) := by
 refine own_bd (own := "java/lang/String") rfl (plainFor_of_name pn_4) #[rv a1, rv a2, iv 0, iv 1, .val .null, .unset] ?_
 intro p e s m below meth c s₁ hx hby Hq hml hown hnm hlk hrt hZ X0 e0
 refine o_aloadN X0 Hq d4_0 rfl rfl ?_
 obtain ⟨T_1, X_1, e_1, st_1⟩ := initO X0 hx hZ hown (w_ hw 18 rfl) (w_ hw 19 rfl) (w_ hw 20 rfl) e0 (g := (mkF m 1 #[rv a1, rv a2, iv 0, iv 1, .val .null, .unset] [(.ref a1)])) rfl (by rw [hml]; rfl) rfl (hb hby d4_1) (by decide) (W := 0) (z_ rfl) (by decide)
 refine own_st st_1 ?_
 show own_Go _ _ _ _ (T_1.setTop (mkF m 4 #[rv a1, rv a2, iv 0, iv 1, .val .null, .unset] []))
 refine o_iloadN X_1 Hq d4_4 rfl (o_ifYes X_1 Hq (pc' := 27) d4_5 (by decide) ?_)
 obtain ⟨T_2, X_2, e_2, st_2⟩ := getS2 X_1 hx hZ hown (host := "") (Or.inl (w_ hw 21 rfl)) Via.refl e_1 S1 (g := (mkF m 27 #[rv a1, rv a2, iv 0, iv 1, .val .null, .unset] [])) rfl (hb hby d4_27)
 refine own_st st_2 ?_
 show own_Go _ _ _ _ (T_2.setTop (mkF m 30 #[rv a1, rv a2, iv 0, iv 1, .val .null, .unset] [(.int w)]))
 refine o_ifNo X_2 Hq d4_30 (feq hw0).1 (o_aloadN X_2 Hq d4_33 rfl rfl (o_iloadN X_2 Hq d4_34 rfl (o_iloadN X_2 Hq d4_35 rfl ?_)))
 refine c_S3 X_2 Hq e_2 hZ hown hml (k4_177 hw) (rmcB1 hw a2 k1 d1 c0 h0 n0 Z0 V1 hc0) d4_36 ?_ 0
 rintro T_3 L_3 _ X_3 ⟨b__3, kb__3, ⟨⟩, Nq_3, K_3, gq_3_b, sq_3_b, Fq_3_0⟩
 have N_3 := Fr.app (Fr.nil n0) Nq_3
 have szq_3_b : h0.size ≤ b__3 := Nat.le_trans (Keep.refl h0 [a1]).1 sq_3_b
 refine o_astore X_3 Hq d4_39 rfl (l' := #[rv a1, rv a2, iv 0, iv 1, .val .null, rv b__3]) rfl (o_aloadN X_3 Hq d4_41 rfl rfl (o_aload X_3 Hq d4_42 rfl rfl (o_iloadN X_3 Hq d4_44 rfl ?_)))
 have Zs_5 : n0 ≤ T_3.heap.size := (Nat.le_trans Z0 K_3.1)
 refine c_S2 X_3 Hq rfl hZ hown hml (k4_47 hw) (rmcl1 hw b__3 kb__3 [(.int ((c0.toInt8.toInt32).toInt8.toInt32))] (.int (0 : Int32)) T_3.heap n0 Zs_5 Fq_3_0) d4_45 ?_ 1
 rintro T_4 L_4 _ X_4 ⟨⟨⟩, Nq_4, e_4⟩
 have N_4 := Fr.app N_3 Nq_4
 have Fa_6 := (F2.keep K_3 nin0)
 have Fa_7 := (E1.keep K_3)
 obtain ⟨T_8, h_8, X_8, e_8, W_8, st_8⟩ := putFN X_4 hx hZ hown (w_ hw 33 rfl) Via.refl e_4 Fa_6 Fa_7 (Or.inr ⟨(w_ hw 34 rfl), rfl, hnm⟩) (w_ hw 9 rfl) (ty := .byte) (v' := (.int (0 : Int32))) (by decide) rfl (by decide) (g := (mkF m 48 #[rv a1, rv a2, iv 0, iv 1, .val .null, rv b__3] [(.int 0), (.ref a1)])) rfl rfl (hb hby d4_48)
 refine own_st st_8 ?_
 have N_8 := Fr.snoc X_8 N_4 g1
 show own_Go _ _ _ _ (T_8.setTop (mkF m 51 #[rv a1, rv a2, iv 0, iv 1, .val .null, rv b__3] []))
 refine o_aloadN X_8 Hq d4_51 rfl rfl (o_aload X_8 Hq d4_52 rfl rfl ?_)
 have Fa_9 := ((F1.keep K_3 nin0).other W_8 (Or.inr (slot_ne (Or.inr (w_ hw 36 rfl)) (Or.inr (w_ hw 34 rfl)) (by decide) (t := (.array .byte)) (t' := .byte) (by decide) (by decide))))
 have Fa_10 := (Fa_7.wr W_8)
 obtain ⟨T_11, h_11, X_11, e_11, W_11, st_11⟩ := putF X_8 hx hZ hown (host := "") (Or.inl (w_ hw 35 rfl)) Via.refl e_8 Fa_9 Fa_10 (Or.inr ⟨(w_ hw 36 rfl), rfl, hnm⟩) (w_ hw 9 rfl) (ty := (.array .byte)) (by decide) rfl rfl (g := (mkF m 54 #[rv a1, rv a2, iv 0, iv 1, .val .null, rv b__3] [(.ref b__3), (.ref a1)])) rfl rfl (hb hby d4_54)
 refine own_st st_11 ?_
 have N_11 := Fr.snoc X_11 N_8 g1
 show own_Go _ _ _ _ (T_11.setTop (mkF m 57 #[rv a1, rv a2, iv 0, iv 1, .val .null, rv b__3] []))
 have Kp_12 : Keep h0 h_11 [a1] := ((((Keep.refl h0 [a1]).trans K_3 all0).wr W_8 (Or.inl (List.mem_of_getElem? (i := 0) rfl))).wr W_11 (Or.inl (List.mem_of_getElem? (i := 0) rfl)))
 have Fa_13 := (Fa_9.same W_11)
 have Fa_14 := ((Fa_6.same W_8).other W_11 (Or.inr (slot_ne (Or.inr (w_ hw 34 rfl)) (Or.inr (w_ hw 36 rfl)) (by decide) (t := .byte) (t' := (.array .byte)) (by decide) (by decide))))
 have Fa_15 := ((Fq_3_0.other W_8 (Ne.symm (Nat.ne_of_lt (Nat.lt_of_lt_of_le F2.lt sq_3_b)))).other W_11 (Ne.symm (Nat.ne_of_lt (Nat.lt_of_lt_of_le F2.lt sq_3_b))))
 exact e_V X_11 e_11 Hq hlk hrt d4_57 ⟨b__3, kb__3, rfl, N_11, Kp_12, gq_3_b, szq_3_b, Fa_13, Fa_14, Fa_15⟩
abbrev D3 := decode jdk_42_method_3_code
theorem d3_0 : D3 0 = .ok (.aload_n 0, 1) := by decide +kernel
theorem d3_1 : D3 1 = .ok (.aload_n 1, 1) := by decide +kernel
theorem d3_2 : D3 2 = .ok (.iconst 0, 1) := by decide +kernel
theorem d3_3 : D3 3 = .ok (.aload_n 1, 1) := by decide +kernel
theorem d3_4 : D3 4 = .ok (.arraylength, 1) := by decide +kernel
theorem d3_5 : D3 5 = .ok (.aconst_null, 1) := by decide +kernel
theorem d3_6 : D3 6 = .ok (.invokespecial 27, 3) := by decide +kernel
theorem pd_4 : parseMethodDescriptor "([CIILjava/lang/Void;)V" = some ⟨[(.array .char), .int, .int, (.object "java/lang/Void")], none⟩ := by decide +kernel
def own_KI (a0 : Array Value) (Z : State) (own C : String) (index : Nat) (y z : MethodName) (bytes : ByteArray) (maxL : Nat) (ret : Option FieldType) (k : Nat) : Prop := ((Jvm.Cond.methodLink own index y).before a0 Z = true ∧ (∃ ps r, parseMethodDescriptor y.desc = some ⟨ps, r⟩ ∧ k = ps.length) ∧ (y.cls ≠ "java/lang/invoke/MethodHandle" ∧ y.cls ≠ "java/lang/invoke/VarHandle")) ∧ y.name = "<init>" ∧ (Jvm.Cond.instanceMethod y).before a0 Z = true ∧ (Jvm.Cond.initialized y.cls).before a0 Z = true ∧ (Jvm.Cond.code y bytes maxL none).before a0 Z = true
section Sm
variable {p : Program} {l : Launch} {e : Env} {R : Room} {s : State} {m : MethodId} {args : Array Value} {below : List Frame} {meth : Method} {c : Code} {T : State} {locs : List Loc} {cells slots : Nat} {P : Outcome → State → Prop} {pc : Nat} {Ls : Array Slot} {st : List Value}
theorem c_I4v (X : Stand p l e R s m args below meth c T locs cells slots) {cb : ByteArray} (hq : p.tables.exec = Jvm.exec ∧ c.code = cb) {Z : State} {a0 : Array Value} {h : Heap} {own C : String} {index : Nat} {y z : MethodName} {bytes : ByteArray} {maxL ML : Nat} {ret : Option FieldType} {rm : Room} {Q : Option Value → Heap → List Loc → Prop} {a : Addr} {v1 v2 v3 v4 : Value}
  (eT : T.heap = h) (hZ : Z.Warmed39 s.vm) (hown : s.vm.findClass own = some m.cls) (hml : c.maxLocals = ML) (hK : own_KI a0 Z own C index y z bytes maxL ret 4) (hM : own_Met l y bytes maxL none rm #[(.ref a), v1, v2, v3, v4] Z h Q)
  (hd : decode cb pc = .ok (.invokespecial index, 3)) 
  (k : ∀ (T' : State) (L : List Loc), Stand p l e R s m args below meth c T' (locs ++ L) (cells + rm.cells) (slots + rm.slots) → Q none T'.heap L → own_Go p.tables e below P (T'.setTop (mkF m (pc + 3) Ls st))) (W : Nat) (hsz : Ls.size = ML := by rfl) (hW : (st.map fun v => v.category).sum = W := by rfl) (sd : rm.frames + 1 ≤ R.frames ∧ W + (maxL + 11) + rm.locals ≤ R.locals ∧ cells + rm.cells ≤ R.cells ∧ slots + rm.slots ≤ R.slots := by decide) (hv : ∀ v h L, Q v h L → v = none := by intro v h L q; first | exact id q.1 | (obtain ⟨_, q⟩ := q; exact id q.1) | (obtain ⟨_, _, q⟩ := q; exact id q.1) | (obtain ⟨_, _, _, q⟩ := q; exact id q.1)) : own_Go p.tables e below P (T.setTop (mkF m pc Ls (v4 :: v3 :: v2 :: v1 :: (.ref a) :: st))) := by
 obtain ⟨⟨w1, ⟨ps, r, hp, hlen⟩, hy⟩, hn, w2, w3, w4⟩ := hK
 obtain ⟨v, vm1, ⟨T', L0, k0, n0⟩, -, X', ⟨L, hQ, e1, e2, e3⟩, hst⟩ := X.specialBack hq.1 (y := y) hn hown (mvT hZ w1) (mvT hZ w2) (mvT hZ w4) hy (backOf (W := W) (Q := Q) hM hZ w4 w3 sd.1 sd.2.1) (g := mkF m pc Ls (v4 :: v3 :: v2 :: v1 :: (.ref a) :: st)) rfl (by rw [hml]; exact hsz) (Steps.refl _) (a := a) (argsL := [v1, v2, v3, v4]) (rest := st) (lenOf hp hlen) rfl (by show 2 * 0 + _ ≤ _; rw [Nat.mul_zero, Nat.zero_add]; exact Nat.le_of_eq hW) (hb hq.2 hd) (fun _ _ => ⟨rfl, eT, sd.2.2.1, sd.2.2.2⟩)
 dsimp only [Pt.U, Pt.locs, Pt.cells, Pt.slots] at X' e1 e2 e3 hst hQ
 subst e1 e2 e3
 obtain rfl := hv _ _ _ hQ
 exact own_tr hst (k _ _ X' hQ)
end Sm
theorem k3_27 {a0 : Array Value} {Z : State} (hw : HW a0 Z) : own_KI a0 Z "java/lang/String" "" 27 y2_ y2_ jdk_42_method_149_code 6 none 4 := ⟨⟨(w_ hw 14 rfl), ⟨_, _, pd_4, rfl⟩, by decide⟩, rfl, (w_ hw 15 rfl), (w_ hw 10 rfl), (w_ hw 17 rfl)⟩
theorem d3_9 : D3 9 = .ok (.return_, 1) := by decide +kernel
def Q_rmiA1 (Z : State) (a0 : Array Value) (a1 a2 : Addr) (k1 : ClassId) (d1 : Value) (w c0 : Int32) (h0 : Heap) (n0 : Nat) (v : Option Value) (h : Heap) (L : List Loc) : Prop := ∃ b : Addr, ∃ kb : ClassId, v = none ∧ Fr n0 L ∧ Keep h0 h [a1] ∧ n0 ≤ b ∧ h0.size ≤ b ∧ Fld Z h a1 "java/lang/String" "value" "[B" (.ref b) ∧ Fld Z h a1 "java/lang/String" "coder" "B" (.int (0 : Int32)) ∧ Arv Z h b kb .byte (1 : Int32) [(.int ((c0.toInt8.toInt32).toInt8.toInt32))] (.int (0 : Int32))
theorem rmiA1 (hw : HW a0 Z) (a1 a2 : Addr) (k1 : ClassId) (d1 : Value) (w c0 : Int32) (h0 : Heap) (n0 : Nat) (Z0 : n0 ≤ h0.size) (E1 : Exa Z h0 a1 "java/lang/String") (g1 : n0 ≤ a1) (F1 : Fld Z h0 a1 "java/lang/String" "value" "[B" .null) (F2 : Fld Z h0 a1 "java/lang/String" "coder" "B" (.int (0 : Int32))) (V1 : Arv Z h0 a2 k1 .char (1 : Int32) [(.int c0)] d1) (hc0 : ¬ (255 : Int32) < c0) (S1 : Sta Z h0 "java/lang/String" "COMPACT_STRINGS" "Z" (.int w)) (hw0 : ¬ w = (0 : Int32)) :
  own_Met l y3_ jdk_42_method_3_code 2 none (R_ 3 1 1 52) #[(.ref a1), (.ref a2)] Z h0 (Q_rmiA1 Z a0 a1 a2 k1 d1 w c0 h0 n0) := by
 refine own_bd (own := "java/lang/String") rfl (plainFor_of_name pn_4) #[rv a1, rv a2] ?_
 intro p e s m below meth c s₁ hx hby Hq hml hown hnm hlk hrt hZ X0 e0
 refine o_aloadN X0 Hq d3_0 rfl rfl (o_aloadN X0 Hq d3_1 rfl rfl (o_iconst X0 Hq 0 d3_2 rfl (o_aloadN X0 Hq d3_3 rfl rfl ?_)))
 obtain ⟨cl_1, Ar_1, qk_1, Sz_1, Ng_1, Hs_1, Gs_1⟩ := id V1
 refine own_st (X0.arraylength hx (by rw [e0]; exact Ar_1.1) (State.isArrayOf_alike hZ.alike Ar_1.2.1) (g := (mkF m 4 #[rv a1, rv a2] [(.ref a2), (.int 0), (.ref a2), (.ref a1)])) rfl rfl (hb hby d3_4)) ?_
 rw [len_of Sz_1 Ng_1]
 show own_Go _ _ _ _ (s₁.setTop (mkF m 5 #[rv a1, rv a2] [(.int 1), (.int 0), (.ref a2), (.ref a1)]))
 refine o_aconstNull X0 Hq d3_5 ?_
 refine c_I4v X0 Hq e0 hZ hown hml (k3_27 hw) (rmiB1 hw a1 a2 k1 d1 w c0 h0 n0 Z0 E1 g1 F1 F2 V1 hc0 S1 hw0) d3_6 ?_ 0
 rintro T_2 L_2 X_2 ⟨b__2, kb__2, -, Nq_2, K_2, gq_2_b, sq_2_b, Fq_2_0, Fq_2_1, Fq_2_2⟩
 have N_2 := Fr.app (Fr.nil n0) Nq_2
 have szq_2_b : h0.size ≤ b__2 := Nat.le_trans (Keep.refl h0 [a1]).1 sq_2_b
 have Kp_3 : Keep h0 T_2.heap [a1] := ((Keep.refl h0 [a1]).trans K_2 (allS (Or.inl (List.mem_of_getElem? (i := 0) rfl)) all0))
 exact e_V X_2 rfl Hq hlk hrt d3_9 ⟨b__2, kb__2, rfl, N_2, Kp_3, gq_2_b, szq_2_b, Fq_2_0, Fq_2_1, Fq_2_2⟩
def Q_rmcA2 (Z : State) (a0 : Array Value) (a1 a2 : Addr) (k1 : ClassId) (d1 : Value) (c0 c1 : Int32) (k2 : ClassId) (h0 : Heap) (n0 : Nat) (v : Option Value) (h : Heap) (L : List Loc) : Prop := v = some (.int (2 : Int32)) ∧ Fr n0 L ∧ Keep h0 h [a2] ∧ Arv Z h a2 k2 .byte (2 : Int32) [(.int ((c0.toInt8.toInt32).toInt8.toInt32)), (.int ((c1.toInt8.toInt32).toInt8.toInt32))] (.int (0 : Int32))
theorem rmcA2 (hw : HW a0 Z) (a1 a2 : Addr) (k1 : ClassId) (d1 : Value) (c0 c1 : Int32) (k2 : ClassId) (h0 : Heap) (n0 : Nat) (Z0 : n0 ≤ h0.size) (V1 : Arv Z h0 a1 k1 .char (2 : Int32) [(.int c0), (.int c1)] d1) (V2 : Arv Z h0 a2 k2 .byte (2 : Int32) [(.int (0 : Int32)), (.int (0 : Int32))] (.int (0 : Int32))) (g2 : n0 ≤ a2) (n12 : a1 ≠ a2) (hc0 : ¬ (255 : Int32) < c0) (hc1 : ¬ (255 : Int32) < c1) :
  own_Met l y4_ jdk_52_method_21_code 7 (some .int) (R_ 0 0 0 0) #[(.ref a1), (.int (0 : Int32)), (.ref a2), (.int (0 : Int32)), (.int (2 : Int32))] Z h0 (Q_rmcA2 Z a0 a1 a2 k1 d1 c0 c1 k2 h0 n0) := by
 refine own_bd (own := "java/lang/StringUTF16") rfl (plainFor_of_name pn_7) #[rv a1, iv 0, rv a2, iv 0, iv 2, .unset, .unset] ?_
 intro p e s m below meth c s₁ hx hby Hq hml hown hnm hlk hrt hZ X0 e0
 refine o_iconst X0 Hq 0 d7_0 rfl (o_istore X0 Hq d7_1 (l' := #[rv a1, iv 0, rv a2, iv 0, iv 2, iv 0, .unset]) rfl (o_iload X0 Hq d7_3 rfl (o_iload X0 Hq d7_5 rfl (o_icmpNo X0 Hq d7_7 (by decide) (o_aloadN X0 Hq d7_10 rfl rfl (o_iloadN X0 Hq d7_11 rfl ?_))))))
 obtain ⟨cl_1, Ar_1, qk_1, Sz_1, Ng_1, Hs_1, Gs_1⟩ := id V1
 refine own_st (X0.caload hx (j := (0 : Int32)) (v := (.int c0)) (by rw [e0]; exact Ar_1.1) (State.isArrayOf_alike hZ.alike Ar_1.2.1) Ar_1.2.2 (inb_of Sz_1 ⟨by decide, by decide⟩) (Hs_1.at (j := (0 : Int32)) (inb_of Sz_1 ⟨by decide, by decide⟩) rfl) (g := (mkF m 12 #[rv a1, iv 0, rv a2, iv 0, iv 2, iv 0, .unset] [(.int 0), (.ref a1)])) rfl rfl (hb hby d7_12)) ?_
 show own_Go _ _ _ _ (s₁.setTop (mkF m 13 #[rv a1, iv 0, rv a2, iv 0, iv 2, iv 0, .unset] [(.int c0)]))
 refine o_istore X0 Hq d7_13 (l' := #[rv a1, iv 0, rv a2, iv 0, iv 2, iv 0, iv c0]) rfl (o_iload X0 Hq d7_15 rfl (o_sipush X0 Hq 255 d7_17 rfl (o_icmpYes X0 Hq (pc' := 26) d7_20 (flt hc0).2.2.2 (o_aloadN X0 Hq d7_26 rfl rfl (o_iloadN X0 Hq d7_27 rfl (o_iload X0 Hq d7_28 rfl (o_i2b X0 Hq d7_30 ?_)))))))
 obtain ⟨cl_2, Ar_2, qk_2, Sz_2, Ng_2, Hs_2, Gs_2⟩ := id V2
 obtain ⟨T_3, h_3, X_3, e_3, W_3, st_3⟩ := stB X0 hx hZ e0 Ar_2 (j := (0 : Int32)) (inb_of Sz_2 ⟨by decide, by decide⟩) (g := (mkF m 31 #[rv a1, iv 0, rv a2, iv 0, iv 2, iv 0, iv c0] [(.int (c0.toInt8.toInt32)), (.int 0), (.ref a2)])) rfl rfl (hb hby d7_31)
 refine own_st st_3 ?_
 have V_3 : Arv Z h_3 a2 k2 .byte (2 : Int32) [(.int ((c0.toInt8.toInt32).toInt8.toInt32)), (.int (0 : Int32))] (.int (0 : Int32)) := Arv.set Ar_2 qk_2 Sz_2 Ng_2 Hs_2 Gs_2 (fits_nar_byte _) W_3 0 rfl (Nat.le_of_ble_eq_true rfl)
 have N_3 := Fr.snoc X_3 (Fr.nil n0) g2
 show own_Go _ _ _ _ (T_3.setTop (mkF m 32 #[rv a1, iv 0, rv a2, iv 0, iv 2, iv 0, iv c0] []))
 refine o_iinc X_3 Hq d7_32 rfl (l' := #[rv a1, iv 1, rv a2, iv 0, iv 2, iv 0, iv c0]) rfl (o_iinc X_3 Hq d7_35 rfl (l' := #[rv a1, iv 1, rv a2, iv 1, iv 2, iv 0, iv c0]) rfl (o_iinc X_3 Hq d7_38 rfl (l' := #[rv a1, iv 1, rv a2, iv 1, iv 2, iv 1, iv c0]) rfl (o_goto X_3 Hq (pc' := 3) d7_41 (o_iload X_3 Hq d7_3 rfl (o_iload X_3 Hq d7_5 rfl (o_icmpNo X_3 Hq d7_7 (by decide) (o_aloadN X_3 Hq d7_10 rfl rfl (o_iloadN X_3 Hq d7_11 rfl ?_))))))))
 have Fa_4 := (V1.other W_3 n12)
 obtain ⟨cl_5, Ar_5, qk_5, Sz_5, Ng_5, Hs_5, Gs_5⟩ := id Fa_4
 refine own_st (X_3.caload hx (j := (1 : Int32)) (v := (.int c1)) (by rw [e_3]; exact Ar_5.1) (State.isArrayOf_alike hZ.alike Ar_5.2.1) Ar_5.2.2 (inb_of Sz_5 ⟨by decide, by decide⟩) (Hs_5.at (j := (1 : Int32)) (inb_of Sz_5 ⟨by decide, by decide⟩) rfl) (g := (mkF m 12 #[rv a1, iv 1, rv a2, iv 1, iv 2, iv 1, iv c0] [(.int 1), (.ref a1)])) rfl rfl (hb hby d7_12)) ?_
 show own_Go _ _ _ _ (T_3.setTop (mkF m 13 #[rv a1, iv 1, rv a2, iv 1, iv 2, iv 1, iv c0] [(.int c1)]))
 refine o_istore X_3 Hq d7_13 (l' := #[rv a1, iv 1, rv a2, iv 1, iv 2, iv 1, iv c1]) rfl (o_iload X_3 Hq d7_15 rfl (o_sipush X_3 Hq 255 d7_17 rfl (o_icmpYes X_3 Hq (pc' := 26) d7_20 (flt hc1).2.2.2 (o_aloadN X_3 Hq d7_26 rfl rfl (o_iloadN X_3 Hq d7_27 rfl (o_iload X_3 Hq d7_28 rfl (o_i2b X_3 Hq d7_30 ?_)))))))
 obtain ⟨cl_6, Ar_6, qk_6, Sz_6, Ng_6, Hs_6, Gs_6⟩ := id V_3
 obtain ⟨T_7, h_7, X_7, e_7, W_7, st_7⟩ := stB X_3 hx hZ e_3 Ar_6 (j := (1 : Int32)) (inb_of Sz_6 ⟨by decide, by decide⟩) (g := (mkF m 31 #[rv a1, iv 1, rv a2, iv 1, iv 2, iv 1, iv c1] [(.int (c1.toInt8.toInt32)), (.int 1), (.ref a2)])) rfl rfl (hb hby d7_31)
 refine own_st st_7 ?_
 have V_7 : Arv Z h_7 a2 k2 .byte (2 : Int32) [(.int ((c0.toInt8.toInt32).toInt8.toInt32)), (.int ((c1.toInt8.toInt32).toInt8.toInt32))] (.int (0 : Int32)) := Arv.set Ar_6 qk_6 Sz_6 Ng_6 Hs_6 Gs_6 (fits_nar_byte _) W_7 1 rfl (Nat.le_of_ble_eq_true rfl)
 have N_7 := Fr.snoc X_7 N_3 g2
 show own_Go _ _ _ _ (T_7.setTop (mkF m 32 #[rv a1, iv 1, rv a2, iv 1, iv 2, iv 1, iv c1] []))
 refine o_iinc X_7 Hq d7_32 rfl (l' := #[rv a1, iv 2, rv a2, iv 1, iv 2, iv 1, iv c1]) rfl (o_iinc X_7 Hq d7_35 rfl (l' := #[rv a1, iv 2, rv a2, iv 2, iv 2, iv 1, iv c1]) rfl (o_iinc X_7 Hq d7_38 rfl (l' := #[rv a1, iv 2, rv a2, iv 2, iv 2, iv 2, iv c1]) rfl (o_goto X_7 Hq (pc' := 3) d7_41 (o_iload X_7 Hq d7_3 rfl (o_iload X_7 Hq d7_5 rfl (o_icmpYes X_7 Hq (pc' := 44) d7_7 (by decide) (o_iload X_7 Hq d7_44 rfl ?_)))))))
 have Kp_8 : Keep h0 h_7 [a2] := (((Keep.refl h0 [a2]).wr W_3 (Or.inl (List.mem_of_getElem? (i := 0) rfl))).wr W_7 (Or.inl (List.mem_of_getElem? (i := 0) rfl)))
 exact e_I X_7 e_7 Hq hlk hrt d7_46 ⟨rfl, N_7, Kp_8, V_7⟩
def Q_rmcB2 (Z : State) (a0 : Array Value) (a1 : Addr) (k1 : ClassId) (d1 : Value) (c0 c1 : Int32) (h0 : Heap) (n0 : Nat) (v : Option Value) (h : Heap) (L : List Loc) : Prop := ∃ b : Addr, ∃ kb : ClassId, v = some (.ref b) ∧ Fr n0 L ∧ Keep h0 h [] ∧ n0 ≤ b ∧ h0.size ≤ b ∧ Arv Z h b kb .byte (2 : Int32) [(.int ((c0.toInt8.toInt32).toInt8.toInt32)), (.int ((c1.toInt8.toInt32).toInt8.toInt32))] (.int (0 : Int32))
theorem rmcB2 (hw : HW a0 Z) (a1 : Addr) (k1 : ClassId) (d1 : Value) (c0 c1 : Int32) (h0 : Heap) (n0 : Nat) (Z0 : n0 ≤ h0.size) (V1 : Arv Z h0 a1 k1 .char (2 : Int32) [(.int c0), (.int c1)] d1) (hc0 : ¬ (255 : Int32) < c0) (hc1 : ¬ (255 : Int32) < c1) :
  own_Met l y5_ jdk_52_method_16_code 6 (some (.array .byte)) (R_ 1 1 2 18) #[(.ref a1), (.int (0 : Int32)), (.int (2 : Int32))] Z h0 (Q_rmcB2 Z a0 a1 k1 d1 c0 c1 h0 n0) := by
 refine own_bd (own := "java/lang/StringUTF16") rfl (plainFor_of_name pn_7) #[rv a1, iv 0, iv 2, .unset, .unset, .unset] ?_
 intro p e s m below meth c s₁ hx hby Hq hml hown hnm hlk hrt hZ X0 e0
 refine o_iloadN X0 Hq d6_0 rfl ?_
 obtain ⟨T_1, h_1, k_1, X_1, e_1, E_1, A_1, st_1⟩ := newP X0 hx hZ (w_ hw 26 rfl) e0 (g := (mkF m 1 #[rv a1, iv 0, iv 2, .unset, .unset, .unset] [(.int 2)])) rfl (hb hby d6_1) rfl (by decide) (cap := 2) (by decide) (by decide) (by decide) (by decide)
 obtain ⟨b_1, g_1⟩ : ∃ z, z = h0.size := ⟨_, rfl⟩
 rw [← g_1] at A_1 st_1
 have V_1 : Arv Z h_1 b_1 k_1 .byte (2 : Int32) [(.int (0 : Int32)), (.int (0 : Int32))] (.int (0 : Int32)) := (Arv.new A_1 (by decide)).pad (pad_rep [] (.int (0 : Int32)) 2)
 have gg_1 : n0 ≤ b_1 := Nat.le_trans Z0 (Nat.le_of_eq g_1.symm)
 have sz_1 : h0.size ≤ b_1 := Nat.le_trans (Keep.refl h0 []).1 (Nat.le_of_eq g_1.symm)
 refine own_st st_1 ?_
 show own_Go _ _ _ _ (T_1.setTop (mkF m 3 #[rv a1, iv 0, iv 2, .unset, .unset, .unset] [(.ref b_1)]))
 refine o_astoreN X_1 Hq d6_3 rfl (l' := #[rv a1, iv 0, iv 2, rv b_1, .unset, .unset]) rfl (o_aloadN X_1 Hq d6_4 rfl rfl (o_iloadN X_1 Hq d6_5 rfl (o_aloadN X_1 Hq d6_6 rfl rfl (o_iconst X_1 Hq 0 d6_7 rfl (o_iloadN X_1 Hq d6_8 rfl ?_)))))
 have Fa_3 := (V1.ext E_1)
 have Zs_4 : n0 ≤ h_1.size := (Nat.le_trans Z0 E_1.1)
 refine c_S5 X_1 Hq e_1 hZ hown hml (k6_115 hw) (rmcA2 hw a1 b_1 k1 d1 c0 c1 k_1 h_1 n0 Zs_4 Fa_3 V_1 gg_1 (Nat.ne_of_lt (Nat.lt_of_lt_of_le V1.lt (Nat.le_of_eq g_1.symm))) hc0 hc1) d6_9 ?_ 0
 rintro T_2 L_2 _ X_2 ⟨⟨⟩, Nq_2, K_2, Fq_2_0⟩
 have N_2 := Fr.app (Fr.nil n0) Nq_2
 refine o_istore X_2 Hq d6_12 (l' := #[rv a1, iv 0, iv 2, rv b_1, iv 2, .unset]) rfl (o_iload X_2 Hq d6_14 rfl (o_iloadN X_2 Hq d6_16 rfl (o_icmpYes X_2 Hq (pc' := 57) d6_17 (by decide) (o_aloadN X_2 Hq d6_57 rfl rfl ?_))))
 have Kp_5 : Keep h0 T_2.heap [] := (((Keep.refl h0 []).ext E_1).trans K_2 (allS (Or.inr sz_1) all0))
 exact e_R X_2 rfl Hq hlk rfl rfl hrt d6_58 ⟨b_1, k_1, rfl, N_2, Kp_5, gg_1, sz_1, Fq_2_0⟩
def Q_rmcl2 (Z : State) (a0 : Array Value) (a1 : Addr) (k1 : ClassId) (vs : List Value) (d1 : Value) (h0 : Heap) (n0 : Nat) (v : Option Value) (h : Heap) (L : List Loc) : Prop := v = some (.int (0 : Int32)) ∧ Fr n0 L ∧ h = h0
theorem rmcl2 (hw : HW a0 Z) (a1 : Addr) (k1 : ClassId) (vs : List Value) (d1 : Value) (h0 : Heap) (n0 : Nat) (Z0 : n0 ≤ h0.size) (V1 : Arv Z h0 a1 k1 .byte (2 : Int32) vs d1) :
  own_Met l y6_ jdk_52_method_15_code 2 (some .byte) (R_ 0 0 0 0) #[(.ref a1), (.int (2 : Int32))] Z h0 (Q_rmcl2 Z a0 a1 k1 vs d1 h0 n0) := by
 refine own_bd (own := "java/lang/StringUTF16") rfl (plainFor_of_name pn_7) #[rv a1, iv 2] ?_
 intro p e s m below meth c s₁ hx hby Hq hml hown hnm hlk hrt hZ X0 e0
 refine o_iloadN X0 Hq d8_0 rfl (o_aloadN X0 Hq d8_1 rfl rfl ?_)
 obtain ⟨cl_1, Ar_1, qk_1, Sz_1, Ng_1, Hs_1, Gs_1⟩ := id V1
 refine own_st (X0.arraylength hx (by rw [e0]; exact Ar_1.1) (State.isArrayOf_alike hZ.alike Ar_1.2.1) (g := (mkF m 2 #[rv a1, iv 2] [(.ref a1), (.int 2)])) rfl rfl (hb hby d8_2)) ?_
 rw [len_of Sz_1 Ng_1]
 show own_Go _ _ _ _ (s₁.setTop (mkF m 3 #[rv a1, iv 2] [(.int 2), (.int 2)]))
 refine o_isub X0 Hq d8_3 ?_
 show own_Go _ _ _ _ (s₁.setTop (mkF m 4 #[rv a1, iv 2] [(.int 0)]))
 refine o_bipush X0 Hq 31 d8_4 rfl (o_iushr X0 Hq d8_6 ?_)
 show own_Go _ _ _ _ (s₁.setTop (mkF m 7 #[rv a1, iv 2] [(.int 0)]))
 refine o_i2b X0 Hq d8_7 ?_
 show own_Go _ _ _ _ (s₁.setTop (mkF m 8 #[rv a1, iv 2] [(.int 0)]))
 exact e_B X0 e0 Hq hlk hrt d8_8 ⟨rfl, (Fr.nil n0), rfl⟩
def Q_rmiB2 (Z : State) (a0 : Array Value) (a1 a2 : Addr) (k1 : ClassId) (d1 : Value) (w c0 c1 : Int32) (h0 : Heap) (n0 : Nat) (v : Option Value) (h : Heap) (L : List Loc) : Prop := ∃ b : Addr, ∃ kb : ClassId, v = none ∧ Fr n0 L ∧ Keep h0 h [a1] ∧ n0 ≤ b ∧ h0.size ≤ b ∧ Fld Z h a1 "java/lang/String" "value" "[B" (.ref b) ∧ Fld Z h a1 "java/lang/String" "coder" "B" (.int (0 : Int32)) ∧ Arv Z h b kb .byte (2 : Int32) [(.int ((c0.toInt8.toInt32).toInt8.toInt32)), (.int ((c1.toInt8.toInt32).toInt8.toInt32))] (.int (0 : Int32))
theorem rmiB2 (hw : HW a0 Z) (a1 a2 : Addr) (k1 : ClassId) (d1 : Value) (w c0 c1 : Int32) (h0 : Heap) (n0 : Nat) (Z0 : n0 ≤ h0.size) (E1 : Exa Z h0 a1 "java/lang/String") (g1 : n0 ≤ a1) (F1 : Fld Z h0 a1 "java/lang/String" "value" "[B" .null) (F2 : Fld Z h0 a1 "java/lang/String" "coder" "B" (.int (0 : Int32))) (V1 : Arv Z h0 a2 k1 .char (2 : Int32) [(.int c0), (.int c1)] d1) (hc0 : ¬ (255 : Int32) < c0) (hc1 : ¬ (255 : Int32) < c1) (S1 : Sta Z h0 "java/lang/String" "COMPACT_STRINGS" "Z" (.int w)) (hw0 : ¬ w = (0 : Int32)) :
  own_Met l y2_ jdk_42_method_149_code 6 none (R_ 2 1 2 35) #[(.ref a1), (.ref a2), (.int (0 : Int32)), (.int (2 : Int32)), .null] Z h0 (Q_rmiB2 Z a0 a1 a2 k1 d1 w c0 c1 h0 n0) := by
 refine own_bd (own := "java/lang/String") rfl (plainFor_of_name pn_4) #[rv a1, rv a2, iv 0, iv 2, .val .null, .unset] ?_
 intro p e s m below meth c s₁ hx hby Hq hml hown hnm hlk hrt hZ X0 e0
 refine o_aloadN X0 Hq d4_0 rfl rfl ?_
 obtain ⟨T_1, X_1, e_1, st_1⟩ := initO X0 hx hZ hown (w_ hw 18 rfl) (w_ hw 19 rfl) (w_ hw 20 rfl) e0 (g := (mkF m 1 #[rv a1, rv a2, iv 0, iv 2, .val .null, .unset] [(.ref a1)])) rfl (by rw [hml]; rfl) rfl (hb hby d4_1) (by decide) (W := 0) (z_ rfl) (by decide)
 refine own_st st_1 ?_
 show own_Go _ _ _ _ (T_1.setTop (mkF m 4 #[rv a1, rv a2, iv 0, iv 2, .val .null, .unset] []))
 refine o_iloadN X_1 Hq d4_4 rfl (o_ifYes X_1 Hq (pc' := 27) d4_5 (by decide) ?_)
 obtain ⟨T_2, X_2, e_2, st_2⟩ := getS2 X_1 hx hZ hown (host := "") (Or.inl (w_ hw 21 rfl)) Via.refl e_1 S1 (g := (mkF m 27 #[rv a1, rv a2, iv 0, iv 2, .val .null, .unset] [])) rfl (hb hby d4_27)
 refine own_st st_2 ?_
 show own_Go _ _ _ _ (T_2.setTop (mkF m 30 #[rv a1, rv a2, iv 0, iv 2, .val .null, .unset] [(.int w)]))
 refine o_ifNo X_2 Hq d4_30 (feq hw0).1 (o_aloadN X_2 Hq d4_33 rfl rfl (o_iloadN X_2 Hq d4_34 rfl (o_iloadN X_2 Hq d4_35 rfl ?_)))
 refine c_S3 X_2 Hq e_2 hZ hown hml (k4_177 hw) (rmcB2 hw a2 k1 d1 c0 c1 h0 n0 Z0 V1 hc0 hc1) d4_36 ?_ 0
 rintro T_3 L_3 _ X_3 ⟨b__3, kb__3, ⟨⟩, Nq_3, K_3, gq_3_b, sq_3_b, Fq_3_0⟩
 have N_3 := Fr.app (Fr.nil n0) Nq_3
 have szq_3_b : h0.size ≤ b__3 := Nat.le_trans (Keep.refl h0 [a1]).1 sq_3_b
 refine o_astore X_3 Hq d4_39 rfl (l' := #[rv a1, rv a2, iv 0, iv 2, .val .null, rv b__3]) rfl (o_aloadN X_3 Hq d4_41 rfl rfl (o_aload X_3 Hq d4_42 rfl rfl (o_iloadN X_3 Hq d4_44 rfl ?_)))
 have Zs_5 : n0 ≤ T_3.heap.size := (Nat.le_trans Z0 K_3.1)
 refine c_S2 X_3 Hq rfl hZ hown hml (k4_47 hw) (rmcl2 hw b__3 kb__3 [(.int ((c0.toInt8.toInt32).toInt8.toInt32)), (.int ((c1.toInt8.toInt32).toInt8.toInt32))] (.int (0 : Int32)) T_3.heap n0 Zs_5 Fq_3_0) d4_45 ?_ 1
 rintro T_4 L_4 _ X_4 ⟨⟨⟩, Nq_4, e_4⟩
 have N_4 := Fr.app N_3 Nq_4
 have Fa_6 := (F2.keep K_3 nin0)
 have Fa_7 := (E1.keep K_3)
 obtain ⟨T_8, h_8, X_8, e_8, W_8, st_8⟩ := putFN X_4 hx hZ hown (w_ hw 33 rfl) Via.refl e_4 Fa_6 Fa_7 (Or.inr ⟨(w_ hw 34 rfl), rfl, hnm⟩) (w_ hw 9 rfl) (ty := .byte) (v' := (.int (0 : Int32))) (by decide) rfl (by decide) (g := (mkF m 48 #[rv a1, rv a2, iv 0, iv 2, .val .null, rv b__3] [(.int 0), (.ref a1)])) rfl rfl (hb hby d4_48)
 refine own_st st_8 ?_
 have N_8 := Fr.snoc X_8 N_4 g1
 show own_Go _ _ _ _ (T_8.setTop (mkF m 51 #[rv a1, rv a2, iv 0, iv 2, .val .null, rv b__3] []))
 refine o_aloadN X_8 Hq d4_51 rfl rfl (o_aload X_8 Hq d4_52 rfl rfl ?_)
 have Fa_9 := ((F1.keep K_3 nin0).other W_8 (Or.inr (slot_ne (Or.inr (w_ hw 36 rfl)) (Or.inr (w_ hw 34 rfl)) (by decide) (t := (.array .byte)) (t' := .byte) (by decide) (by decide))))
 have Fa_10 := (Fa_7.wr W_8)
 obtain ⟨T_11, h_11, X_11, e_11, W_11, st_11⟩ := putF X_8 hx hZ hown (host := "") (Or.inl (w_ hw 35 rfl)) Via.refl e_8 Fa_9 Fa_10 (Or.inr ⟨(w_ hw 36 rfl), rfl, hnm⟩) (w_ hw 9 rfl) (ty := (.array .byte)) (by decide) rfl rfl (g := (mkF m 54 #[rv a1, rv a2, iv 0, iv 2, .val .null, rv b__3] [(.ref b__3), (.ref a1)])) rfl rfl (hb hby d4_54)
 refine own_st st_11 ?_
 have N_11 := Fr.snoc X_11 N_8 g1
 show own_Go _ _ _ _ (T_11.setTop (mkF m 57 #[rv a1, rv a2, iv 0, iv 2, .val .null, rv b__3] []))
 have Kp_12 : Keep h0 h_11 [a1] := ((((Keep.refl h0 [a1]).trans K_3 all0).wr W_8 (Or.inl (List.mem_of_getElem? (i := 0) rfl))).wr W_11 (Or.inl (List.mem_of_getElem? (i := 0) rfl)))
 have Fa_13 := (Fa_9.same W_11)
 have Fa_14 := ((Fa_6.same W_8).other W_11 (Or.inr (slot_ne (Or.inr (w_ hw 34 rfl)) (Or.inr (w_ hw 36 rfl)) (by decide) (t := .byte) (t' := (.array .byte)) (by decide) (by decide))))
 have Fa_15 := ((Fq_3_0.other W_8 (Ne.symm (Nat.ne_of_lt (Nat.lt_of_lt_of_le F2.lt sq_3_b)))).other W_11 (Ne.symm (Nat.ne_of_lt (Nat.lt_of_lt_of_le F2.lt sq_3_b))))
 exact e_V X_11 e_11 Hq hlk hrt d4_57 ⟨b__3, kb__3, rfl, N_11, Kp_12, gq_3_b, szq_3_b, Fa_13, Fa_14, Fa_15⟩
def Q_rmiA2 (Z : State) (a0 : Array Value) (a1 a2 : Addr) (k1 : ClassId) (d1 : Value) (w c0 c1 : Int32) (h0 : Heap) (n0 : Nat) (v : Option Value) (h : Heap) (L : List Loc) : Prop := ∃ b : Addr, ∃ kb : ClassId, v = none ∧ Fr n0 L ∧ Keep h0 h [a1] ∧ n0 ≤ b ∧ h0.size ≤ b ∧ Fld Z h a1 "java/lang/String" "value" "[B" (.ref b) ∧ Fld Z h a1 "java/lang/String" "coder" "B" (.int (0 : Int32)) ∧ Arv Z h b kb .byte (2 : Int32) [(.int ((c0.toInt8.toInt32).toInt8.toInt32)), (.int ((c1.toInt8.toInt32).toInt8.toInt32))] (.int (0 : Int32))
theorem rmiA2 (hw : HW a0 Z) (a1 a2 : Addr) (k1 : ClassId) (d1 : Value) (w c0 c1 : Int32) (h0 : Heap) (n0 : Nat) (Z0 : n0 ≤ h0.size) (E1 : Exa Z h0 a1 "java/lang/String") (g1 : n0 ≤ a1) (F1 : Fld Z h0 a1 "java/lang/String" "value" "[B" .null) (F2 : Fld Z h0 a1 "java/lang/String" "coder" "B" (.int (0 : Int32))) (V1 : Arv Z h0 a2 k1 .char (2 : Int32) [(.int c0), (.int c1)] d1) (hc0 : ¬ (255 : Int32) < c0) (hc1 : ¬ (255 : Int32) < c1) (S1 : Sta Z h0 "java/lang/String" "COMPACT_STRINGS" "Z" (.int w)) (hw0 : ¬ w = (0 : Int32)) :
  own_Met l y3_ jdk_42_method_3_code 2 none (R_ 3 1 2 52) #[(.ref a1), (.ref a2)] Z h0 (Q_rmiA2 Z a0 a1 a2 k1 d1 w c0 c1 h0 n0) := by
 refine own_bd (own := "java/lang/String") rfl (plainFor_of_name pn_4) #[rv a1, rv a2] ?_
 intro p e s m below meth c s₁ hx hby Hq hml hown hnm hlk hrt hZ X0 e0
 refine o_aloadN X0 Hq d3_0 rfl rfl (o_aloadN X0 Hq d3_1 rfl rfl (o_iconst X0 Hq 0 d3_2 rfl (o_aloadN X0 Hq d3_3 rfl rfl ?_)))
 obtain ⟨cl_1, Ar_1, qk_1, Sz_1, Ng_1, Hs_1, Gs_1⟩ := id V1
 refine own_st (X0.arraylength hx (by rw [e0]; exact Ar_1.1) (State.isArrayOf_alike hZ.alike Ar_1.2.1) (g := (mkF m 4 #[rv a1, rv a2] [(.ref a2), (.int 0), (.ref a2), (.ref a1)])) rfl rfl (hb hby d3_4)) ?_
 rw [len_of Sz_1 Ng_1]
 show own_Go _ _ _ _ (s₁.setTop (mkF m 5 #[rv a1, rv a2] [(.int 2), (.int 0), (.ref a2), (.ref a1)]))
 refine o_aconstNull X0 Hq d3_5 ?_
 refine c_I4v X0 Hq e0 hZ hown hml (k3_27 hw) (rmiB2 hw a1 a2 k1 d1 w c0 c1 h0 n0 Z0 E1 g1 F1 F2 V1 hc0 hc1 S1 hw0) d3_6 ?_ 0
 rintro T_2 L_2 X_2 ⟨b__2, kb__2, -, Nq_2, K_2, gq_2_b, sq_2_b, Fq_2_0, Fq_2_1, Fq_2_2⟩
 have N_2 := Fr.app (Fr.nil n0) Nq_2
 have szq_2_b : h0.size ≤ b__2 := Nat.le_trans (Keep.refl h0 [a1]).1 sq_2_b
 have Kp_3 : Keep h0 T_2.heap [a1] := ((Keep.refl h0 [a1]).trans K_2 (allS (Or.inl (List.mem_of_getElem? (i := 0) rfl)) all0))
 exact e_V X_2 rfl Hq hlk hrt d3_9 ⟨b__2, kb__2, rfl, N_2, Kp_3, gq_2_b, szq_2_b, Fq_2_0, Fq_2_1, Fq_2_2⟩
def Q_rmcA3 (Z : State) (a0 : Array Value) (a1 a2 : Addr) (k1 : ClassId) (d1 : Value) (c0 c1 c2 : Int32) (k2 : ClassId) (h0 : Heap) (n0 : Nat) (v : Option Value) (h : Heap) (L : List Loc) : Prop := v = some (.int (3 : Int32)) ∧ Fr n0 L ∧ Keep h0 h [a2] ∧ Arv Z h a2 k2 .byte (3 : Int32) [(.int ((c0.toInt8.toInt32).toInt8.toInt32)), (.int ((c1.toInt8.toInt32).toInt8.toInt32)), (.int ((c2.toInt8.toInt32).toInt8.toInt32))] (.int (0 : Int32))
theorem rmcA3 (hw : HW a0 Z) (a1 a2 : Addr) (k1 : ClassId) (d1 : Value) (c0 c1 c2 : Int32) (k2 : ClassId) (h0 : Heap) (n0 : Nat) (Z0 : n0 ≤ h0.size) (V1 : Arv Z h0 a1 k1 .char (3 : Int32) [(.int c0), (.int c1), (.int c2)] d1) (V2 : Arv Z h0 a2 k2 .byte (3 : Int32) [(.int (0 : Int32)), (.int (0 : Int32)), (.int (0 : Int32))] (.int (0 : Int32))) (g2 : n0 ≤ a2) (n12 : a1 ≠ a2) (hc0 : ¬ (255 : Int32) < c0) (hc1 : ¬ (255 : Int32) < c1) (hc2 : ¬ (255 : Int32) < c2) :
  own_Met l y4_ jdk_52_method_21_code 7 (some .int) (R_ 0 0 0 0) #[(.ref a1), (.int (0 : Int32)), (.ref a2), (.int (0 : Int32)), (.int (3 : Int32))] Z h0 (Q_rmcA3 Z a0 a1 a2 k1 d1 c0 c1 c2 k2 h0 n0) := by
 refine own_bd (own := "java/lang/StringUTF16") rfl (plainFor_of_name pn_7) #[rv a1, iv 0, rv a2, iv 0, iv 3, .unset, .unset] ?_
 intro p e s m below meth c s₁ hx hby Hq hml hown hnm hlk hrt hZ X0 e0
 refine o_iconst X0 Hq 0 d7_0 rfl (o_istore X0 Hq d7_1 (l' := #[rv a1, iv 0, rv a2, iv 0, iv 3, iv 0, .unset]) rfl (o_iload X0 Hq d7_3 rfl (o_iload X0 Hq d7_5 rfl (o_icmpNo X0 Hq d7_7 (by decide) (o_aloadN X0 Hq d7_10 rfl rfl (o_iloadN X0 Hq d7_11 rfl ?_))))))
 obtain ⟨cl_1, Ar_1, qk_1, Sz_1, Ng_1, Hs_1, Gs_1⟩ := id V1
 refine own_st (X0.caload hx (j := (0 : Int32)) (v := (.int c0)) (by rw [e0]; exact Ar_1.1) (State.isArrayOf_alike hZ.alike Ar_1.2.1) Ar_1.2.2 (inb_of Sz_1 ⟨by decide, by decide⟩) (Hs_1.at (j := (0 : Int32)) (inb_of Sz_1 ⟨by decide, by decide⟩) rfl) (g := (mkF m 12 #[rv a1, iv 0, rv a2, iv 0, iv 3, iv 0, .unset] [(.int 0), (.ref a1)])) rfl rfl (hb hby d7_12)) ?_
 show own_Go _ _ _ _ (s₁.setTop (mkF m 13 #[rv a1, iv 0, rv a2, iv 0, iv 3, iv 0, .unset] [(.int c0)]))
 refine o_istore X0 Hq d7_13 (l' := #[rv a1, iv 0, rv a2, iv 0, iv 3, iv 0, iv c0]) rfl (o_iload X0 Hq d7_15 rfl (o_sipush X0 Hq 255 d7_17 rfl (o_icmpYes X0 Hq (pc' := 26) d7_20 (flt hc0).2.2.2 (o_aloadN X0 Hq d7_26 rfl rfl (o_iloadN X0 Hq d7_27 rfl (o_iload X0 Hq d7_28 rfl (o_i2b X0 Hq d7_30 ?_)))))))
 obtain ⟨cl_2, Ar_2, qk_2, Sz_2, Ng_2, Hs_2, Gs_2⟩ := id V2
 obtain ⟨T_3, h_3, X_3, e_3, W_3, st_3⟩ := stB X0 hx hZ e0 Ar_2 (j := (0 : Int32)) (inb_of Sz_2 ⟨by decide, by decide⟩) (g := (mkF m 31 #[rv a1, iv 0, rv a2, iv 0, iv 3, iv 0, iv c0] [(.int (c0.toInt8.toInt32)), (.int 0), (.ref a2)])) rfl rfl (hb hby d7_31)
 refine own_st st_3 ?_
 have V_3 : Arv Z h_3 a2 k2 .byte (3 : Int32) [(.int ((c0.toInt8.toInt32).toInt8.toInt32)), (.int (0 : Int32)), (.int (0 : Int32))] (.int (0 : Int32)) := Arv.set Ar_2 qk_2 Sz_2 Ng_2 Hs_2 Gs_2 (fits_nar_byte _) W_3 0 rfl (Nat.le_of_ble_eq_true rfl)
 have N_3 := Fr.snoc X_3 (Fr.nil n0) g2
 show own_Go _ _ _ _ (T_3.setTop (mkF m 32 #[rv a1, iv 0, rv a2, iv 0, iv 3, iv 0, iv c0] []))
 refine o_iinc X_3 Hq d7_32 rfl (l' := #[rv a1, iv 1, rv a2, iv 0, iv 3, iv 0, iv c0]) rfl (o_iinc X_3 Hq d7_35 rfl (l' := #[rv a1, iv 1, rv a2, iv 1, iv 3, iv 0, iv c0]) rfl (o_iinc X_3 Hq d7_38 rfl (l' := #[rv a1, iv 1, rv a2, iv 1, iv 3, iv 1, iv c0]) rfl (o_goto X_3 Hq (pc' := 3) d7_41 (o_iload X_3 Hq d7_3 rfl (o_iload X_3 Hq d7_5 rfl (o_icmpNo X_3 Hq d7_7 (by decide) (o_aloadN X_3 Hq d7_10 rfl rfl (o_iloadN X_3 Hq d7_11 rfl ?_))))))))
 have Fa_4 := (V1.other W_3 n12)
 obtain ⟨cl_5, Ar_5, qk_5, Sz_5, Ng_5, Hs_5, Gs_5⟩ := id Fa_4
 refine own_st (X_3.caload hx (j := (1 : Int32)) (v := (.int c1)) (by rw [e_3]; exact Ar_5.1) (State.isArrayOf_alike hZ.alike Ar_5.2.1) Ar_5.2.2 (inb_of Sz_5 ⟨by decide, by decide⟩) (Hs_5.at (j := (1 : Int32)) (inb_of Sz_5 ⟨by decide, by decide⟩) rfl) (g := (mkF m 12 #[rv a1, iv 1, rv a2, iv 1, iv 3, iv 1, iv c0] [(.int 1), (.ref a1)])) rfl rfl (hb hby d7_12)) ?_
 show own_Go _ _ _ _ (T_3.setTop (mkF m 13 #[rv a1, iv 1, rv a2, iv 1, iv 3, iv 1, iv c0] [(.int c1)]))
 refine o_istore X_3 Hq d7_13 (l' := #[rv a1, iv 1, rv a2, iv 1, iv 3, iv 1, iv c1]) rfl (o_iload X_3 Hq d7_15 rfl (o_sipush X_3 Hq 255 d7_17 rfl (o_icmpYes X_3 Hq (pc' := 26) d7_20 (flt hc1).2.2.2 (o_aloadN X_3 Hq d7_26 rfl rfl (o_iloadN X_3 Hq d7_27 rfl (o_iload X_3 Hq d7_28 rfl (o_i2b X_3 Hq d7_30 ?_)))))))
 obtain ⟨cl_6, Ar_6, qk_6, Sz_6, Ng_6, Hs_6, Gs_6⟩ := id V_3
 obtain ⟨T_7, h_7, X_7, e_7, W_7, st_7⟩ := stB X_3 hx hZ e_3 Ar_6 (j := (1 : Int32)) (inb_of Sz_6 ⟨by decide, by decide⟩) (g := (mkF m 31 #[rv a1, iv 1, rv a2, iv 1, iv 3, iv 1, iv c1] [(.int (c1.toInt8.toInt32)), (.int 1), (.ref a2)])) rfl rfl (hb hby d7_31)
 refine own_st st_7 ?_
 have V_7 : Arv Z h_7 a2 k2 .byte (3 : Int32) [(.int ((c0.toInt8.toInt32).toInt8.toInt32)), (.int ((c1.toInt8.toInt32).toInt8.toInt32)), (.int (0 : Int32))] (.int (0 : Int32)) := Arv.set Ar_6 qk_6 Sz_6 Ng_6 Hs_6 Gs_6 (fits_nar_byte _) W_7 1 rfl (Nat.le_of_ble_eq_true rfl)
 have N_7 := Fr.snoc X_7 N_3 g2
 show own_Go _ _ _ _ (T_7.setTop (mkF m 32 #[rv a1, iv 1, rv a2, iv 1, iv 3, iv 1, iv c1] []))
 refine o_iinc X_7 Hq d7_32 rfl (l' := #[rv a1, iv 2, rv a2, iv 1, iv 3, iv 1, iv c1]) rfl (o_iinc X_7 Hq d7_35 rfl (l' := #[rv a1, iv 2, rv a2, iv 2, iv 3, iv 1, iv c1]) rfl (o_iinc X_7 Hq d7_38 rfl (l' := #[rv a1, iv 2, rv a2, iv 2, iv 3, iv 2, iv c1]) rfl (o_goto X_7 Hq (pc' := 3) d7_41 (o_iload X_7 Hq d7_3 rfl (o_iload X_7 Hq d7_5 rfl (o_icmpNo X_7 Hq d7_7 (by decide) (o_aloadN X_7 Hq d7_10 rfl rfl (o_iloadN X_7 Hq d7_11 rfl ?_))))))))
 have Fa_8 := (Fa_4.other W_7 n12)
 obtain ⟨cl_9, Ar_9, qk_9, Sz_9, Ng_9, Hs_9, Gs_9⟩ := id Fa_8
 refine own_st (X_7.caload hx (j := (2 : Int32)) (v := (.int c2)) (by rw [e_7]; exact Ar_9.1) (State.isArrayOf_alike hZ.alike Ar_9.2.1) Ar_9.2.2 (inb_of Sz_9 ⟨by decide, by decide⟩) (Hs_9.at (j := (2 : Int32)) (inb_of Sz_9 ⟨by decide, by decide⟩) rfl) (g := (mkF m 12 #[rv a1, iv 2, rv a2, iv 2, iv 3, iv 2, iv c1] [(.int 2), (.ref a1)])) rfl rfl (hb hby d7_12)) ?_
 show own_Go _ _ _ _ (T_7.setTop (mkF m 13 #[rv a1, iv 2, rv a2, iv 2, iv 3, iv 2, iv c1] [(.int c2)]))
 refine o_istore X_7 Hq d7_13 (l' := #[rv a1, iv 2, rv a2, iv 2, iv 3, iv 2, iv c2]) rfl (o_iload X_7 Hq d7_15 rfl (o_sipush X_7 Hq 255 d7_17 rfl (o_icmpYes X_7 Hq (pc' := 26) d7_20 (flt hc2).2.2.2 (o_aloadN X_7 Hq d7_26 rfl rfl (o_iloadN X_7 Hq d7_27 rfl (o_iload X_7 Hq d7_28 rfl (o_i2b X_7 Hq d7_30 ?_)))))))
 obtain ⟨cl_10, Ar_10, qk_10, Sz_10, Ng_10, Hs_10, Gs_10⟩ := id V_7
 obtain ⟨T_11, h_11, X_11, e_11, W_11, st_11⟩ := stB X_7 hx hZ e_7 Ar_10 (j := (2 : Int32)) (inb_of Sz_10 ⟨by decide, by decide⟩) (g := (mkF m 31 #[rv a1, iv 2, rv a2, iv 2, iv 3, iv 2, iv c2] [(.int (c2.toInt8.toInt32)), (.int 2), (.ref a2)])) rfl rfl (hb hby d7_31)
 refine own_st st_11 ?_
 have V_11 : Arv Z h_11 a2 k2 .byte (3 : Int32) [(.int ((c0.toInt8.toInt32).toInt8.toInt32)), (.int ((c1.toInt8.toInt32).toInt8.toInt32)), (.int ((c2.toInt8.toInt32).toInt8.toInt32))] (.int (0 : Int32)) := Arv.set Ar_10 qk_10 Sz_10 Ng_10 Hs_10 Gs_10 (fits_nar_byte _) W_11 2 rfl (Nat.le_of_ble_eq_true rfl)
 have N_11 := Fr.snoc X_11 N_7 g2
 show own_Go _ _ _ _ (T_11.setTop (mkF m 32 #[rv a1, iv 2, rv a2, iv 2, iv 3, iv 2, iv c2] []))
 refine o_iinc X_11 Hq d7_32 rfl (l' := #[rv a1, iv 3, rv a2, iv 2, iv 3, iv 2, iv c2]) rfl (o_iinc X_11 Hq d7_35 rfl (l' := #[rv a1, iv 3, rv a2, iv 3, iv 3, iv 2, iv c2]) rfl (o_iinc X_11 Hq d7_38 rfl (l' := #[rv a1, iv 3, rv a2, iv 3, iv 3, iv 3, iv c2]) rfl (o_goto X_11 Hq (pc' := 3) d7_41 (o_iload X_11 Hq d7_3 rfl (o_iload X_11 Hq d7_5 rfl (o_icmpYes X_11 Hq (pc' := 44) d7_7 (by decide) (o_iload X_11 Hq d7_44 rfl ?_)))))))
 have Kp_12 : Keep h0 h_11 [a2] := ((((Keep.refl h0 [a2]).wr W_3 (Or.inl (List.mem_of_getElem? (i := 0) rfl))).wr W_7 (Or.inl (List.mem_of_getElem? (i := 0) rfl))).wr W_11 (Or.inl (List.mem_of_getElem? (i := 0) rfl)))
 exact e_I X_11 e_11 Hq hlk hrt d7_46 ⟨rfl, N_11, Kp_12, V_11⟩
def Q_rmcB3 (Z : State) (a0 : Array Value) (a1 : Addr) (k1 : ClassId) (d1 : Value) (c0 c1 c2 : Int32) (h0 : Heap) (n0 : Nat) (v : Option Value) (h : Heap) (L : List Loc) : Prop := ∃ b : Addr, ∃ kb : ClassId, v = some (.ref b) ∧ Fr n0 L ∧ Keep h0 h [] ∧ n0 ≤ b ∧ h0.size ≤ b ∧ Arv Z h b kb .byte (3 : Int32) [(.int ((c0.toInt8.toInt32).toInt8.toInt32)), (.int ((c1.toInt8.toInt32).toInt8.toInt32)), (.int ((c2.toInt8.toInt32).toInt8.toInt32))] (.int (0 : Int32))
theorem rmcB3 (hw : HW a0 Z) (a1 : Addr) (k1 : ClassId) (d1 : Value) (c0 c1 c2 : Int32) (h0 : Heap) (n0 : Nat) (Z0 : n0 ≤ h0.size) (V1 : Arv Z h0 a1 k1 .char (3 : Int32) [(.int c0), (.int c1), (.int c2)] d1) (hc0 : ¬ (255 : Int32) < c0) (hc1 : ¬ (255 : Int32) < c1) (hc2 : ¬ (255 : Int32) < c2) :
  own_Met l y5_ jdk_52_method_16_code 6 (some (.array .byte)) (R_ 1 1 3 18) #[(.ref a1), (.int (0 : Int32)), (.int (3 : Int32))] Z h0 (Q_rmcB3 Z a0 a1 k1 d1 c0 c1 c2 h0 n0) := by
 refine own_bd (own := "java/lang/StringUTF16") rfl (plainFor_of_name pn_7) #[rv a1, iv 0, iv 3, .unset, .unset, .unset] ?_
 intro p e s m below meth c s₁ hx hby Hq hml hown hnm hlk hrt hZ X0 e0
 refine o_iloadN X0 Hq d6_0 rfl ?_
 obtain ⟨T_1, h_1, k_1, X_1, e_1, E_1, A_1, st_1⟩ := newP X0 hx hZ (w_ hw 26 rfl) e0 (g := (mkF m 1 #[rv a1, iv 0, iv 3, .unset, .unset, .unset] [(.int 3)])) rfl (hb hby d6_1) rfl (by decide) (cap := 3) (by decide) (by decide) (by decide) (by decide)
 obtain ⟨b_1, g_1⟩ : ∃ z, z = h0.size := ⟨_, rfl⟩
 rw [← g_1] at A_1 st_1
 have V_1 : Arv Z h_1 b_1 k_1 .byte (3 : Int32) [(.int (0 : Int32)), (.int (0 : Int32)), (.int (0 : Int32))] (.int (0 : Int32)) := (Arv.new A_1 (by decide)).pad (pad_rep [] (.int (0 : Int32)) 3)
 have gg_1 : n0 ≤ b_1 := Nat.le_trans Z0 (Nat.le_of_eq g_1.symm)
 have sz_1 : h0.size ≤ b_1 := Nat.le_trans (Keep.refl h0 []).1 (Nat.le_of_eq g_1.symm)
 refine own_st st_1 ?_
 show own_Go _ _ _ _ (T_1.setTop (mkF m 3 #[rv a1, iv 0, iv 3, .unset, .unset, .unset] [(.ref b_1)]))
 refine o_astoreN X_1 Hq d6_3 rfl (l' := #[rv a1, iv 0, iv 3, rv b_1, .unset, .unset]) rfl (o_aloadN X_1 Hq d6_4 rfl rfl (o_iloadN X_1 Hq d6_5 rfl (o_aloadN X_1 Hq d6_6 rfl rfl (o_iconst X_1 Hq 0 d6_7 rfl (o_iloadN X_1 Hq d6_8 rfl ?_)))))
 have Fa_3 := (V1.ext E_1)
 have Zs_4 : n0 ≤ h_1.size := (Nat.le_trans Z0 E_1.1)
 refine c_S5 X_1 Hq e_1 hZ hown hml (k6_115 hw) (rmcA3 hw a1 b_1 k1 d1 c0 c1 c2 k_1 h_1 n0 Zs_4 Fa_3 V_1 gg_1 (Nat.ne_of_lt (Nat.lt_of_lt_of_le V1.lt (Nat.le_of_eq g_1.symm))) hc0 hc1 hc2) d6_9 ?_ 0
 rintro T_2 L_2 _ X_2 ⟨⟨⟩, Nq_2, K_2, Fq_2_0⟩
 have N_2 := Fr.app (Fr.nil n0) Nq_2
 refine o_istore X_2 Hq d6_12 (l' := #[rv a1, iv 0, iv 3, rv b_1, iv 3, .unset]) rfl (o_iload X_2 Hq d6_14 rfl (o_iloadN X_2 Hq d6_16 rfl (o_icmpYes X_2 Hq (pc' := 57) d6_17 (by decide) (o_aloadN X_2 Hq d6_57 rfl rfl ?_))))
 have Kp_5 : Keep h0 T_2.heap [] := (((Keep.refl h0 []).ext E_1).trans K_2 (allS (Or.inr sz_1) all0))
 exact e_R X_2 rfl Hq hlk rfl rfl hrt d6_58 ⟨b_1, k_1, rfl, N_2, Kp_5, gg_1, sz_1, Fq_2_0⟩
def Q_rmcl3 (Z : State) (a0 : Array Value) (a1 : Addr) (k1 : ClassId) (vs : List Value) (d1 : Value) (h0 : Heap) (n0 : Nat) (v : Option Value) (h : Heap) (L : List Loc) : Prop := v = some (.int (0 : Int32)) ∧ Fr n0 L ∧ h = h0
theorem rmcl3 (hw : HW a0 Z) (a1 : Addr) (k1 : ClassId) (vs : List Value) (d1 : Value) (h0 : Heap) (n0 : Nat) (Z0 : n0 ≤ h0.size) (V1 : Arv Z h0 a1 k1 .byte (3 : Int32) vs d1) :
  own_Met l y6_ jdk_52_method_15_code 2 (some .byte) (R_ 0 0 0 0) #[(.ref a1), (.int (3 : Int32))] Z h0 (Q_rmcl3 Z a0 a1 k1 vs d1 h0 n0) := by
 refine own_bd (own := "java/lang/StringUTF16") rfl (plainFor_of_name pn_7) #[rv a1, iv 3] ?_
 intro p e s m below meth c s₁ hx hby Hq hml hown hnm hlk hrt hZ X0 e0
 refine o_iloadN X0 Hq d8_0 rfl (o_aloadN X0 Hq d8_1 rfl rfl ?_)
 obtain ⟨cl_1, Ar_1, qk_1, Sz_1, Ng_1, Hs_1, Gs_1⟩ := id V1
 refine own_st (X0.arraylength hx (by rw [e0]; exact Ar_1.1) (State.isArrayOf_alike hZ.alike Ar_1.2.1) (g := (mkF m 2 #[rv a1, iv 3] [(.ref a1), (.int 3)])) rfl rfl (hb hby d8_2)) ?_
 rw [len_of Sz_1 Ng_1]
 show own_Go _ _ _ _ (s₁.setTop (mkF m 3 #[rv a1, iv 3] [(.int 3), (.int 3)]))
 refine o_isub X0 Hq d8_3 ?_
 show own_Go _ _ _ _ (s₁.setTop (mkF m 4 #[rv a1, iv 3] [(.int 0)]))
 refine o_bipush X0 Hq 31 d8_4 rfl (o_iushr X0 Hq d8_6 ?_)
 show own_Go _ _ _ _ (s₁.setTop (mkF m 7 #[rv a1, iv 3] [(.int 0)]))
 refine o_i2b X0 Hq d8_7 ?_
 show own_Go _ _ _ _ (s₁.setTop (mkF m 8 #[rv a1, iv 3] [(.int 0)]))
 exact e_B X0 e0 Hq hlk hrt d8_8 ⟨rfl, (Fr.nil n0), rfl⟩
def Q_rmiB3 (Z : State) (a0 : Array Value) (a1 a2 : Addr) (k1 : ClassId) (d1 : Value) (w c0 c1 c2 : Int32) (h0 : Heap) (n0 : Nat) (v : Option Value) (h : Heap) (L : List Loc) : Prop := ∃ b : Addr, ∃ kb : ClassId, v = none ∧ Fr n0 L ∧ Keep h0 h [a1] ∧ n0 ≤ b ∧ h0.size ≤ b ∧ Fld Z h a1 "java/lang/String" "value" "[B" (.ref b) ∧ Fld Z h a1 "java/lang/String" "coder" "B" (.int (0 : Int32)) ∧ Arv Z h b kb .byte (3 : Int32) [(.int ((c0.toInt8.toInt32).toInt8.toInt32)), (.int ((c1.toInt8.toInt32).toInt8.toInt32)), (.int ((c2.toInt8.toInt32).toInt8.toInt32))] (.int (0 : Int32))
theorem rmiB3 (hw : HW a0 Z) (a1 a2 : Addr) (k1 : ClassId) (d1 : Value) (w c0 c1 c2 : Int32) (h0 : Heap) (n0 : Nat) (Z0 : n0 ≤ h0.size) (E1 : Exa Z h0 a1 "java/lang/String") (g1 : n0 ≤ a1) (F1 : Fld Z h0 a1 "java/lang/String" "value" "[B" .null) (F2 : Fld Z h0 a1 "java/lang/String" "coder" "B" (.int (0 : Int32))) (V1 : Arv Z h0 a2 k1 .char (3 : Int32) [(.int c0), (.int c1), (.int c2)] d1) (hc0 : ¬ (255 : Int32) < c0) (hc1 : ¬ (255 : Int32) < c1) (hc2 : ¬ (255 : Int32) < c2) (S1 : Sta Z h0 "java/lang/String" "COMPACT_STRINGS" "Z" (.int w)) (hw0 : ¬ w = (0 : Int32)) :
  own_Met l y2_ jdk_42_method_149_code 6 none (R_ 2 1 3 35) #[(.ref a1), (.ref a2), (.int (0 : Int32)), (.int (3 : Int32)), .null] Z h0 (Q_rmiB3 Z a0 a1 a2 k1 d1 w c0 c1 c2 h0 n0) := by
 refine own_bd (own := "java/lang/String") rfl (plainFor_of_name pn_4) #[rv a1, rv a2, iv 0, iv 3, .val .null, .unset] ?_
 intro p e s m below meth c s₁ hx hby Hq hml hown hnm hlk hrt hZ X0 e0
 refine o_aloadN X0 Hq d4_0 rfl rfl ?_
 obtain ⟨T_1, X_1, e_1, st_1⟩ := initO X0 hx hZ hown (w_ hw 18 rfl) (w_ hw 19 rfl) (w_ hw 20 rfl) e0 (g := (mkF m 1 #[rv a1, rv a2, iv 0, iv 3, .val .null, .unset] [(.ref a1)])) rfl (by rw [hml]; rfl) rfl (hb hby d4_1) (by decide) (W := 0) (z_ rfl) (by decide)
 refine own_st st_1 ?_
 show own_Go _ _ _ _ (T_1.setTop (mkF m 4 #[rv a1, rv a2, iv 0, iv 3, .val .null, .unset] []))
 refine o_iloadN X_1 Hq d4_4 rfl (o_ifYes X_1 Hq (pc' := 27) d4_5 (by decide) ?_)
 obtain ⟨T_2, X_2, e_2, st_2⟩ := getS2 X_1 hx hZ hown (host := "") (Or.inl (w_ hw 21 rfl)) Via.refl e_1 S1 (g := (mkF m 27 #[rv a1, rv a2, iv 0, iv 3, .val .null, .unset] [])) rfl (hb hby d4_27)
 refine own_st st_2 ?_
 show own_Go _ _ _ _ (T_2.setTop (mkF m 30 #[rv a1, rv a2, iv 0, iv 3, .val .null, .unset] [(.int w)]))
 refine o_ifNo X_2 Hq d4_30 (feq hw0).1 (o_aloadN X_2 Hq d4_33 rfl rfl (o_iloadN X_2 Hq d4_34 rfl (o_iloadN X_2 Hq d4_35 rfl ?_)))
 refine c_S3 X_2 Hq e_2 hZ hown hml (k4_177 hw) (rmcB3 hw a2 k1 d1 c0 c1 c2 h0 n0 Z0 V1 hc0 hc1 hc2) d4_36 ?_ 0
 rintro T_3 L_3 _ X_3 ⟨b__3, kb__3, ⟨⟩, Nq_3, K_3, gq_3_b, sq_3_b, Fq_3_0⟩
 have N_3 := Fr.app (Fr.nil n0) Nq_3
 have szq_3_b : h0.size ≤ b__3 := Nat.le_trans (Keep.refl h0 [a1]).1 sq_3_b
 refine o_astore X_3 Hq d4_39 rfl (l' := #[rv a1, rv a2, iv 0, iv 3, .val .null, rv b__3]) rfl (o_aloadN X_3 Hq d4_41 rfl rfl (o_aload X_3 Hq d4_42 rfl rfl (o_iloadN X_3 Hq d4_44 rfl ?_)))
 have Zs_5 : n0 ≤ T_3.heap.size := (Nat.le_trans Z0 K_3.1)
 refine c_S2 X_3 Hq rfl hZ hown hml (k4_47 hw) (rmcl3 hw b__3 kb__3 [(.int ((c0.toInt8.toInt32).toInt8.toInt32)), (.int ((c1.toInt8.toInt32).toInt8.toInt32)), (.int ((c2.toInt8.toInt32).toInt8.toInt32))] (.int (0 : Int32)) T_3.heap n0 Zs_5 Fq_3_0) d4_45 ?_ 1
 rintro T_4 L_4 _ X_4 ⟨⟨⟩, Nq_4, e_4⟩
 have N_4 := Fr.app N_3 Nq_4
 have Fa_6 := (F2.keep K_3 nin0)
 have Fa_7 := (E1.keep K_3)
 obtain ⟨T_8, h_8, X_8, e_8, W_8, st_8⟩ := putFN X_4 hx hZ hown (w_ hw 33 rfl) Via.refl e_4 Fa_6 Fa_7 (Or.inr ⟨(w_ hw 34 rfl), rfl, hnm⟩) (w_ hw 9 rfl) (ty := .byte) (v' := (.int (0 : Int32))) (by decide) rfl (by decide) (g := (mkF m 48 #[rv a1, rv a2, iv 0, iv 3, .val .null, rv b__3] [(.int 0), (.ref a1)])) rfl rfl (hb hby d4_48)
 refine own_st st_8 ?_
 have N_8 := Fr.snoc X_8 N_4 g1
 show own_Go _ _ _ _ (T_8.setTop (mkF m 51 #[rv a1, rv a2, iv 0, iv 3, .val .null, rv b__3] []))
 refine o_aloadN X_8 Hq d4_51 rfl rfl (o_aload X_8 Hq d4_52 rfl rfl ?_)
 have Fa_9 := ((F1.keep K_3 nin0).other W_8 (Or.inr (slot_ne (Or.inr (w_ hw 36 rfl)) (Or.inr (w_ hw 34 rfl)) (by decide) (t := (.array .byte)) (t' := .byte) (by decide) (by decide))))
 have Fa_10 := (Fa_7.wr W_8)
 obtain ⟨T_11, h_11, X_11, e_11, W_11, st_11⟩ := putF X_8 hx hZ hown (host := "") (Or.inl (w_ hw 35 rfl)) Via.refl e_8 Fa_9 Fa_10 (Or.inr ⟨(w_ hw 36 rfl), rfl, hnm⟩) (w_ hw 9 rfl) (ty := (.array .byte)) (by decide) rfl rfl (g := (mkF m 54 #[rv a1, rv a2, iv 0, iv 3, .val .null, rv b__3] [(.ref b__3), (.ref a1)])) rfl rfl (hb hby d4_54)
 refine own_st st_11 ?_
 have N_11 := Fr.snoc X_11 N_8 g1
 show own_Go _ _ _ _ (T_11.setTop (mkF m 57 #[rv a1, rv a2, iv 0, iv 3, .val .null, rv b__3] []))
 have Kp_12 : Keep h0 h_11 [a1] := ((((Keep.refl h0 [a1]).trans K_3 all0).wr W_8 (Or.inl (List.mem_of_getElem? (i := 0) rfl))).wr W_11 (Or.inl (List.mem_of_getElem? (i := 0) rfl)))
 have Fa_13 := (Fa_9.same W_11)
 have Fa_14 := ((Fa_6.same W_8).other W_11 (Or.inr (slot_ne (Or.inr (w_ hw 34 rfl)) (Or.inr (w_ hw 36 rfl)) (by decide) (t := .byte) (t' := (.array .byte)) (by decide) (by decide))))
 have Fa_15 := ((Fq_3_0.other W_8 (Ne.symm (Nat.ne_of_lt (Nat.lt_of_lt_of_le F2.lt sq_3_b)))).other W_11 (Ne.symm (Nat.ne_of_lt (Nat.lt_of_lt_of_le F2.lt sq_3_b))))
 exact e_V X_11 e_11 Hq hlk hrt d4_57 ⟨b__3, kb__3, rfl, N_11, Kp_12, gq_3_b, szq_3_b, Fa_13, Fa_14, Fa_15⟩
def Q_rmiA3 (Z : State) (a0 : Array Value) (a1 a2 : Addr) (k1 : ClassId) (d1 : Value) (w c0 c1 c2 : Int32) (h0 : Heap) (n0 : Nat) (v : Option Value) (h : Heap) (L : List Loc) : Prop := ∃ b : Addr, ∃ kb : ClassId, v = none ∧ Fr n0 L ∧ Keep h0 h [a1] ∧ n0 ≤ b ∧ h0.size ≤ b ∧ Fld Z h a1 "java/lang/String" "value" "[B" (.ref b) ∧ Fld Z h a1 "java/lang/String" "coder" "B" (.int (0 : Int32)) ∧ Arv Z h b kb .byte (3 : Int32) [(.int ((c0.toInt8.toInt32).toInt8.toInt32)), (.int ((c1.toInt8.toInt32).toInt8.toInt32)), (.int ((c2.toInt8.toInt32).toInt8.toInt32))] (.int (0 : Int32))
theorem rmiA3 (hw : HW a0 Z) (a1 a2 : Addr) (k1 : ClassId) (d1 : Value) (w c0 c1 c2 : Int32) (h0 : Heap) (n0 : Nat) (Z0 : n0 ≤ h0.size) (E1 : Exa Z h0 a1 "java/lang/String") (g1 : n0 ≤ a1) (F1 : Fld Z h0 a1 "java/lang/String" "value" "[B" .null) (F2 : Fld Z h0 a1 "java/lang/String" "coder" "B" (.int (0 : Int32))) (V1 : Arv Z h0 a2 k1 .char (3 : Int32) [(.int c0), (.int c1), (.int c2)] d1) (hc0 : ¬ (255 : Int32) < c0) (hc1 : ¬ (255 : Int32) < c1) (hc2 : ¬ (255 : Int32) < c2) (S1 : Sta Z h0 "java/lang/String" "COMPACT_STRINGS" "Z" (.int w)) (hw0 : ¬ w = (0 : Int32)) :
  own_Met l y3_ jdk_42_method_3_code 2 none (R_ 3 1 3 52) #[(.ref a1), (.ref a2)] Z h0 (Q_rmiA3 Z a0 a1 a2 k1 d1 w c0 c1 c2 h0 n0) := by
 refine own_bd (own := "java/lang/String") rfl (plainFor_of_name pn_4) #[rv a1, rv a2] ?_
 intro p e s m below meth c s₁ hx hby Hq hml hown hnm hlk hrt hZ X0 e0
 refine o_aloadN X0 Hq d3_0 rfl rfl (o_aloadN X0 Hq d3_1 rfl rfl (o_iconst X0 Hq 0 d3_2 rfl (o_aloadN X0 Hq d3_3 rfl rfl ?_)))
 obtain ⟨cl_1, Ar_1, qk_1, Sz_1, Ng_1, Hs_1, Gs_1⟩ := id V1
 refine own_st (X0.arraylength hx (by rw [e0]; exact Ar_1.1) (State.isArrayOf_alike hZ.alike Ar_1.2.1) (g := (mkF m 4 #[rv a1, rv a2] [(.ref a2), (.int 0), (.ref a2), (.ref a1)])) rfl rfl (hb hby d3_4)) ?_
 rw [len_of Sz_1 Ng_1]
 show own_Go _ _ _ _ (s₁.setTop (mkF m 5 #[rv a1, rv a2] [(.int 3), (.int 0), (.ref a2), (.ref a1)]))
 refine o_aconstNull X0 Hq d3_5 ?_
 refine c_I4v X0 Hq e0 hZ hown hml (k3_27 hw) (rmiB3 hw a1 a2 k1 d1 w c0 c1 c2 h0 n0 Z0 E1 g1 F1 F2 V1 hc0 hc1 hc2 S1 hw0) d3_6 ?_ 0
 rintro T_2 L_2 X_2 ⟨b__2, kb__2, -, Nq_2, K_2, gq_2_b, sq_2_b, Fq_2_0, Fq_2_1, Fq_2_2⟩
 have N_2 := Fr.app (Fr.nil n0) Nq_2
 have szq_2_b : h0.size ≤ b__2 := Nat.le_trans (Keep.refl h0 [a1]).1 sq_2_b
 have Kp_3 : Keep h0 T_2.heap [a1] := ((Keep.refl h0 [a1]).trans K_2 (allS (Or.inl (List.mem_of_getElem? (i := 0) rfl)) all0))
 exact e_V X_2 rfl Hq hlk hrt d3_9 ⟨b__2, kb__2, rfl, N_2, Kp_3, gq_2_b, szq_2_b, Fq_2_0, Fq_2_1, Fq_2_2⟩
theorem own_safe_null {Z : State} {EL : List (String × Nat)} {vm : Vm} {h : Heap} {x : Addr} (hal : Z.vm.Alike vm) (E : Exa Z h x "java/lang/String") (F : Fld Z h x "java/lang/String" "value" "[B" .null) (wi : ∃ a0 n, (Cond.instantiable "java/lang/String" n).before a0 Z = true) : Safe Z EL vm h x := fun B => by
 obtain ⟨cell, cf, k, i, f, h1, h2, h3, h4, h5, h6, h7⟩ := F
 obtain ⟨cell', kE, e1, e2, e3, e4, -⟩ := E
 cases h1.symm.trans e1
 obtain ⟨p, -, u, a, -, q, -, G, rfl | rfl⟩ := B
 ·obtain ⟨cS, ⟨⟨g1, -, -, ⟨c1, k1, i1, f1, -⟩, -, -, -, v1, -⟩, -⟩, -⟩ := G
  cases (show h[q.sa]? = some q.sC from g1).symm.trans h1
  obtain ⟨k3, e5, -⟩ := State.fieldFound?_setVm (s := Z) hal h2
  have e6 := (show (Wst Z vm h).fieldFound? "java/lang/String" "value" "[B" = _ from e5).symm.trans f1
  simp only [Option.some.injEq, Prod.mk.injEq] at e6
  rw [← e6.2.2.2, h7] at v1
  simp at v1
 ·obtain ⟨cS, ⟨⟨-, -, -, -, -, -, -, -, -, g10, ⟨-, kA, hkA, compA, hkindA⟩, -⟩, -⟩, -⟩ := G
  cases (show h[q.sd]? = some q.SA from g10).symm.trans h1
  obtain ⟨a0, n, wi⟩ := wi
  obtain ⟨cI, kI, i1, i2, i3, -⟩ := Cond.instantiable_spec wi
  cases e2.symm.trans i1
  obtain ⟨k', q1, q2⟩ := hal.2.2 _ _ i2
  cases (show vm.classes[q.SA.cls]? = some kA from hkA).symm.trans q1
  rw [q2] at hkindA
  exact absurd (hkindA.symm.trans i3) (by simp)
theorem own_endC {p : Program} {l : Launch} {e : Env} {R : Room} {s : State} {m : MethodId} {args : Array Value} {below : List Frame} {meth : Method} {c : Code} {T : State} {locs : List Loc} {cells slots : Nat} {vm₁ : Vm} (X : Stand p l e R (s.setVm vm₁) m args below meth c T locs cells slots) {n : Nat} (hS : s.Since vm₁ n) {h : Heap} (eT : T.heap = h) (hn : n ≤ h.size) {v : Option Value} (hv : meth.sig.returnType = none → v = none) (hlk : meth.locks = false) {g : JFrame}
  (hst : ∀ fs, (∀ (f : JFrame) (acts : List Action), f.method = m → f.locked = none → f.entered = [] → (doReturn e (T.setTop f) acts v).1 = T.setFrames fs) → Steps p.tables e below (T.setTop g) (T.setFrames fs))
  {Z : State} {a0 : Array Value} {EL : List (String × Nat)} (hZ : Z.Warmed39 vm₁) (hEL : EW Z a0 EL) (Cr : CHr Z EL s.vm s.heap vm₁ h)
  {Q : Option Value → Heap → List Loc → Prop} (hQ : Q v h locs) {cc ss : Nat} (hc : cells ≤ cc) (hs : slots ≤ ss) :
  own_Go p.tables e below (fun o U' => ∃ v L, o = .returned v ∧ Q v U'.heap L ∧ CHr Z EL s.vm s.heap U'.vm U'.heap ∧ ReturnedEndW s o U' L cc ss) (T.setTop g) := by
 subst eT
 obtain ⟨fs, hr, hrun, hended, hq⟩ := X.leaveW hS hn (v := v) hv hlk
 have Ct : CHr Z EL s.vm s.heap T.vm T.heap := Cr.trans (CHv.at X hZ hEL Cr.1)
 exact ⟨_, _, hst fs hr, hrun, hended, _, _, rfl, hQ, (show CHr Z EL s.vm s.heap (T.setFrames fs).vm (T.setFrames fs).heap from Ct), hq.1, hq.2.1, hq.2.2.1, hq.2.2.2.mono hc hs⟩
theorem own_endW {p : Program} {l : Launch} {e : Env} {R : Room} {s : State} {m : MethodId} {args : Array Value} {below : List Frame} {meth : Method} {c : Code} {T : State} {locs : List Loc} {cells slots : Nat} {vm₁ : Vm} (X : Stand p l e R (s.setVm vm₁) m args below meth c T locs cells slots) {n : Nat} (hS : s.Since vm₁ n) {h : Heap} (eT : T.heap = h) (hn : n ≤ h.size) {v : Option Value} (hv : meth.sig.returnType = none → v = none) (hlk : meth.locks = false) {g : JFrame}
  (hst : ∀ fs, (∀ (f : JFrame) (acts : List Action), f.method = m → f.locked = none → f.entered = [] → (doReturn e (T.setTop f) acts v).1 = T.setFrames fs) → Steps p.tables e below (T.setTop g) (T.setFrames fs))
  {Q : Option Value → Heap → List Loc → Prop} (hQ : Q v h locs) {cc ss : Nat} (hc : cells ≤ cc) (hs : slots ≤ ss) :
  own_Go p.tables e below (fun o U' => ∃ v L, o = .returned v ∧ Q v U'.heap L ∧ ReturnedEndW s o U' L cc ss) (T.setTop g) := by
 subst eT
 obtain ⟨fs, hr, hrun, hended, hq⟩ := X.leaveW hS hn (v := v) hv hlk
 exact ⟨_, _, hst fs hr, hrun, hended, _, _, rfl, hQ, hq.1, hq.2.1, hq.2.2.1, hq.2.2.2.mono hc hs⟩

theorem own_EW {Z : State} {a0 : Array Value} (hw : HW a0 Z) : EW Z a0 consts_1 := EW.cons (text := "") (w_ hw 95 rfl) (by decide) EW.nil
theorem own_atoms {Z : State} {a0 : Array Value} (hw : HW a0 Z) : ∀ a ∈ Bundle.stringAtoms, a.before a0 Z = true := fun a => (fun ha => (List.mem_cons.mp ha).elim (fun e => e ▸ (w_ hw 10 rfl)) (fun ha => (List.mem_cons.mp ha).elim (fun e => e ▸ (w_ hw 9 rfl)) (fun ha => (List.mem_cons.mp ha).elim (fun e => e ▸ (w_ hw 26 rfl)) (fun ha => (List.mem_cons.mp ha).elim (fun e => e ▸ (w_ hw 36 rfl)) (fun ha => (List.mem_cons.mp ha).elim (fun e => e ▸ (w_ hw 34 rfl)) (fun ha => (List.mem_cons.mp ha).elim (fun e => e ▸ (w_ hw 96 rfl)) (fun ha => (List.mem_cons.mp ha).elim (fun e => e ▸ (w_ hw 97 rfl)) (fun ha => nomatch ha))))))))
theorem d4_8 : D4 8 = .ok (.aload_n 0, 1) := by decide +kernel
theorem d4_9 : D4 9 = .ok (.ldc 7, 2) := by decide +kernel
theorem d4_11 : D4 11 = .ok (.getfield 9, 3) := by decide +kernel
theorem d4_14 : D4 14 = .ok (.putfield 9, 3) := by decide +kernel
theorem d4_17 : D4 17 = .ok (.aload_n 0, 1) := by decide +kernel
theorem d4_18 : D4 18 = .ok (.ldc 7, 2) := by decide +kernel
theorem d4_20 : D4 20 = .ok (.getfield 15, 3) := by decide +kernel
theorem d4_23 : D4 23 = .ok (.putfield 15, 3) := by decide +kernel
theorem d4_26 : D4 26 = .ok (.return_, 1) := by decide +kernel
theorem ef_rmiB0 (m : MethodId) (a1 a2 : Addr) : entryFrame m #[(.ref a1), (.ref a2), (.int (0 : Int32)), (.int (0 : Int32)), .null] 6 = mkF m 0 #[rv a1, rv a2, iv 0, iv 0, .val .null, .unset] [] := by first | (simp [entryFrame, mkF, argsToLocals, Value.category]; done) | rfl
def Q_rmiB0 (Z : State) (a0 : Array Value) (a1 a2 : Addr) (h0 : Heap) (n0 : Nat) (v : Option Value) (h : Heap) (L : List Loc) : Prop := ∃ b : Addr, ∃ kb : ClassId, v = none ∧ Fr n0 L ∧ Keep h0 h [a1] ∧ Fld Z h a1 "java/lang/String" "value" "[B" (.ref b) ∧ Fld Z h a1 "java/lang/String" "coder" "B" (.int (0 : Int32)) ∧ Arv Z h b kb .byte (0 : Int32) [] (.int (0 : Int32)) ∧ b ≠ a1
theorem rmiB0 (l : Launch) (Z : State) (a0 : Array Value) (hw : HW a0 Z) (ws : List Jvm.Cond) (a1 a2 : Addr) (h0 : Heap) (n0 : Nat) (Z0 : n0 ≤ h0.size) (E1 : Exa Z h0 a1 "java/lang/String") (g1 : n0 ≤ a1) (F1 : Fld Z h0 a1 "java/lang/String" "value" "[B" .null) (F2 : Fld Z h0 a1 "java/lang/String" "coder" "B" (.int (0 : Int32))) :
  MetFree l y2_ (head1 (Jvm.Cond.code y2_ jdk_42_method_149_code 6 none :: ws) (R_ 1 4 8 12)) (fun a U => a = #[(.ref a1), (.ref a2), (.int (0 : Int32)), (.int (0 : Int32)), .null] ∧ Z.Warmed39 U.vm ∧ U.heap = h0 ∧ CHv Z consts_1 U.vm h0) (fun _ _ _ _ _ => True) (fun _ U o U' => ∃ v L, o = .returned v ∧ Q_rmiB0 Z a0 a1 a2 h0 n0 v U'.heap L ∧ CHr Z consts_1 U.vm U.heap U'.vm U'.heap ∧ ReturnedEndW U o U' L (R_ 1 4 8 12).cells (R_ 1 4 8 12).slots) := by
 refine MetFree.of_bodySF (plainFor_of_name pn_4) hisR ?_
 intro p e s m args below meth c s₁ Bd hml0 hP hK
 obtain ⟨rfl, hZ, hh, hC0⟩ := hP
 have hx := Bd.exec
 have hby := Bd.bytes
 have hml : c.maxLocals = 6 := hml0
 have hown : s.vm.findClass "java/lang/String" = some m.cls := findClass_of_methodNamed Bd.named
 have hnm := (name_of_methodNamed Bd.named Bd.method).1
 have hlk : meth.locks = false := BodyLoose.notSynchronized (by assumption)
 have X0 : Stand p l e (R_ 1 4 8 12) (s.setVm s.vm) m #[(.ref a1), (.ref a2), (.int (0 : Int32)), (.int (0 : Int32)), .null] below meth c s₁ [] 0 0 := Stand.of_body Bd
 have e0 : s₁.heap = h0 := by rw [← hh, Bd.state]; rfl
 have N0 := Fr.nil n0
 have Hq := And.intro hx hby
 have hrt := Bd.returns
 show own_Go p.tables e below (fun o U' => ∃ v L, o = .returned v ∧ Q_rmiB0 Z a0 a1 a2 h0 n0 v U'.heap L ∧ CHr Z consts_1 s.vm s.heap U'.vm U'.heap ∧ ReturnedEndW s o U' L (R_ 1 4 8 12).cells (R_ 1 4 8 12).slots) (s₁.setTop (entryFrame m #[(.ref a1), (.ref a2), (.int (0 : Int32)), (.int (0 : Int32)), .null] 6))
 refine own_st (fun t k => castTop (ef_rmiB0 m a1 a2) k) ?_
 have hEL : EW Z a0 consts_1 := own_EW hw
 have hS0 : s.Since s.vm h0.size := (State.WarmedH.refl s).since _
 have Cr0 : CHr Z consts_1 s.vm s.heap s.vm h0 := by rw [hh]; exact CHr.refl hC0
 show own_Go _ _ _ _ (s₁.setTop (mkF m 0 #[rv a1, rv a2, iv 0, iv 0, .val .null, .unset] []))
 refine o_aloadN X0 Hq d4_0 rfl rfl ?_
 obtain ⟨T_1, X_1, e_1, st_1⟩ := initO X0 hx hZ hown (w_ hw 18 rfl) (w_ hw 19 rfl) (w_ hw 20 rfl) e0 (g := (mkF m 1 #[rv a1, rv a2, iv 0, iv 0, .val .null, .unset] [(.ref a1)])) rfl (by rw [hml]; rfl) rfl (hb hby d4_1) (by decide) (W := 0) (z_ rfl) (by decide)
 refine own_st st_1 ?_
 show own_Go _ _ _ _ (T_1.setTop (mkF m 4 #[rv a1, rv a2, iv 0, iv 0, .val .null, .unset] []))
 refine o_iloadN X_1 Hq d4_4 rfl (o_ifNo X_1 Hq d4_5 (by decide) (o_aloadN X_1 Hq d4_8 rfl rfl ?_))
 have Ks_3 := (Nat.le_refl h0.size)
 obtain ⟨la_2, T_2, h_2, k_2, lb_2, lk_2, X_2, e_2, E_2, hS_2, hk_2, hZ_2, hown_2, LE_2, LC_2, LV_2, LA_2, -, -, Cl_2, -, Sn_2, st_2⟩ := ldcCH X_1 hx hZ hown (w_ hw 95 rfl) (own_atoms hw) e_1 hS0 Ks_3 hEL (List.mem_of_getElem? (i := 0) rfl) Cr0.1 (vs := []) (z := (0 : Int32)) ⟨by decide, rfl⟩ (by decide) rfl (g := (mkF m 9 #[rv a1, rv a2, iv 0, iv 0, .val .null, .unset] [(.ref a1)])) rfl (hb hby d4_9) (n := 0) (by decide) (by decide) (by decide) (by decide)
 have Sl_2_a1 := Cl_2.safe E1.lt (own_safe_null (vm := s.vm) hZ.alike E1 F1 ⟨a0, 4, (w_ hw 9 rfl)⟩)
 have Cr_2 := Cr0.trans Cl_2
 refine own_st st_2 ?_
 show own_Go _ _ _ _ (T_2.setTop (mkF m 11 #[rv a1, rv a2, iv 0, iv 0, .val .null, .unset] [(.ref la_2), (.ref a1)]))
 obtain ⟨T_4, X_4, e_4, st_4⟩ := getF X_2 hx hZ_2 hown_2 (host := "") (Or.inl (w_ hw 35 rfl)) Via.refl e_2 LV_2 (g := (mkF m 11 #[rv a1, rv a2, iv 0, iv 0, .val .null, .unset] [(.ref la_2), (.ref a1)])) rfl rfl (hb hby d4_11)
 refine own_st st_4 ?_
 show own_Go _ _ _ _ (T_4.setTop (mkF m 14 #[rv a1, rv a2, iv 0, iv 0, .val .null, .unset] [(.ref lb_2), (.ref a1)]))
 have Fa_5 := (F1.ext E_2)
 have Fa_6 := (E1.ext E_2)
 obtain ⟨T_7, h_7, X_7, e_7, W_7, st_7⟩ := putF X_4 hx hZ_2 hown_2 (host := "") (Or.inl (w_ hw 35 rfl)) Via.refl e_4 Fa_5 Fa_6 (Or.inr ⟨(w_ hw 36 rfl), rfl, hnm⟩) (w_ hw 9 rfl) (ty := (.array .byte)) (by decide) rfl rfl (g := (mkF m 14 #[rv a1, rv a2, iv 0, iv 0, .val .null, .unset] [(.ref lb_2), (.ref a1)])) rfl rfl (hb hby d4_14)
 refine own_st st_7 ?_
 have N_7 := Fr.snoc X_7 N0 g1
 show own_Go _ _ _ _ (T_7.setTop (mkF m 17 #[rv a1, rv a2, iv 0, iv 0, .val .null, .unset] []))
 refine o_aloadN X_7 Hq d4_17 rfl rfl ?_
 have Cx_9 := CHr.wr W_7 Sl_2_a1 Cr_2.1
 have Sf_9_a1 := Safe.wr W_7 Sl_2_a1 Cr_2.1 Sl_2_a1
 have Cr_9 := Cr_2.trans Cx_9
 have Ks_10 := (Nat.le_trans hk_2 (Keep.of_wr W_7).1)
 obtain ⟨la_8, T_8, h_8, k_8, lb_8, lk_8, X_8, e_8, E_8, hS_8, hk_8, hZ_8, hown_8, LE_8, LC_8, LV_8, LA_8, -, -, Cl_8, -, Sn_8, st_8⟩ := ldcCH X_7 hx hZ_2 hown_2 (w_ hw 95 rfl) (own_atoms hw) e_7 hS_2 Ks_10 hEL (List.mem_of_getElem? (i := 0) rfl) Cr_9.1 (vs := []) (z := (0 : Int32)) ⟨by decide, rfl⟩ (by decide) rfl (g := (mkF m 18 #[rv a1, rv a2, iv 0, iv 0, .val .null, .unset] [(.ref a1)])) rfl (hb hby d4_18) (n := 0) (by decide) (by decide) (by decide) (by decide)
 have Fa_11 := (Fa_6.wr W_7)
 have Sl_8_a1 := Cl_8.safe Fa_11.lt Sf_9_a1
 have Cr_8 := Cr_9.trans Cl_8
 refine own_st st_8 ?_
 show own_Go _ _ _ _ (T_8.setTop (mkF m 20 #[rv a1, rv a2, iv 0, iv 0, .val .null, .unset] [(.ref la_8), (.ref a1)]))
 obtain ⟨T_12, X_12, e_12, st_12⟩ := getF X_8 hx hZ_8 hown_8 (host := "") (Or.inl (w_ hw 33 rfl)) Via.refl e_8 LC_8 (g := (mkF m 20 #[rv a1, rv a2, iv 0, iv 0, .val .null, .unset] [(.ref la_8), (.ref a1)])) rfl rfl (hb hby d4_20)
 refine own_st st_12 ?_
 show own_Go _ _ _ _ (T_12.setTop (mkF m 23 #[rv a1, rv a2, iv 0, iv 0, .val .null, .unset] [(.int 0), (.ref a1)]))
 have Fa_13 := (((F2.ext E_2).other W_7 (Or.inr (slot_ne (Or.inr (w_ hw 34 rfl)) (Or.inr (w_ hw 36 rfl)) (by decide) (t := .byte) (t' := (.array .byte)) (by decide) (by decide)))).ext E_8)
 have Fa_14 := (Fa_11.ext E_8)
 obtain ⟨T_15, h_15, X_15, e_15, W_15, st_15⟩ := putFN X_12 hx hZ_8 hown_8 (w_ hw 33 rfl) Via.refl e_12 Fa_13 Fa_14 (Or.inr ⟨(w_ hw 34 rfl), rfl, hnm⟩) (w_ hw 9 rfl) (ty := .byte) (v' := (.int (0 : Int32))) (by decide) rfl (by decide) (g := (mkF m 23 #[rv a1, rv a2, iv 0, iv 0, .val .null, .unset] [(.int 0), (.ref a1)])) rfl rfl (hb hby d4_23)
 refine own_st st_15 ?_
 have N_15 := Fr.snoc X_15 N_7 g1
 show own_Go _ _ _ _ (T_15.setTop (mkF m 26 #[rv a1, rv a2, iv 0, iv 0, .val .null, .unset] []))
 have Kp_16 : Keep h0 h_15 [a1] := (((((Keep.refl h0 [a1]).ext E_2).wr W_7 (Or.inl (List.mem_of_getElem? (i := 0) rfl))).ext E_8).wr W_15 (Or.inl (List.mem_of_getElem? (i := 0) rfl)))
 have Fa_17 := (((Fa_5.same W_7).ext E_8).other W_15 (Or.inr (slot_ne (Or.inr (w_ hw 36 rfl)) (Or.inr (w_ hw 34 rfl)) (by decide) (t := (.array .byte)) (t' := .byte) (by decide) (by decide))))
 have Fa_18 := (Fa_13.same W_15)
 have Fa_19 := (((LA_2.other W_7 (Ne.symm (Sn_2 _ Sl_2_a1).2)).ext E_8).other W_15 (Ne.symm (Sn_2 _ Sl_2_a1).2))
 have Cx_20 := CHr.wr W_15 Sl_8_a1 Cr_8.1
 have Sf_20_a1 := Safe.wr W_15 Sl_8_a1 Cr_8.1 Sl_8_a1
 have Cr_20 := Cr_8.trans Cx_20
 have Ks_21 := (Nat.le_trans hk_8 (Keep.of_wr W_15).1)
 exact own_endC X_15 hS_8 e_15 Ks_21 (v := none) (fun _ => rfl) hlk (fun fs hr => X_15.returnOut hx hrt (hb hby d4_26) hr) hZ_8 hEL Cr_20 (Q := Q_rmiB0 Z a0 a1 a2 h0 n0) ⟨lb_2, lk_2, rfl, N_15, Kp_16, Fa_17, Fa_18, Fa_19, (Ne.symm (Sn_2 _ Sl_2_a1).2)⟩ (by decide) (by decide)
theorem ef_rmiA0 (m : MethodId) (a1 a2 : Addr) : entryFrame m #[(.ref a1), (.ref a2)] 2 = mkF m 0 #[rv a1, rv a2] [] := by first | (simp [entryFrame, mkF, argsToLocals, Value.category]; done) | rfl
def Q_rmiA0 (Z : State) (a0 : Array Value) (a1 a2 : Addr) (k1 : ClassId) (d1 : Value) (h0 : Heap) (n0 : Nat) (v : Option Value) (h : Heap) (L : List Loc) : Prop := ∃ b : Addr, ∃ kb : ClassId, v = none ∧ Fr n0 L ∧ Keep h0 h [a1] ∧ Fld Z h a1 "java/lang/String" "value" "[B" (.ref b) ∧ Fld Z h a1 "java/lang/String" "coder" "B" (.int (0 : Int32)) ∧ Arv Z h b kb .byte (0 : Int32) [] (.int (0 : Int32)) ∧ b ≠ a1
theorem rmiA0 (l : Launch) (Z : State) (a0 : Array Value) (hw : HW a0 Z) (ws : List Jvm.Cond) (a1 a2 : Addr) (k1 : ClassId) (d1 : Value) (h0 : Heap) (n0 : Nat) (Z0 : n0 ≤ h0.size) (E1 : Exa Z h0 a1 "java/lang/String") (g1 : n0 ≤ a1) (F1 : Fld Z h0 a1 "java/lang/String" "value" "[B" .null) (F2 : Fld Z h0 a1 "java/lang/String" "coder" "B" (.int (0 : Int32))) (V1 : Arv Z h0 a2 k1 .char (0 : Int32) [] d1) :
  MetFree l y3_ (head1 (Jvm.Cond.code y3_ jdk_42_method_3_code 2 none :: ws) (R_ 2 4 8 29)) (fun a U => a = #[(.ref a1), (.ref a2)] ∧ Z.Warmed39 U.vm ∧ U.heap = h0 ∧ CHv Z consts_1 U.vm h0) (fun _ _ _ _ _ => True) (fun _ U o U' => ∃ v L, o = .returned v ∧ Q_rmiA0 Z a0 a1 a2 k1 d1 h0 n0 v U'.heap L ∧ CHr Z consts_1 U.vm U.heap U'.vm U'.heap ∧ ReturnedEndW U o U' L (R_ 2 4 8 29).cells (R_ 2 4 8 29).slots) := by
 refine MetFree.of_bodySF (plainFor_of_name pn_4) hisR ?_
 intro p e s m args below meth c s₁ Bd hml0 hP hK
 obtain ⟨rfl, hZ, hh, hC0⟩ := hP
 have hx := Bd.exec
 have hby := Bd.bytes
 have hml : c.maxLocals = 2 := hml0
 have hown : s.vm.findClass "java/lang/String" = some m.cls := findClass_of_methodNamed Bd.named
 have hnm := (name_of_methodNamed Bd.named Bd.method).1
 have hlk : meth.locks = false := BodyLoose.notSynchronized (by assumption)
 have X0 : Stand p l e (R_ 2 4 8 29) (s.setVm s.vm) m #[(.ref a1), (.ref a2)] below meth c s₁ [] 0 0 := Stand.of_body Bd
 have e0 : s₁.heap = h0 := by rw [← hh, Bd.state]; rfl
 have N0 := Fr.nil n0
 have Hq := And.intro hx hby
 have hrt := Bd.returns
 show own_Go p.tables e below (fun o U' => ∃ v L, o = .returned v ∧ Q_rmiA0 Z a0 a1 a2 k1 d1 h0 n0 v U'.heap L ∧ CHr Z consts_1 s.vm s.heap U'.vm U'.heap ∧ ReturnedEndW s o U' L (R_ 2 4 8 29).cells (R_ 2 4 8 29).slots) (s₁.setTop (entryFrame m #[(.ref a1), (.ref a2)] 2))
 refine own_st (fun t k => castTop (ef_rmiA0 m a1 a2) k) ?_
 have hEL : EW Z a0 consts_1 := own_EW hw
 have hS0 : s.Since s.vm h0.size := (State.WarmedH.refl s).since _
 have Cr0 : CHr Z consts_1 s.vm s.heap s.vm h0 := by rw [hh]; exact CHr.refl hC0
 show own_Go _ _ _ _ (s₁.setTop (mkF m 0 #[rv a1, rv a2] []))
 refine o_aloadN X0 Hq d3_0 rfl rfl (o_aloadN X0 Hq d3_1 rfl rfl (o_iconst X0 Hq 0 d3_2 rfl (o_aloadN X0 Hq d3_3 rfl rfl ?_)))
 obtain ⟨cl_1, Ar_1, qk_1, Sz_1, Ng_1, Hs_1, Gs_1⟩ := id V1
 refine own_st (X0.arraylength hx (by rw [e0]; exact Ar_1.1) (State.isArrayOf_alike hZ.alike Ar_1.2.1) (g := (mkF m 4 #[rv a1, rv a2] [(.ref a2), (.int 0), (.ref a2), (.ref a1)])) rfl rfl (hb hby d3_4)) ?_
 rw [len_of Sz_1 Ng_1]
 show own_Go _ _ _ _ (s₁.setTop (mkF m 5 #[rv a1, rv a2] [(.int 0), (.int 0), (.ref a2), (.ref a1)]))
 refine o_aconstNull X0 Hq d3_5 ?_
 have Ks_3 := (Nat.le_refl h0.size)
 obtain ⟨_, _, ⟨T_2, L_2, k_2, n_2⟩, -, X_2, hSq_2, hgq_2, ⟨Lc_2, hQ_2, l_2, y_2, z_2, hCq_2⟩, st_2⟩ := X0.specialBackS hx (y := y2_) rfl hown (v_ hZ hw 14 rfl) (v_ hZ hw 15 rfl) (v_ hZ hw 17 rfl) (by decide) (backOfSH (W := 0) (rmiB0 l Z a0 hw [] a1 a2  h0 n0 Z0 E1 g1 F1 F2) hZ (w_ hw 17 rfl) (w_ hw 10 rfl) (by decide) (by decide) hEL Cr0.1) (g := (mkF m 6 #[rv a1, rv a2] [.null, (.int 0), (.int 0), (.ref a2), (.ref a1)])) rfl (by rw [hml]; rfl) (Steps.refl _) (a := a1) (argsL := [(.ref a2), (.int 0), (.int 0), .null]) (rest := []) (lenOf pd_4 rfl) rfl (z_ rfl) (hb hby d3_6) (fun _ _ => ⟨rfl, e0, (by decide : 0 + 4 ≤ _), (by decide : 0 + 8 ≤ _)⟩)
 dsimp only [Pt.U, Pt.locs, Pt.cells, Pt.slots] at X_2 l_2 y_2 z_2 st_2 hQ_2 hSq_2 hgq_2 hCq_2
 subst l_2 y_2 z_2
 obtain ⟨Xr_2, hSr_2, hZr_2, hownr_2⟩ := rebS hS0 (Nat.le_trans Ks_3 (Nat.le_of_eq (congrArg Array.size (e0).symm))) X_2 hSq_2 hgq_2 hZ hown
 obtain ⟨b__2, kb__2, rfl, Nq_2, K_2, Fq_2_0, Fq_2_1, Fq_2_2, Fq_2_3⟩ := hQ_2
 have N_2 := Fr.app N0 Nq_2
 have Cr_2 := Cr0.trans hCq_2
 refine own_tr st_2 ?_
 show own_Go _ _ _ _ (T_2.setTop (mkF m 9 #[rv a1, rv a2] []))
 have Kp_4 : Keep h0 T_2.heap [a1] := ((Keep.refl h0 [a1]).trans K_2 (allS (Or.inl (List.mem_of_getElem? (i := 0) rfl)) all0))
 have Ks_5 := (Nat.le_refl T_2.heap.size)
 exact own_endC Xr_2 hSr_2 rfl Ks_5 (v := none) (fun _ => rfl) hlk (fun fs hr => Xr_2.returnOut hx hrt (hb hby d3_9) hr) hZr_2 hEL Cr_2 (Q := Q_rmiA0 Z a0 a1 a2 k1 d1 h0 n0) ⟨b__2, kb__2, rfl, N_2, Kp_4, Fq_2_0, Fq_2_1, Fq_2_2, Fq_2_3⟩ (by decide) (by decide)
theorem own_nc {c : Int32} (h1 : ¬ (255 : Int32) < c) (h0 : ¬ c < 0) : nar .char c = c := by
 show c.toUInt32.toUInt16.toUInt32.toInt32 = c
 have h := c_i2c c
 rw [Int32.lt_iff_toInt_lt] at h0 h1
 have e1 : (255 : Int32).toInt = 255 := rfl
 have e2 : (0 : Int32).toInt = 0 := rfl
 apply Int32.toInt_inj.mp
 omega
theorem own_back {c : Int32} (h1 : ¬ (255 : Int32) < c) (h0 : ¬ c < 0) : nar .char ((((c.toInt8.toInt32).toInt8.toInt32) &&& (255 : Int32)).toUInt32.toUInt16.toUInt32.toInt32) = c := by
 have a1 := c_i2b c
 have a2 := c_i2b c.toInt8.toInt32
 have a3 : (((c.toInt8.toInt32).toInt8.toInt32) &&& (255 : Int32)).toInt = ((c.toInt8.toInt32).toInt8.toInt32).toInt % 256 := c_mask _ 255 8 (by decide) rfl
 have e : (((c.toInt8.toInt32).toInt8.toInt32) &&& (255 : Int32)) = c := by
  rw [Int32.lt_iff_toInt_lt] at h0 h1
  have e1 : (255 : Int32).toInt = 255 := rfl
  have e2 : (0 : Int32).toInt = 0 := rfl
  apply Int32.toInt_inj.mp
  omega
 rw [e]
 have n := own_nc h1 h0
 have n' : c.toUInt32.toUInt16.toUInt32.toInt32 = c := n
 rw [n']; exact n
theorem own_shr0 (N : Int32) : N >>> ((0 : Int32) &&& 31) = N := by
 apply Int32.toInt_inj.mp
 have h := c_ishr N (0 : Int32) 0 rfl
 rw [h]; simp
theorem pn_19 : plainName "jdk/internal/util/Preconditions" = true := by first | (simp [plainName, overriddenIn]; done) | decide +kernel
abbrev D19 := decode jdk_41_method_11_code
theorem d19_0 : D19 0 = .ok (.iload_n 0, 1) := by decide +kernel
theorem d19_1 : D19 1 = .ok (.ifCond .lt 8, 3) := by decide +kernel
theorem d19_4 : D19 4 = .ok (.iload_n 0, 1) := by decide +kernel
theorem d19_5 : D19 5 = .ok (.iload_n 1, 1) := by decide +kernel
theorem d19_6 : D19 6 = .ok (.if_icmp .lt 10, 3) := by decide +kernel
theorem d19_16 : D19 16 = .ok (.iload_n 0, 1) := by decide +kernel
theorem d19_17 : D19 17 = .ok (.ireturn, 1) := by decide +kernel
def Q_rmpre0 (Z : State) (a0 : Array Value) (p1 p2 : Int32) (a3 : Addr) (h0 : Heap) (n0 : Nat) (v : Option Value) (h : Heap) (L : List Loc) : Prop := v = some (.int p1) ∧ Fr n0 L ∧ h = h0
theorem rmpre0 (hw : HW a0 Z) (p1 p2 : Int32) (a3 : Addr) (h0 : Heap) (n0 : Nat) (Z0 : n0 ≤ h0.size) (hi0 : ¬ p1 < 0) (hi1 : p1 < p2) :
  own_Met l y11_ jdk_41_method_11_code 3 (some .int) (R_ 0 0 0 0) #[(.int p1), (.int p2), (.ref a3)] Z h0 (Q_rmpre0 Z a0 p1 p2 a3 h0 n0) := by
 refine own_bd (own := "jdk/internal/util/Preconditions") rfl (plainFor_of_name pn_19) #[iv p1, iv p2, rv a3] ?_
 intro p e s m below meth c s₁ hx hby Hq hml hown hnm hlk hrt hZ X0 e0
 refine o_iloadN X0 Hq d19_0 rfl (o_ifNo X0 Hq d19_1 (flt hi0).1 (o_iloadN X0 Hq d19_4 rfl (o_iloadN X0 Hq d19_5 rfl (o_icmpYes X0 Hq (pc' := 16) d19_6 (tlt hi1).1 (o_iloadN X0 Hq d19_16 rfl ?_)))))
 exact e_I X0 e0 Hq hlk hrt d19_17 ⟨rfl, (Fr.nil n0), rfl⟩
def Q_rmpre1 (Z : State) (a0 : Array Value) (p1 p2 : Int32) (h0 : Heap) (n0 : Nat) (v : Option Value) (h : Heap) (L : List Loc) : Prop := v = some (.int p1) ∧ Fr n0 L ∧ h = h0
theorem rmpre1 (hw : HW a0 Z) (p1 p2 : Int32) (h0 : Heap) (n0 : Nat) (Z0 : n0 ≤ h0.size) (hi0 : ¬ p1 < 0) (hi1 : p1 < p2) :
  own_Met l y11_ jdk_41_method_11_code 3 (some .int) (R_ 0 0 0 0) #[(.int p1), (.int p2), .null] Z h0 (Q_rmpre1 Z a0 p1 p2 h0 n0) := by
 refine own_bd (own := "jdk/internal/util/Preconditions") rfl (plainFor_of_name pn_19) #[iv p1, iv p2, .val .null] ?_
 intro p e s m below meth c s₁ hx hby Hq hml hown hnm hlk hrt hZ X0 e0
 refine o_iloadN X0 Hq d19_0 rfl (o_ifNo X0 Hq d19_1 (flt hi0).1 (o_iloadN X0 Hq d19_4 rfl (o_iloadN X0 Hq d19_5 rfl (o_icmpYes X0 Hq (pc' := 16) d19_6 (tlt hi1).1 (o_iloadN X0 Hq d19_16 rfl ?_)))))
 exact e_I X0 e0 Hq hlk hrt d19_17 ⟨rfl, (Fr.nil n0), rfl⟩
abbrev D18 := decode jdk_42_method_155_code
theorem d18_0 : D18 0 = .ok (.iload_n 0, 1) := by decide +kernel
theorem d18_1 : D18 1 = .ok (.iload_n 1, 1) := by decide +kernel
theorem d18_2 : D18 2 = .ok (.getstatic 1053, 3) := by decide +kernel
theorem d18_5 : D18 5 = .ok (.invokestatic 1059, 3) := by decide +kernel
theorem pd_5 : parseMethodDescriptor "(IILjava/util/function/BiFunction;)I" = some ⟨[.int, .int, (.object "java/util/function/BiFunction")], some .int⟩ := by decide +kernel
theorem k18_1059 {a0 : Array Value} {Z : State} (hw : HW a0 Z) : own_KS a0 Z "java/lang/String" "" 1059 y11_ y11_ jdk_41_method_11_code 3 (some .int) 3 := ⟨⟨(w_ hw 92 rfl), ⟨_, _, pd_5, rfl⟩, by decide⟩, (w_ hw 93 rfl), (w_ hw 91 rfl), (w_ hw 94 rfl)⟩
theorem d18_8 : D18 8 = .ok (.pop, 1) := by decide +kernel
theorem d18_9 : D18 9 = .ok (.return_, 1) := by decide +kernel
def Q_rm18 (Z : State) (a0 : Array Value) (p1 p2 : Int32) (sfv : Value) (h0 : Heap) (n0 : Nat) (v : Option Value) (h : Heap) (L : List Loc) : Prop := v = none ∧ Fr n0 L ∧ h = h0
theorem rm18 (hw : HW a0 Z) (p1 p2 : Int32) (sfv : Value) (h0 : Heap) (n0 : Nat) (Z0 : n0 ≤ h0.size) (S2 : Sta Z h0 "jdk/internal/util/Preconditions" "SIOOBE_FORMATTER" "Ljava/util/function/BiFunction;" sfv) (hsf : sfv.isRef = true) (hi0 : ¬ p1 < 0) (hi1 : p1 < p2) :
  own_Met l y12_ jdk_42_method_155_code 2 none (R_ 1 0 0 14) #[(.int p1), (.int p2)] Z h0 (Q_rm18 Z a0 p1 p2 sfv h0 n0) := by
 refine own_bd (own := "java/lang/String") rfl (plainFor_of_name pn_4) #[iv p1, iv p2] ?_
 intro p e s m below meth c s₁ hx hby Hq hml hown hnm hlk hrt hZ X0 e0
 rcases ref_cases hsf with hE | ⟨sf, hE⟩
 ·have S2x : Sta Z h0 "jdk/internal/util/Preconditions" "SIOOBE_FORMATTER" "Ljava/util/function/BiFunction;" .null := hE ▸ S2
  refine o_iloadN X0 Hq d18_0 rfl (o_iloadN X0 Hq d18_1 rfl ?_)
  obtain ⟨T_1, X_1, e_1, st_1⟩ := getS2 X0 hx hZ hown (host := "") (Or.inl (w_ hw 90 rfl)) Via.refl e0 S2x (g := (mkF m 2 #[iv p1, iv p2] [(.int p2), (.int p1)])) rfl (hb hby d18_2)
  refine own_st st_1 ?_
  show own_Go _ _ _ _ (T_1.setTop (mkF m 5 #[iv p1, iv p2] [.null, (.int p2), (.int p1)]))
  refine c_S3 X_1 Hq e_1 hZ hown hml (k18_1059 hw) (rmpre1 hw p1 p2  h0 n0 Z0 hi0 hi1) d18_5 ?_ 0
  rintro T_2 L_2 _ X_2 ⟨⟨⟩, Nq_2, e_2⟩
  have N_2 := Fr.app (Fr.nil n0) Nq_2
  refine o_pop X_2 Hq d18_8 rfl ?_
  exact e_V X_2 e_2 Hq hlk hrt d18_9 ⟨rfl, N_2, rfl⟩
 ·have S2x : Sta Z h0 "jdk/internal/util/Preconditions" "SIOOBE_FORMATTER" "Ljava/util/function/BiFunction;" (.ref sf) := hE ▸ S2
  refine o_iloadN X0 Hq d18_0 rfl (o_iloadN X0 Hq d18_1 rfl ?_)
  obtain ⟨T_3, X_3, e_3, st_3⟩ := getS2 X0 hx hZ hown (host := "") (Or.inl (w_ hw 90 rfl)) Via.refl e0 S2x (g := (mkF m 2 #[iv p1, iv p2] [(.int p2), (.int p1)])) rfl (hb hby d18_2)
  refine own_st st_3 ?_
  show own_Go _ _ _ _ (T_3.setTop (mkF m 5 #[iv p1, iv p2] [(.ref sf), (.int p2), (.int p1)]))
  refine c_S3 X_3 Hq e_3 hZ hown hml (k18_1059 hw) (rmpre0 hw p1 p2 sf  h0 n0 Z0 hi0 hi1) d18_5 ?_ 0
  rintro T_4 L_4 _ X_4 ⟨⟨⟩, Nq_4, e_4⟩
  have N_4 := Fr.app (Fr.nil n0) Nq_4
  refine o_pop X_4 Hq d18_8 rfl ?_
  exact e_V X_4 e_4 Hq hlk hrt d18_9 ⟨rfl, N_4, rfl⟩
theorem pn_17 : plainName "java/lang/StringLatin1" = true := by first | (simp [plainName, overriddenIn]; done) | decide +kernel
abbrev D17 := decode jdk_43_method_2_code
theorem d17_0 : D17 0 = .ok (.iload_n 1, 1) := by decide +kernel
theorem d17_1 : D17 1 = .ok (.aload_n 0, 1) := by decide +kernel
theorem d17_2 : D17 2 = .ok (.arraylength, 1) := by decide +kernel
theorem d17_3 : D17 3 = .ok (.invokestatic 9, 3) := by decide +kernel
theorem pd_6 : parseMethodDescriptor "(II)V" = some ⟨[.int, .int], none⟩ := by decide +kernel
section Sm
variable {p : Program} {l : Launch} {e : Env} {R : Room} {s : State} {m : MethodId} {args : Array Value} {below : List Frame} {meth : Method} {c : Code} {T : State} {locs : List Loc} {cells slots : Nat} {P : Outcome → State → Prop} {pc : Nat} {Ls : Array Slot} {st : List Value}
theorem c_S2v (X : Stand p l e R s m args below meth c T locs cells slots) {cb : ByteArray} (hq : p.tables.exec = Jvm.exec ∧ c.code = cb) {Z : State} {a0 : Array Value} {h : Heap} {own C : String} {index : Nat} {y z : MethodName} {bytes : ByteArray} {maxL ML : Nat} {ret : Option FieldType} {rm : Room} {Q : Option Value → Heap → List Loc → Prop} {v1 v2 : Value}
  (eT : T.heap = h) (hZ : Z.Warmed39 s.vm) (hown : s.vm.findClass own = some m.cls) (hml : c.maxLocals = ML) (hK : own_KS a0 Z own C index y z bytes maxL ret 2) (hM : own_Met l y bytes maxL ret rm #[v1, v2] Z h Q)
  (hd : decode cb pc = .ok (.invokestatic index, 3)) 
  (k : ∀ (T' : State) (L : List Loc), Stand p l e R s m args below meth c T' (locs ++ L) (cells + rm.cells) (slots + rm.slots) → Q none T'.heap L → own_Go p.tables e below P (T'.setTop (mkF m (pc + 3) Ls st))) (W : Nat) (hsz : Ls.size = ML := by rfl) (hW : (st.map fun v => v.category).sum = W := by rfl) (sd : rm.frames + 1 ≤ R.frames ∧ W + (maxL + 11) + rm.locals ≤ R.locals ∧ cells + rm.cells ≤ R.cells ∧ slots + rm.slots ≤ R.slots := by decide) (hv : ∀ v h L, Q v h L → v = none := by intro v h L q; first | exact id q.1 | (obtain ⟨_, q⟩ := q; exact id q.1) | (obtain ⟨_, _, q⟩ := q; exact id q.1) | (obtain ⟨_, _, _, q⟩ := q; exact id q.1)) : own_Go p.tables e below P (T.setTop (mkF m pc Ls (v2 :: v1 :: st))) := by
 obtain ⟨⟨w1, ⟨ps, r, hp, hlen⟩, hy⟩, w2, w3, w4⟩ := hK
 obtain ⟨v, vm1, ⟨T', L0, k0, n0⟩, -, X', ⟨L, hQ, e1, e2, e3⟩, hst⟩ := Jvm.LawKit.callS X hq.1 (y := y) hown (mvT hZ w1) (mvT hZ w2) (mvT hZ w3) (mvT hZ w4) hy (backOf (W := W) (Q := Q) hM hZ w4 w3 sd.1 sd.2.1) (g := mkF m pc Ls (v2 :: v1 :: st)) rfl (by rw [hml]; exact hsz) (argsL := [v1, v2]) (rest := st) (lenOf hp hlen) rfl (by show 2 * 0 + _ ≤ _; rw [Nat.mul_zero, Nat.zero_add]; exact Nat.le_of_eq hW) (hb hq.2 hd) (fun _ _ => ⟨rfl, eT, sd.2.2.1, sd.2.2.2⟩)
 dsimp only [Pt.U, Pt.locs, Pt.cells, Pt.slots] at X' e1 e2 e3 hst hQ
 subst e1 e2 e3
 obtain rfl := hv _ _ _ hQ
 exact own_st hst (k _ _ X' hQ)
end Sm
theorem k17_9 {a0 : Array Value} {Z : State} (hw : HW a0 Z) : own_KS a0 Z "java/lang/StringLatin1" "" 9 y12_ y12_ jdk_42_method_155_code 2 none 2 := ⟨⟨(w_ hw 87 rfl), ⟨_, _, pd_6, rfl⟩, by decide⟩, (w_ hw 88 rfl), (w_ hw 10 rfl), (w_ hw 89 rfl)⟩
theorem d17_6 : D17 6 = .ok (.aload_n 0, 1) := by decide +kernel
theorem d17_7 : D17 7 = .ok (.iload_n 1, 1) := by decide +kernel
theorem d17_8 : D17 8 = .ok (.baload, 1) := by decide +kernel
theorem d17_9 : D17 9 = .ok (.sipush 255, 3) := by decide +kernel
theorem d17_12 : D17 12 = .ok (.iand, 1) := by decide +kernel
theorem d17_13 : D17 13 = .ok (.i2c, 1) := by decide +kernel
theorem d17_14 : D17 14 = .ok (.ireturn, 1) := by decide +kernel
section Sm
variable {p : Program} {l : Launch} {e : Env} {R : Room} {s : State} {m : MethodId} {args : Array Value} {below : List Frame} {meth : Method} {c : Code} {T : State} {locs : List Loc} {cells slots : Nat} {P : Outcome → State → Prop} {pc : Nat} {Ls : Array Slot} {st : List Value}
theorem e_C (X : Stand p l e R s m args below meth c T locs cells slots) {h : Heap} (eT : T.heap = h) {cb : ByteArray} (hq : p.tables.exec = Jvm.exec ∧ c.code = cb) (hlk : meth.locks = false) {z : Int32} {rest : List Value} (hrt : meth.sig.returnType = some .char) (hd : decode cb pc = .ok (.ireturn, 1)) {Q : Option Value → Heap → List Loc → Prop} (hQ : Q (some (.int (nar .char z))) h locs) (hcs : cells ≤ R.cells ∧ slots ≤ R.slots := by decide) :
  own_Go p.tables e below (own_P s Q R) (T.setTop (mkF m pc Ls (.int z :: rest))) := own_end X eT (v := (some (.int (nar .char z)))) (fun h => by rw [hrt] at h; cases h) hlk (fun fs hr => retN X hq.1 (z := z) (t := .char) hrt (by simp) (hb hq.2 hd) hr) (Q := Q) hQ hcs.1 hcs.2
end Sm
def Q_rm17 (Z : State) (a0 : Array Value) (a1 : Addr) (p2 : Int32) (k1 : ClassId) (N : Int32) (vs : List Value) (d1 sfv : Value) (x y : Int32) (h0 : Heap) (n0 : Nat) (v : Option Value) (h : Heap) (L : List Loc) : Prop := v = some (.int y) ∧ Fr n0 L ∧ h = h0
theorem rm17 (hw : HW a0 Z) (a1 : Addr) (p2 : Int32) (k1 : ClassId) (N : Int32) (vs : List Value) (d1 sfv : Value) (x y : Int32) (h0 : Heap) (n0 : Nat) (Z0 : n0 ≤ h0.size) (V1 : Arv Z h0 a1 k1 .byte N vs d1) (hi0 : ¬ p2 < 0) (hi1 : p2 < N) (hx1 : vs.getD p2.toNatClampNeg d1 = .int x) (hy1 : nar .char ((x &&& (255 : Int32)).toUInt32.toUInt16.toUInt32.toInt32) = y) (S2 : Sta Z h0 "jdk/internal/util/Preconditions" "SIOOBE_FORMATTER" "Ljava/util/function/BiFunction;" sfv) (hsf : sfv.isRef = true) :
  own_Met l y13_ jdk_43_method_2_code 2 (some .char) (R_ 2 0 0 27) #[(.ref a1), (.int p2)] Z h0 (Q_rm17 Z a0 a1 p2 k1 N vs d1 sfv x y h0 n0) := by
 refine own_bd (own := "java/lang/StringLatin1") rfl (plainFor_of_name pn_17) #[rv a1, iv p2] ?_
 intro p e s m below meth c s₁ hx hby Hq hml hown hnm hlk hrt hZ X0 e0
 refine o_iloadN X0 Hq d17_0 rfl (o_aloadN X0 Hq d17_1 rfl rfl ?_)
 obtain ⟨cl_1, Ar_1, qk_1, Sz_1, Ng_1, Hs_1, Gs_1⟩ := id V1
 refine own_st (X0.arraylength hx (by rw [e0]; exact Ar_1.1) (State.isArrayOf_alike hZ.alike Ar_1.2.1) (g := (mkF m 2 #[rv a1, iv p2] [(.ref a1), (.int p2)])) rfl rfl (hb hby d17_2)) ?_
 rw [len_of Sz_1 Ng_1]
 show own_Go _ _ _ _ (s₁.setTop (mkF m 3 #[rv a1, iv p2] [(.int N), (.int p2)]))
 refine c_S2v X0 Hq e0 hZ hown hml (k17_9 hw) (rm18 hw p2 N sfv h0 n0 Z0 S2 hsf hi0 hi1) d17_3 ?_ 0
 rintro T_2 L_2 X_2 ⟨-, Nq_2, e_2⟩
 have N_2 := Fr.app (Fr.nil n0) Nq_2
 refine o_aloadN X_2 Hq d17_6 rfl rfl (o_iloadN X_2 Hq d17_7 rfl ?_)
 obtain ⟨cl_3, Ar_3, qk_3, Sz_3, Ng_3, Hs_3, Gs_3⟩ := id V1
 refine own_st (X_2.baloadBytes hx (j := p2) (v := (.int x)) (by rw [e_2]; exact Ar_3.1) (State.isArrayOf_alike hZ.alike Ar_3.2.1) Ar_3.2.2 (inb_of Sz_3 ⟨hi0, hi1⟩) (Hs_3.at (j := p2) (inb_of Sz_3 ⟨hi0, hi1⟩) hx1) (g := (mkF m 8 #[rv a1, iv p2] [(.int p2), (.ref a1)])) rfl rfl (hb hby d17_8)) ?_
 show own_Go _ _ _ _ (T_2.setTop (mkF m 9 #[rv a1, iv p2] [(.int x)]))
 refine o_sipush X_2 Hq 255 d17_9 rfl (o_iand X_2 Hq d17_12 (o_i2c X_2 Hq d17_13 ?_))
 exact e_C X_2 e_2 Hq hlk hrt d17_14 ⟨(congrArg (fun z => some (Value.int z)) hy1), N_2, rfl⟩
abbrev D16 := decode jdk_42_method_154_code
theorem d16_0 : D16 0 = .ok (.getstatic 38, 3) := by decide +kernel
theorem d16_3 : D16 3 = .ok (.ifCond .eq 14, 3) := by decide +kernel
theorem d16_6 : D16 6 = .ok (.aload_n 0, 1) := by decide +kernel
theorem d16_7 : D16 7 = .ok (.getfield 15, 3) := by decide +kernel
theorem d16_10 : D16 10 = .ok (.ifCond .ne 7, 3) := by decide +kernel
theorem d16_13 : D16 13 = .ok (.iconst 1, 1) := by decide +kernel
theorem d16_14 : D16 14 = .ok (.goto 4, 3) := by decide +kernel
theorem d16_18 : D16 18 = .ok (.ireturn, 1) := by decide +kernel
section Sm
variable {p : Program} {l : Launch} {e : Env} {R : Room} {s : State} {m : MethodId} {args : Array Value} {below : List Frame} {meth : Method} {c : Code} {T : State} {locs : List Loc} {cells slots : Nat} {P : Outcome → State → Prop} {pc : Nat} {Ls : Array Slot} {st : List Value}
theorem e_Z (X : Stand p l e R s m args below meth c T locs cells slots) {h : Heap} (eT : T.heap = h) {cb : ByteArray} (hq : p.tables.exec = Jvm.exec ∧ c.code = cb) (hlk : meth.locks = false) {z : Int32} {rest : List Value} (hrt : meth.sig.returnType = some .boolean) (hd : decode cb pc = .ok (.ireturn, 1)) {Q : Option Value → Heap → List Loc → Prop} (hQ : Q (some (.int (nar .boolean z))) h locs) (hcs : cells ≤ R.cells ∧ slots ≤ R.slots := by decide) :
  own_Go p.tables e below (own_P s Q R) (T.setTop (mkF m pc Ls (.int z :: rest))) := own_end X eT (v := (some (.int (nar .boolean z)))) (fun h => by rw [hrt] at h; cases h) hlk (fun fs hr => retN X hq.1 (z := z) (t := .boolean) hrt (by simp) (hb hq.2 hd) hr) (Q := Q) hQ hcs.1 hcs.2
end Sm
def Q_rm16 (Z : State) (a0 : Array Value) (a1 : Addr) (w : Int32) (h0 : Heap) (n0 : Nat) (v : Option Value) (h : Heap) (L : List Loc) : Prop := v = some (.int (1 : Int32)) ∧ Fr n0 L ∧ h = h0
theorem rm16 (hw : HW a0 Z) (a1 : Addr) (w : Int32) (h0 : Heap) (n0 : Nat) (Z0 : n0 ≤ h0.size) (F2 : Fld Z h0 a1 "java/lang/String" "coder" "B" (.int (0 : Int32))) (S1 : Sta Z h0 "java/lang/String" "COMPACT_STRINGS" "Z" (.int w)) (hw0 : ¬ w = (0 : Int32)) :
  own_Met l y14_ jdk_42_method_154_code 1 (some .boolean) (R_ 0 0 0 0) #[(.ref a1)] Z h0 (Q_rm16 Z a0 a1 w h0 n0) := by
 refine own_bd (own := "java/lang/String") rfl (plainFor_of_name pn_4) #[rv a1] ?_
 intro p e s m below meth c s₁ hx hby Hq hml hown hnm hlk hrt hZ X0 e0
 obtain ⟨T_1, X_1, e_1, st_1⟩ := getS2 X0 hx hZ hown (host := "") (Or.inl (w_ hw 21 rfl)) Via.refl e0 S1 (g := (mkF m 0 #[rv a1] [])) rfl (hb hby d16_0)
 refine own_st st_1 ?_
 show own_Go _ _ _ _ (T_1.setTop (mkF m 3 #[rv a1] [(.int w)]))
 refine o_ifNo X_1 Hq d16_3 (feq hw0).1 (o_aloadN X_1 Hq d16_6 rfl rfl ?_)
 obtain ⟨T_2, X_2, e_2, st_2⟩ := getF X_1 hx hZ hown (host := "") (Or.inl (w_ hw 33 rfl)) Via.refl e_1 F2 (g := (mkF m 7 #[rv a1] [(.ref a1)])) rfl rfl (hb hby d16_7)
 refine own_st st_2 ?_
 show own_Go _ _ _ _ (T_2.setTop (mkF m 10 #[rv a1] [(.int 0)]))
 refine o_ifNo X_2 Hq d16_10 (by decide) (o_iconst X_2 Hq 1 d16_13 rfl (o_goto X_2 Hq (pc' := 18) d16_14 ?_))
 exact e_Z X_2 e_2 Hq hlk hrt d16_18 ⟨rfl, (Fr.nil n0), rfl⟩
abbrev D11 := decode jdk_42_method_152_code
theorem d11_0 : D11 0 = .ok (.getstatic 38, 3) := by decide +kernel
theorem d11_3 : D11 3 = .ok (.ifCond .eq 10, 3) := by decide +kernel
theorem d11_6 : D11 6 = .ok (.aload_n 0, 1) := by decide +kernel
theorem d11_7 : D11 7 = .ok (.getfield 15, 3) := by decide +kernel
theorem d11_10 : D11 10 = .ok (.goto 4, 3) := by decide +kernel
theorem d11_14 : D11 14 = .ok (.ireturn, 1) := by decide +kernel
def Q_rm11 (Z : State) (a0 : Array Value) (a1 : Addr) (w : Int32) (h0 : Heap) (n0 : Nat) (v : Option Value) (h : Heap) (L : List Loc) : Prop := v = some (.int (0 : Int32)) ∧ Fr n0 L ∧ h = h0
theorem rm11 (hw : HW a0 Z) (a1 : Addr) (w : Int32) (h0 : Heap) (n0 : Nat) (Z0 : n0 ≤ h0.size) (F2 : Fld Z h0 a1 "java/lang/String" "coder" "B" (.int (0 : Int32))) (S1 : Sta Z h0 "java/lang/String" "COMPACT_STRINGS" "Z" (.int w)) (hw0 : ¬ w = (0 : Int32)) :
  own_Met l y15_ jdk_42_method_152_code 1 (some .byte) (R_ 0 0 0 0) #[(.ref a1)] Z h0 (Q_rm11 Z a0 a1 w h0 n0) := by
 refine own_bd (own := "java/lang/String") rfl (plainFor_of_name pn_4) #[rv a1] ?_
 intro p e s m below meth c s₁ hx hby Hq hml hown hnm hlk hrt hZ X0 e0
 obtain ⟨T_1, X_1, e_1, st_1⟩ := getS2 X0 hx hZ hown (host := "") (Or.inl (w_ hw 21 rfl)) Via.refl e0 S1 (g := (mkF m 0 #[rv a1] [])) rfl (hb hby d11_0)
 refine own_st st_1 ?_
 show own_Go _ _ _ _ (T_1.setTop (mkF m 3 #[rv a1] [(.int w)]))
 refine o_ifNo X_1 Hq d11_3 (feq hw0).1 (o_aloadN X_1 Hq d11_6 rfl rfl ?_)
 obtain ⟨T_2, X_2, e_2, st_2⟩ := getF X_1 hx hZ hown (host := "") (Or.inl (w_ hw 33 rfl)) Via.refl e_1 F2 (g := (mkF m 7 #[rv a1] [(.ref a1)])) rfl rfl (hb hby d11_7)
 refine own_st st_2 ?_
 show own_Go _ _ _ _ (T_2.setTop (mkF m 10 #[rv a1] [(.int 0)]))
 refine o_goto X_2 Hq (pc' := 14) d11_10 ?_
 exact e_B X_2 e_2 Hq hlk hrt d11_14 ⟨rfl, (Fr.nil n0), rfl⟩
abbrev D10 := decode jdk_42_method_54_code
theorem d10_0 : D10 0 = .ok (.aload_n 0, 1) := by decide +kernel
theorem d10_1 : D10 1 = .ok (.getfield 9, 3) := by decide +kernel
theorem d10_4 : D10 4 = .ok (.arraylength, 1) := by decide +kernel
theorem d10_5 : D10 5 = .ok (.aload_n 0, 1) := by decide +kernel
theorem d10_6 : D10 6 = .ok (.invokevirtual 335, 3) := by decide +kernel
theorem pd_7 : parseMethodDescriptor "()B" = some ⟨[], some .byte⟩ := by decide +kernel
def own_KU (a0 : Array Value) (Z : State) (own C : String) (index : Nat) (y z : MethodName) (bytes : ByteArray) (maxL : Nat) (ret : Option FieldType) (k : Nat) : Prop := ((Jvm.Cond.methodLink own index y).before a0 Z = true ∧ (∃ ps r, parseMethodDescriptor y.desc = some ⟨ps, r⟩ ∧ k = ps.length) ∧ (y.cls ≠ "java/lang/invoke/MethodHandle" ∧ y.cls ≠ "java/lang/invoke/VarHandle")) ∧ (Jvm.Cond.declares y).before a0 Z = true ∧ (Jvm.Cond.selects C y y).before a0 Z = true ∧ (Jvm.Cond.instanceMethod y).before a0 Z = true ∧ (Jvm.Cond.initialized y.cls).before a0 Z = true ∧ (Jvm.Cond.code y bytes maxL ret).before a0 Z = true
section Sm
variable {p : Program} {l : Launch} {e : Env} {R : Room} {s : State} {m : MethodId} {args : Array Value} {below : List Frame} {meth : Method} {c : Code} {T : State} {locs : List Loc} {cells slots : Nat} {P : Outcome → State → Prop} {pc : Nat} {Ls : Array Slot} {st : List Value}
theorem c_U0 (X : Stand p l e R s m args below meth c T locs cells slots) {cb : ByteArray} (hq : p.tables.exec = Jvm.exec ∧ c.code = cb) {Z : State} {a0 : Array Value} {h : Heap} {own C : String} {index : Nat} {y z : MethodName} {bytes : ByteArray} {maxL ML : Nat} {ret : Option FieldType} {rm : Room} {Q : Option Value → Heap → List Loc → Prop} {a : Addr}
  (eT : T.heap = h) (hZ : Z.Warmed39 s.vm) (hown : s.vm.findClass own = some m.cls) (hml : c.maxLocals = ML) (hK : own_KU a0 Z own C index y z bytes maxL ret 0) (hM : own_Met l y bytes maxL ret rm #[(.ref a)] Z h Q) (E : Exa Z h a C)
  (hd : decode cb pc = .ok (.invokevirtual index, 3)) 
  (k : ∀ (T' : State) (L : List Loc) (w : Value), Stand p l e R s m args below meth c T' (locs ++ L) (cells + rm.cells) (slots + rm.slots) → Q (some w) T'.heap L → own_Go p.tables e below P (T'.setTop (mkF m (pc + 3) Ls (w :: st)))) (W : Nat) (hsz : Ls.size = ML := by rfl) (hW : (st.map fun v => v.category).sum = W := by rfl) (sd : rm.frames + 1 ≤ R.frames ∧ W + (maxL + 11) + rm.locals ≤ R.locals ∧ cells + rm.cells ≤ R.cells ∧ slots + rm.slots ≤ R.slots := by decide) (hv : ∀ v h L, Q v h L → ∃ w, v = some w := by intro v h L q; first | exact Exists.intro _ q.1 | (obtain ⟨_, q⟩ := q; exact Exists.intro _ q.1) | (obtain ⟨_, _, q⟩ := q; exact Exists.intro _ q.1) | (obtain ⟨_, _, _, q⟩ := q; exact Exists.intro _ q.1)) : own_Go p.tables e below P (T.setTop (mkF m pc Ls ((.ref a) :: st))) := by
 obtain ⟨⟨w1, ⟨ps, r, hp, hlen⟩, hy⟩, w2, w5, w6, w3, w4⟩ := hK
 obtain ⟨cB, kB, q1, -, q3⟩ := isOf hZ eT E
 have nf : NotFace s y := notFace_of_selects (args := #[]) (mvT hZ w5)
 obtain ⟨v, vm1, ⟨T', L0, k0, n0⟩, -, X', ⟨L, hQ, e1, e2, e3⟩, hst⟩ := X.virtualBack hq.1 (y := y) (z := y) hown (mvT hZ w1) (mvT hZ w2) nf (mvT hZ w5) (mvT hZ w6) hy (backOf (W := W) (Q := Q) hM hZ w4 w3 sd.1 sd.2.1) q1 q3 (g := mkF m pc Ls ((.ref a) :: st)) rfl (by rw [hml]; exact hsz) (Steps.refl _) (argsL := []) (rest := st) (lenOf hp hlen) rfl (by show 2 * 0 + _ ≤ _; rw [Nat.mul_zero, Nat.zero_add]; exact Nat.le_of_eq hW) (hb hq.2 hd) (fun _ _ => ⟨rfl, eT, sd.2.2.1, sd.2.2.2⟩)
 dsimp only [Pt.U, Pt.locs, Pt.cells, Pt.slots] at X' e1 e2 e3 hst hQ
 subst e1 e2 e3
 obtain ⟨w, rfl⟩ := hv _ _ _ hQ
 exact own_tr hst (k _ _ _ X' hQ)
end Sm
theorem k10_335U1 {a0 : Array Value} {Z : State} (hw : HW a0 Z) : own_KU a0 Z "java/lang/String" "java/lang/String" 335 y15_ y15_ jdk_42_method_152_code 1 (some .byte) 0 := ⟨⟨(w_ hw 51 rfl), ⟨_, _, pd_7, rfl⟩, by decide⟩, (w_ hw 52 rfl), (w_ hw 54 rfl), (w_ hw 53 rfl), (w_ hw 10 rfl), (w_ hw 55 rfl)⟩
theorem d10_9 : D10 9 = .ok (.ishr, 1) := by decide +kernel
theorem d10_10 : D10 10 = .ok (.ireturn, 1) := by decide +kernel
def Q_rmlenN (Z : State) (a0 : Array Value) (a1 b : Addr) (k1 : ClassId) (N : Int32) (vs : List Value) (d1 : Value) (w : Int32) (h0 : Heap) (n0 : Nat) (v : Option Value) (h : Heap) (L : List Loc) : Prop := v = some (.int N) ∧ Fr n0 L ∧ h = h0
theorem rmlenN (hw : HW a0 Z) (a1 b : Addr) (k1 : ClassId) (N : Int32) (vs : List Value) (d1 : Value) (w : Int32) (h0 : Heap) (n0 : Nat) (Z0 : n0 ≤ h0.size) (E_s : Exa Z h0 a1 "java/lang/String") (F_v : Fld Z h0 a1 "java/lang/String" "value" "[B" (.ref b)) (F_c : Fld Z h0 a1 "java/lang/String" "coder" "B" (.int (0 : Int32))) (V_s : Arv Z h0 b k1 .byte N vs d1) (S1 : Sta Z h0 "java/lang/String" "COMPACT_STRINGS" "Z" (.int w)) (hw0 : ¬ w = (0 : Int32)) :
  own_Met l y7_ jdk_42_method_54_code 1 (some .int) (R_ 1 0 0 13) #[(.ref a1)] Z h0 (Q_rmlenN Z a0 a1 b k1 N vs d1 w h0 n0) := by
 refine own_bd (own := "java/lang/String") rfl (plainFor_of_name pn_4) #[rv a1] ?_
 intro p e s m below meth c s₁ hx hby Hq hml hown hnm hlk hrt hZ X0 e0
 refine o_aloadN X0 Hq d10_0 rfl rfl ?_
 obtain ⟨T_1, X_1, e_1, st_1⟩ := getF X0 hx hZ hown (host := "") (Or.inl (w_ hw 35 rfl)) Via.refl e0 F_v (g := (mkF m 1 #[rv a1] [(.ref a1)])) rfl rfl (hb hby d10_1)
 refine own_st st_1 ?_
 show own_Go _ _ _ _ (T_1.setTop (mkF m 4 #[rv a1] [(.ref b)]))
 obtain ⟨cl_2, Ar_2, qk_2, Sz_2, Ng_2, Hs_2, Gs_2⟩ := id V_s
 refine own_st (X_1.arraylength hx (by rw [e_1]; exact Ar_2.1) (State.isArrayOf_alike hZ.alike Ar_2.2.1) (g := (mkF m 4 #[rv a1] [(.ref b)])) rfl rfl (hb hby d10_4)) ?_
 rw [len_of Sz_2 Ng_2]
 show own_Go _ _ _ _ (T_1.setTop (mkF m 5 #[rv a1] [(.int N)]))
 refine o_aloadN X_1 Hq d10_5 rfl rfl ?_
 refine c_U0 X_1 Hq e_1 hZ hown hml (k10_335U1 hw) (rm11 hw a1 w h0 n0 Z0 F_c S1 hw0) E_s d10_6 ?_ 1
 rintro T_3 L_3 _ X_3 ⟨⟨⟩, Nq_3, e_3⟩
 have N_3 := Fr.app (Fr.nil n0) Nq_3
 refine o_ishr X_3 Hq d10_9 ?_
 exact e_I X_3 e_3 Hq hlk hrt d10_10 ⟨(congrArg (fun z => some (Value.int z)) (own_shr0 N)), N_3, rfl⟩
abbrev D15 := decode jdk_42_method_56_code
theorem d15_0 : D15 0 = .ok (.aload_n 0, 1) := by decide +kernel
theorem d15_1 : D15 1 = .ok (.invokevirtual 492, 3) := by decide +kernel
theorem pd_8 : parseMethodDescriptor "()Z" = some ⟨[], some .boolean⟩ := by decide +kernel
theorem k15_492U1 {a0 : Array Value} {Z : State} (hw : HW a0 Z) : own_KU a0 Z "java/lang/String" "java/lang/String" 492 y14_ y14_ jdk_42_method_154_code 1 (some .boolean) 0 := ⟨⟨(w_ hw 78 rfl), ⟨_, _, pd_8, rfl⟩, by decide⟩, (w_ hw 79 rfl), (w_ hw 81 rfl), (w_ hw 80 rfl), (w_ hw 10 rfl), (w_ hw 82 rfl)⟩
theorem d15_4 : D15 4 = .ok (.ifCond .eq 12, 3) := by decide +kernel
theorem d15_7 : D15 7 = .ok (.aload_n 0, 1) := by decide +kernel
theorem d15_8 : D15 8 = .ok (.getfield 9, 3) := by decide +kernel
theorem d15_11 : D15 11 = .ok (.iload_n 1, 1) := by decide +kernel
theorem d15_12 : D15 12 = .ok (.invokestatic 495, 3) := by decide +kernel
theorem pd_9 : parseMethodDescriptor "([BI)C" = some ⟨[(.array .byte), .int], some .char⟩ := by decide +kernel
theorem k15_495 {a0 : Array Value} {Z : State} (hw : HW a0 Z) : own_KS a0 Z "java/lang/String" "" 495 y13_ y13_ jdk_43_method_2_code 2 (some .char) 2 := ⟨⟨(w_ hw 83 rfl), ⟨_, _, pd_9, rfl⟩, by decide⟩, (w_ hw 84 rfl), (w_ hw 85 rfl), (w_ hw 86 rfl)⟩
theorem d15_15 : D15 15 = .ok (.ireturn, 1) := by decide +kernel
def Q_rm15 (Z : State) (a0 : Array Value) (a1 : Addr) (p2 : Int32) (b : Addr) (k1 : ClassId) (N : Int32) (vs : List Value) (d1 : Value) (w : Int32) (sfv : Value) (f : Int32 → Int32) (h0 : Heap) (n0 : Nat) (v : Option Value) (h : Heap) (L : List Loc) : Prop := v = some (.int (f p2)) ∧ Fr n0 L ∧ h = h0
theorem rm15 (hw : HW a0 Z) (a1 : Addr) (p2 : Int32) (b : Addr) (k1 : ClassId) (N : Int32) (vs : List Value) (d1 : Value) (w : Int32) (sfv : Value) (f : Int32 → Int32) (h0 : Heap) (n0 : Nat) (Z0 : n0 ≤ h0.size) (E_s : Exa Z h0 a1 "java/lang/String") (F_v : Fld Z h0 a1 "java/lang/String" "value" "[B" (.ref b)) (F_c : Fld Z h0 a1 "java/lang/String" "coder" "B" (.int (0 : Int32))) (V_s : Arv Z h0 b k1 .byte N vs d1) (S1 : Sta Z h0 "java/lang/String" "COMPACT_STRINGS" "Z" (.int w)) (hw0 : ¬ w = (0 : Int32)) (hat : ∀ i : Int32, ¬ i < 0 → i < N → vs.getD i.toNatClampNeg d1 = .int (((f i).toInt8.toInt32).toInt8.toInt32)) (hf : ∀ i : Int32, ¬ (255 : Int32) < f i ∧ ¬ f i < 0) (S2 : Sta Z h0 "jdk/internal/util/Preconditions" "SIOOBE_FORMATTER" "Ljava/util/function/BiFunction;" sfv) (hsf : sfv.isRef = true) (hi0 : ¬ p2 < 0) (hi1 : p2 < N) :
  own_Met l y8_ jdk_42_method_56_code 2 (some .char) (R_ 3 0 0 40) #[(.ref a1), (.int p2)] Z h0 (Q_rm15 Z a0 a1 p2 b k1 N vs d1 w sfv f h0 n0) := by
 refine own_bd (own := "java/lang/String") rfl (plainFor_of_name pn_4) #[rv a1, iv p2] ?_
 intro p e s m below meth c s₁ hx hby Hq hml hown hnm hlk hrt hZ X0 e0
 refine o_aloadN X0 Hq d15_0 rfl rfl ?_
 refine c_U0 X0 Hq e0 hZ hown hml (k15_492U1 hw) (rm16 hw a1 w h0 n0 Z0 F_c S1 hw0) E_s d15_1 ?_ 0
 rintro T_1 L_1 _ X_1 ⟨⟨⟩, Nq_1, e_1⟩
 have N_1 := Fr.app (Fr.nil n0) Nq_1
 refine o_ifNo X_1 Hq d15_4 (by decide) (o_aloadN X_1 Hq d15_7 rfl rfl ?_)
 obtain ⟨T_2, X_2, e_2, st_2⟩ := getF X_1 hx hZ hown (host := "") (Or.inl (w_ hw 35 rfl)) Via.refl e_1 F_v (g := (mkF m 8 #[rv a1, iv p2] [(.ref a1)])) rfl rfl (hb hby d15_8)
 refine own_st st_2 ?_
 show own_Go _ _ _ _ (T_2.setTop (mkF m 11 #[rv a1, iv p2] [(.ref b)]))
 refine o_iloadN X_2 Hq d15_11 rfl ?_
 refine c_S2 X_2 Hq e_2 hZ hown hml (k15_495 hw) (rm17 hw b p2 k1 N vs d1 sfv (((f p2).toInt8.toInt32).toInt8.toInt32) (f p2) h0 n0 Z0 V_s hi0 hi1 (hat p2 hi0 hi1) (own_back (hf p2).1 (hf p2).2) S2 hsf) d15_12 ?_ 0
 rintro T_3 L_3 _ X_3 ⟨⟨⟩, Nq_3, e_3⟩
 have N_3 := Fr.app N_1 Nq_3
 exact e_C X_3 e_3 Hq hlk hrt d15_15 ⟨(congrArg (fun z => some (Value.int z)) (own_nc (hf p2).1 (hf p2).2)), N_3, rfl⟩
def own_draw (p1 : Int32)  : Int32 := (if (p1 &&& (511 : Int32)) < (256 : Int32) then (nar .char ((p1 &&& (511 : Int32)).toUInt32.toUInt16.toUInt32.toInt32)) else (nar .char (((p1 &&& (511 : Int32)) &&& (33 : Int32)).toUInt32.toUInt16.toUInt32.toInt32)))
theorem pn_1 : plainName "com/example/vernum/vernum/VersionScannerAtEndPinLaw" = true := by first | (simp [plainName, overriddenIn]; done) | decide +kernel
abbrev D1 := decode method_2_code
theorem d1_0 : D1 0 = .ok (.iload_n 0, 1) := by decide +kernel
theorem d1_1 : D1 1 = .ok (.sipush 511, 3) := by decide +kernel
theorem d1_4 : D1 4 = .ok (.iand, 1) := by decide +kernel
theorem d1_5 : D1 5 = .ok (.istore_n 1, 1) := by decide +kernel
theorem d1_6 : D1 6 = .ok (.iload_n 1, 1) := by decide +kernel
theorem d1_7 : D1 7 = .ok (.sipush 256, 3) := by decide +kernel
theorem d1_10 : D1 10 = .ok (.if_icmp .lt 8, 3) := by decide +kernel
theorem d1_18 : D1 18 = .ok (.iload_n 1, 1) := by decide +kernel
theorem d1_19 : D1 19 = .ok (.i2c, 1) := by decide +kernel
theorem d1_20 : D1 20 = .ok (.ireturn, 1) := by decide +kernel
theorem d1_13 : D1 13 = .ok (.iload_n 1, 1) := by decide +kernel
theorem d1_14 : D1 14 = .ok (.bipush 33, 2) := by decide +kernel
theorem d1_16 : D1 16 = .ok (.iand, 1) := by decide +kernel
theorem d1_17 : D1 17 = .ok (.istore_n 1, 1) := by decide +kernel
def Q_rm1 (Z : State) (a0 : Array Value) (p1 : Int32) (h0 : Heap) (n0 : Nat) (v : Option Value) (h : Heap) (L : List Loc) : Prop := v = some (.int (own_draw p1)) ∧ Fr n0 L ∧ h = h0
theorem rm1 (hw : HW a0 Z) (p1 : Int32) (h0 : Heap) (n0 : Nat) (Z0 : n0 ≤ h0.size) :
  own_Met l y9_ method_2_code 2 (some .char) (R_ 0 0 0 0) #[(.int p1)] Z h0 (Q_rm1 Z a0 p1 h0 n0) := by
 refine own_bd (own := "com/example/vernum/vernum/VersionScannerAtEndPinLaw") rfl (plainFor_of_name pn_1) #[iv p1, .unset] ?_
 intro p e s m below meth c s₁ hx hby Hq hml hown hnm hlk hrt hZ X0 e0
 have hv : own_draw p1 = (if (p1 &&& (511 : Int32)) < (256 : Int32) then (nar .char ((p1 &&& (511 : Int32)).toUInt32.toUInt16.toUInt32.toInt32)) else (nar .char (((p1 &&& (511 : Int32)) &&& (33 : Int32)).toUInt32.toUInt16.toUInt32.toInt32))) := rfl
 show own_Go _ _ _ _ (s₁.setTop (mkF m 0 #[iv p1, .unset] []))
 refine o_iloadN X0 Hq d1_0 rfl (o_sipush X0 Hq 511 d1_1 rfl (o_iand X0 Hq d1_4 (o_istoreN X0 Hq d1_5 (l' := #[iv p1, iv (p1 &&& (511 : Int32))]) rfl (o_iloadN X0 Hq d1_6 rfl (o_sipush X0 Hq 256 d1_7 rfl ?_)))))
 by_cases hc10__1 : (p1 &&& (511 : Int32)) < (256 : Int32)
 ·have hv_2 := hv.trans (if_pos hc10__1)
  refine o_icmpYes X0 Hq (pc' := 18) d1_10 (tlt hc10__1).1 (o_iloadN X0 Hq d1_18 rfl (o_i2c X0 Hq d1_19 ?_))
  exact e_C X0 e0 Hq hlk hrt d1_20 ⟨(congrArg (fun z => some (Value.int z)) hv_2.symm), (Fr.nil n0), rfl⟩
 ·have hv_3 := hv.trans (if_neg hc10__1)
  refine o_icmpNo X0 Hq d1_10 (flt hc10__1).1 (o_iloadN X0 Hq d1_13 rfl (o_bipush X0 Hq 33 d1_14 rfl (o_iand X0 Hq d1_16 (o_istoreN X0 Hq d1_17 (l' := #[iv p1, iv ((p1 &&& (511 : Int32)) &&& (33 : Int32))]) rfl (o_iloadN X0 Hq d1_18 rfl (o_i2c X0 Hq d1_19 ?_))))))
  exact e_C X0 e0 Hq hlk hrt d1_20 ⟨(congrArg (fun z => some (Value.int z)) hv_3.symm), (Fr.nil n0), rfl⟩
def own_f (c0 c1 c2 : Int32) : Int32 → Int32 := fun i => if i = (0 : Int32) then c0 else if i = (1 : Int32) then c1 else c2
theorem own_drI (x : Int32) : 0 ≤ (own_draw x).toInt ∧ (own_draw x).toInt ≤ 255 := by
 have h1 : (x &&& (511 : Int32)).toInt = x.toInt % 512 := c_mask x 511 9 (by decide) rfl
 have h2 := c_and (x &&& (511 : Int32)) (33 : Int32) (by decide)
 have e33 : (33 : Int32).toInt = 33 := rfl
 unfold own_draw
 split
 ·rename_i h
  rw [Int32.lt_iff_toInt_lt, show (256 : Int32).toInt = 256 from rfl] at h
  show 0 ≤ (((x &&& (511 : Int32)).toUInt32.toUInt16.toUInt32.toInt32).toUInt32.toUInt16.toUInt32.toInt32).toInt ∧ (((x &&& (511 : Int32)).toUInt32.toUInt16.toUInt32.toInt32).toUInt32.toUInt16.toUInt32.toInt32).toInt ≤ 255
  have a := c_i2c (x &&& (511 : Int32)); have b := c_i2c ((x &&& (511 : Int32)).toUInt32.toUInt16.toUInt32.toInt32)
  omega
 ·show 0 ≤ ((((x &&& (511 : Int32)) &&& (33 : Int32)).toUInt32.toUInt16.toUInt32.toInt32).toUInt32.toUInt16.toUInt32.toInt32).toInt ∧ ((((x &&& (511 : Int32)) &&& (33 : Int32)).toUInt32.toUInt16.toUInt32.toInt32).toUInt32.toUInt16.toUInt32.toInt32).toInt ≤ 255
  have a := c_i2c ((x &&& (511 : Int32)) &&& (33 : Int32)); have b := c_i2c (((x &&& (511 : Int32)) &&& (33 : Int32)).toUInt32.toUInt16.toUInt32.toInt32)
  omega
theorem own_drb (x : Int32) : ¬ (255 : Int32) < own_draw x ∧ ¬ own_draw x < 0 := by
 have h := own_drI x
 rw [Int32.lt_iff_toInt_lt, Int32.lt_iff_toInt_lt, show (255 : Int32).toInt = 255 from rfl, show (0 : Int32).toInt = 0 from rfl]
 omega
theorem own_drn (x : Int32) : nar .char (own_draw x) = own_draw x := own_nc (own_drb x).1 (own_drb x).2
theorem own_fbd {c0 c1 c2 : Int32} (h0 : ¬ (255 : Int32) < c0 ∧ ¬ c0 < 0) (h1 : ¬ (255 : Int32) < c1 ∧ ¬ c1 < 0) (h2 : ¬ (255 : Int32) < c2 ∧ ¬ c2 < 0) : ∀ i : Int32, ¬ (255 : Int32) < own_f c0 c1 c2 i ∧ ¬ own_f c0 c1 c2 i < 0 := fun i => by
 unfold own_f; split
 ·exact h0
 split
 ·exact h1
 ·exact h2
theorem own_lt1 {i : Int32} (h0 : ¬ i < 0) (h : i < (1 : Int32)) : i = 0 := by
 rw [Int32.lt_iff_toInt_lt] at h0 h
 have e0 : (0 : Int32).toInt = 0 := rfl
 have e1 : (1 : Int32).toInt = 1 := rfl
 apply Int32.toInt_inj.mp; omega
theorem own_lt2 {i : Int32} (h0 : ¬ i < 0) (h : i < (2 : Int32)) : i = 0 ∨ i = 1 := by
 rw [Int32.lt_iff_toInt_lt] at h0 h
 have e0 : (0 : Int32).toInt = 0 := rfl
 have e1 : (1 : Int32).toInt = 1 := rfl
 have e2 : (2 : Int32).toInt = 2 := rfl
 have : i.toInt = 0 ∨ i.toInt = 1 := by omega
 rcases this with q | q
 ·exact Or.inl (Int32.toInt_inj.mp q)
 ·exact Or.inr (Int32.toInt_inj.mp q)
theorem own_lt33 {i : Int32} (h0 : ¬ i < 0) (h : i < (3 : Int32)) : i = 0 ∨ i = 1 ∨ i = 2 := by
 rw [Int32.lt_iff_toInt_lt] at h0 h
 have e0 : (0 : Int32).toInt = 0 := rfl
 have e1 : (1 : Int32).toInt = 1 := rfl
 have e2 : (3 : Int32).toInt = 3 := rfl
 have : i.toInt = 0 ∨ i.toInt = 1 ∨ i.toInt = 2 := by omega
 rcases this with q | q | q
 ·exact Or.inl (Int32.toInt_inj.mp q)
 ·exact Or.inr (Or.inl (Int32.toInt_inj.mp q))
 ·exact Or.inr (Or.inr (Int32.toInt_inj.mp q))
theorem own_fcs (c0 c1 c2 : Int32) : ∀ i : Int32, ¬ i < 0 → i < (3 : Int32) → [Value.int c0, .int c1, .int c2].getD i.toNatClampNeg (.int (0 : Int32)) = .int (own_f c0 c1 c2 i) := fun i h0 h => by
 rcases own_lt33 h0 h with rfl | rfl | rfl <;> rfl
theorem own_fat0 (c0 c1 c2 : Int32) : ∀ i : Int32, ¬ i < 0 → i < (0 : Int32) → ([] : List Value).getD i.toNatClampNeg (.int (0 : Int32)) = .int (((own_f c0 c1 c2 i).toInt8.toInt32).toInt8.toInt32) := fun i h0 h => absurd h h0
theorem own_fat1 (c0 c1 c2 : Int32) : ∀ i : Int32, ¬ i < 0 → i < (1 : Int32) → [Value.int ((c0.toInt8.toInt32).toInt8.toInt32)].getD i.toNatClampNeg (.int (0 : Int32)) = .int (((own_f c0 c1 c2 i).toInt8.toInt32).toInt8.toInt32) := fun i h0 h => by
 cases own_lt1 h0 h; rfl
theorem own_fat2 (c0 c1 c2 : Int32) : ∀ i : Int32, ¬ i < 0 → i < (2 : Int32) → [Value.int ((c0.toInt8.toInt32).toInt8.toInt32), .int ((c1.toInt8.toInt32).toInt8.toInt32)].getD i.toNatClampNeg (.int (0 : Int32)) = .int (((own_f c0 c1 c2 i).toInt8.toInt32).toInt8.toInt32) := fun i h0 h => by
 rcases own_lt2 h0 h with rfl | rfl <;> rfl
theorem own_fat3 (c0 c1 c2 : Int32) : ∀ i : Int32, ¬ i < 0 → i < (3 : Int32) → [Value.int ((c0.toInt8.toInt32).toInt8.toInt32), .int ((c1.toInt8.toInt32).toInt8.toInt32), .int ((c2.toInt8.toInt32).toInt8.toInt32)].getD i.toNatClampNeg (.int (0 : Int32)) = .int (((own_f c0 c1 c2 i).toInt8.toInt32).toInt8.toInt32) := fun i h0 h => by
 rcases own_lt33 h0 h with rfl | rfl | rfl <;> rfl
theorem own_lt3 {p e N : Int32} (h : p < e) (h1 : ¬ N < e) (h3 : ¬ (3 : Int32) < N) : p < (3 : Int32) := by
 rw [Int32.lt_iff_toInt_lt] at *; omega
theorem own_ltN {p e N : Int32} (h : p < e) (h1 : ¬ N < e) : p < N := by
 rw [Int32.lt_iff_toInt_lt] at *; omega
theorem own_incL {p e N : Int32} (h0 : ¬ p < 0) (h : p < e) (h1 : ¬ N < e) (h3 : ¬ (3 : Int32) < N) : ¬ (p + (1 : Int32)) < 0 ∧ ¬ e < (p + (1 : Int32)) := by
 have q := c_iadd p (1 : Int32)
 have b1 := (p + (1 : Int32)).toInt_lt; have b2 := (p + (1 : Int32)).le_toInt
 rw [Int32.lt_iff_toInt_lt] at *
 rw [Int32.lt_iff_toInt_lt]
 have e0 : (0 : Int32).toInt = 0 := rfl
 have e1 : (1 : Int32).toInt = 1 := rfl
 have e3 : (3 : Int32).toInt = 3 := rfl
 omega
theorem own_four (x : Int32) : (x &&& (3 : Int32)) = (0 : Int32) ∨ (x &&& (3 : Int32)) = (1 : Int32) ∨ (x &&& (3 : Int32)) = (2 : Int32) ∨ (x &&& (3 : Int32)) = (3 : Int32) := by
 have h : (x &&& (3 : Int32)).toInt = x.toInt % 4 := c_mask x 3 2 (by decide) rfl
 have e : ∀ n : Int32, ((x &&& (3 : Int32)) = n) ↔ ((x &&& (3 : Int32)).toInt = n.toInt) := fun n => Int32.toInt_inj.symm
 simp only [e]
 show (x &&& (3 : Int32)).toInt = 0 ∨ (x &&& (3 : Int32)).toInt = 1 ∨ (x &&& (3 : Int32)).toInt = 2 ∨ (x &&& (3 : Int32)).toInt = 3
 omega

abbrev D2 := decode method_3_code
theorem d2_0 : D2 0 = .ok (.iload_n 0, 1) := by decide +kernel
theorem d2_1 : D2 1 = .ok (.ifCond .ne 14, 3) := by decide +kernel
theorem d2_4 : D2 4 = .ok (.new 7, 3) := by decide +kernel
theorem d2_7 : D2 7 = .ok (.dup, 1) := by decide +kernel
theorem d2_8 : D2 8 = .ok (.iconst 0, 1) := by decide +kernel
theorem d2_9 : D2 9 = .ok (.newarray .char, 2) := by decide +kernel
theorem d2_11 : D2 11 = .ok (.invokespecial 9, 3) := by decide +kernel
theorem pd_10 : parseMethodDescriptor "([C)V" = some ⟨[(.array .char)], none⟩ := by decide +kernel
theorem d2_14 : D2 14 = .ok (.areturn, 1) := by decide +kernel
theorem ef_rmmake0 (m : MethodId) (p2 p3 p4 : Int32) : entryFrame m #[(.int (0 : Int32)), (.int p2), (.int p3), (.int p4)] 4 = mkF m 0 #[iv 0, iv p2, iv p3, iv p4] [] := by first | (simp [entryFrame, mkF, argsToLocals, Value.category]; done) | rfl
def Q_rmmake0 (Z : State) (a0 : Array Value) (p2 p3 p4 : Int32) (h0 : Heap) (n0 : Nat) (v : Option Value) (h : Heap) (L : List Loc) : Prop := ∃ b : Addr, ∃ t : Addr, ∃ kt : ClassId, v = some (.ref b) ∧ Fr n0 L ∧ Keep h0 h [] ∧ n0 ≤ b ∧ h0.size ≤ b ∧ Exa Z h b "java/lang/String" ∧ Fld Z h b "java/lang/String" "value" "[B" (.ref t) ∧ Fld Z h b "java/lang/String" "coder" "B" (.int (0 : Int32)) ∧ Arv Z h t kt .byte (0 : Int32) [] (.int (0 : Int32))
theorem rmmake0 (l : Launch) (Z : State) (a0 : Array Value) (hw : HW a0 Z) (ws : List Jvm.Cond) (p2 p3 p4 : Int32) (h0 : Heap) (n0 : Nat) (Z0 : n0 ≤ h0.size) :
  MetFree l y1_ (head1 (Jvm.Cond.code y1_ method_3_code 4 (some (.object "java/lang/String")) :: ws) (R_ 3 6 12 43)) (fun a U => a = #[(.int (0 : Int32)), (.int p2), (.int p3), (.int p4)] ∧ Z.Warmed39 U.vm ∧ U.heap = h0 ∧ CHv Z consts_1 U.vm h0) (fun _ _ _ _ _ => True) (fun _ U o U' => ∃ v L, o = .returned v ∧ Q_rmmake0 Z a0 p2 p3 p4 h0 n0 v U'.heap L ∧ CHr Z consts_1 U.vm U.heap U'.vm U'.heap ∧ ReturnedEndW U o U' L (R_ 3 6 12 43).cells (R_ 3 6 12 43).slots) := by
 refine MetFree.of_bodySF (plainFor_of_name pn_1) hisR ?_
 intro p e s m args below meth c s₁ Bd hml0 hP hK
 obtain ⟨rfl, hZ, hh, hC0⟩ := hP
 have hx := Bd.exec
 have hby := Bd.bytes
 have hml : c.maxLocals = 4 := hml0
 have hown : s.vm.findClass "com/example/vernum/vernum/VersionScannerAtEndPinLaw" = some m.cls := findClass_of_methodNamed Bd.named
 have hnm := (name_of_methodNamed Bd.named Bd.method).1
 have hlk : meth.locks = false := BodyLoose.notSynchronized (by assumption)
 have X0 : Stand p l e (R_ 3 6 12 43) (s.setVm s.vm) m #[(.int (0 : Int32)), (.int p2), (.int p3), (.int p4)] below meth c s₁ [] 0 0 := Stand.of_body Bd
 have e0 : s₁.heap = h0 := by rw [← hh, Bd.state]; rfl
 have N0 := Fr.nil n0
 have Hq := And.intro hx hby
 have hrt := Bd.returns
 show own_Go p.tables e below (fun o U' => ∃ v L, o = .returned v ∧ Q_rmmake0 Z a0 p2 p3 p4 h0 n0 v U'.heap L ∧ CHr Z consts_1 s.vm s.heap U'.vm U'.heap ∧ ReturnedEndW s o U' L (R_ 3 6 12 43).cells (R_ 3 6 12 43).slots) (s₁.setTop (entryFrame m #[(.int (0 : Int32)), (.int p2), (.int p3), (.int p4)] 4))
 refine own_st (fun t k => castTop (ef_rmmake0 m p2 p3 p4) k) ?_
 have hEL : EW Z a0 consts_1 := own_EW hw
 have hS0 : s.Since s.vm h0.size := (State.WarmedH.refl s).since _
 have Cr0 : CHr Z consts_1 s.vm s.heap s.vm h0 := by rw [hh]; exact CHr.refl hC0
 show own_Go _ _ _ _ (s₁.setTop (mkF m 0 #[iv 0, iv p2, iv p3, iv p4] []))
 refine o_iloadN X0 Hq d2_0 rfl (o_ifNo X0 Hq d2_1 (by decide) ?_)
 obtain ⟨T_1, h_1, X_1, e_1, E_1, A_1, D_1, -, st_1⟩ := newO X0 hx hZ hown (w_ hw 8 rfl) (w_ hw 9 rfl) (w_ hw 10 rfl) e0 (g := (mkF m 4 #[iv 0, iv p2, iv p3, iv p4] [])) rfl (hb hby d2_4) (by decide) (by decide)
 obtain ⟨b_1, g_1⟩ : ∃ z, z = h0.size := ⟨_, rfl⟩
 rw [← g_1] at A_1 D_1 st_1
 have gg_1 : n0 ≤ b_1 := Nat.le_trans Z0 (Nat.le_of_eq g_1.symm)
 have sz_1 : h0.size ≤ b_1 := Nat.le_trans (Keep.refl h0 []).1 (Nat.le_of_eq g_1.symm)
 have Fi_1_coder : Fld Z h_1 b_1 "java/lang/String" "coder" "B" (.int (0 : Int32)) := D_1 (Or.inr (w_ hw 34 rfl)) (ty := .byte) (by decide)
 have Fi_1_value : Fld Z h_1 b_1 "java/lang/String" "value" "[B" .null := D_1 (Or.inr (w_ hw 36 rfl)) (ty := (.array .byte)) (by decide)
 refine own_st st_1 ?_
 show own_Go _ _ _ _ (T_1.setTop (mkF m 7 #[iv 0, iv p2, iv p3, iv p4] [(.ref b_1)]))
 refine o_dup X_1 Hq d2_7 rfl (o_iconst X_1 Hq 0 d2_8 rfl ?_)
 have Zs_2 : n0 ≤ h_1.size := (Nat.le_trans Z0 E_1.1)
 have Kp_3 : Keep h0 h_1 [] := ((Keep.refl h0 []).ext E_1)
 obtain ⟨T_4, h_4, k_4, X_4, e_4, E_4, A_4, st_4⟩ := newP X_1 hx hZ (w_ hw 4 rfl) e_1 (g := (mkF m 9 #[iv 0, iv p2, iv p3, iv p4] [(.int 0), (.ref b_1), (.ref b_1)])) rfl (hb hby d2_9) rfl (by decide) (cap := 0) (by decide) (by decide) (by decide) (by decide)
 obtain ⟨b_4, g_4⟩ : ∃ z, z = h_1.size := ⟨_, rfl⟩
 rw [← g_4] at A_4 st_4
 have V_4 : Arv Z h_4 b_4 k_4 .char (0 : Int32) [] (.int (0 : Int32)) := (Arv.new A_4 (by decide)).pad (pad_rep [] (.int (0 : Int32)) 0)
 have gg_4 : n0 ≤ b_4 := Nat.le_trans Zs_2 (Nat.le_of_eq g_4.symm)
 have sz_4 : h0.size ≤ b_4 := Nat.le_trans Kp_3.1 (Nat.le_of_eq g_4.symm)
 refine own_st st_4 ?_
 show own_Go _ _ _ _ (T_4.setTop (mkF m 11 #[iv 0, iv p2, iv p3, iv p4] [(.ref b_4), (.ref b_1), (.ref b_1)]))
 have Fa_6 := (A_1.ext E_4)
 have Fa_7 := (Fi_1_value.ext E_4)
 have Fa_8 := (Fi_1_coder.ext E_4)
 have Zs_9 : n0 ≤ h_4.size := (Nat.le_trans Zs_2 E_4.1)
 have Cx_10 := CHr.ext E_1 Cr0.1
 have Cr_10 := Cr0.trans Cx_10
 have Cx_11 := CHr.ext E_4 Cr_10.1
 have Cr_11 := Cr_10.trans Cx_11
 have Ks_12 := (Nat.le_trans (Nat.le_trans (Nat.le_refl h0.size) E_1.1) E_4.1)
 obtain ⟨_, _, ⟨T_5, L_5, k_5, n_5⟩, -, X_5, hSq_5, hgq_5, ⟨Lc_5, hQ_5, l_5, y_5, z_5, hCq_5⟩, st_5⟩ := X_4.specialBackS hx (y := y3_) rfl hown (v_ hZ hw 11 rfl) (v_ hZ hw 12 rfl) (v_ hZ hw 13 rfl) (by decide) (backOfSH (W := 1) (rmiA0 l Z a0 hw [] b_1 b_4 k_4 (.int (0 : Int32)) h_4 n0 Zs_9 Fa_6 gg_1 Fa_7 Fa_8 V_4) hZ (w_ hw 13 rfl) (w_ hw 10 rfl) (by decide) (by decide) hEL Cr_11.1) (g := (mkF m 11 #[iv 0, iv p2, iv p3, iv p4] [(.ref b_4), (.ref b_1), (.ref b_1)])) rfl (by rw [hml]; rfl) (Steps.refl _) (a := b_1) (argsL := [(.ref b_4)]) (rest := [(.ref b_1)]) (lenOf pd_10 rfl) rfl (z_ rfl) (hb hby d2_11) (fun _ _ => ⟨rfl, e_4, (by decide : 2 + 4 ≤ _), (by decide : 4 + 8 ≤ _)⟩)
 dsimp only [Pt.U, Pt.locs, Pt.cells, Pt.slots] at X_5 l_5 y_5 z_5 st_5 hQ_5 hSq_5 hgq_5 hCq_5
 subst l_5 y_5 z_5
 obtain ⟨Xr_5, hSr_5, hZr_5, hownr_5⟩ := rebS hS0 (Nat.le_trans Ks_12 (Nat.le_of_eq (congrArg Array.size (e_4).symm))) X_5 hSq_5 hgq_5 hZ hown
 obtain ⟨b__5, kb__5, rfl, Nq_5, K_5, Fq_5_0, Fq_5_1, Fq_5_2, Fq_5_3⟩ := hQ_5
 have N_5 := Fr.app N0 Nq_5
 have Cr_5 := Cr_11.trans hCq_5
 refine own_tr st_5 ?_
 show own_Go _ _ _ _ (T_5.setTop (mkF m 14 #[iv 0, iv p2, iv p3, iv p4] [(.ref b_1)]))
 have Kp_13 : Keep h0 T_5.heap [] := ((Kp_3.ext E_4).trans K_5 (allS (Or.inr sz_1) all0))
 have Fa_14 := (Fa_6.keep K_5)
 have Ks_15 := (Nat.le_refl T_5.heap.size)
 exact own_endC Xr_5 hSr_5 rfl Ks_15 (v := some (.ref b_1)) (fun h => by rw [hrt] at h; cases h) hlk (fun fs hr => own_retA Xr_5 hx hrt rfl rfl (hb hby d2_14) hr) hZr_5 hEL Cr_5 (Q := Q_rmmake0 Z a0 p2 p3 p4 h0 n0) ⟨b_1, b__5, kb__5, rfl, N_5, Kp_13, gg_1, sz_1, Fa_14, Fq_5_0, Fq_5_1, Fq_5_2⟩ (by decide) (by decide)
theorem d2_15 : D2 15 = .ok (.iload_n 0, 1) := by decide +kernel
theorem d2_16 : D2 16 = .ok (.iconst 1, 1) := by decide +kernel
theorem d2_17 : D2 17 = .ok (.if_icmp .ne 18, 3) := by decide +kernel
theorem d2_20 : D2 20 = .ok (.new 7, 3) := by decide +kernel
theorem d2_23 : D2 23 = .ok (.dup, 1) := by decide +kernel
theorem d2_24 : D2 24 = .ok (.iconst 1, 1) := by decide +kernel
theorem d2_25 : D2 25 = .ok (.newarray .char, 2) := by decide +kernel
theorem d2_27 : D2 27 = .ok (.dup, 1) := by decide +kernel
theorem d2_28 : D2 28 = .ok (.iconst 0, 1) := by decide +kernel
theorem d2_29 : D2 29 = .ok (.iload_n 1, 1) := by decide +kernel
theorem d2_30 : D2 30 = .ok (.castore, 1) := by decide +kernel
theorem d2_31 : D2 31 = .ok (.invokespecial 9, 3) := by decide +kernel
section Sm
variable {p : Program} {l : Launch} {e : Env} {R : Room} {s : State} {m : MethodId} {args : Array Value} {below : List Frame} {meth : Method} {c : Code} {T : State} {locs : List Loc} {cells slots : Nat} {P : Outcome → State → Prop} {pc : Nat} {Ls : Array Slot} {st : List Value}
theorem c_I1v (X : Stand p l e R s m args below meth c T locs cells slots) {cb : ByteArray} (hq : p.tables.exec = Jvm.exec ∧ c.code = cb) {Z : State} {a0 : Array Value} {h : Heap} {own C : String} {index : Nat} {y z : MethodName} {bytes : ByteArray} {maxL ML : Nat} {ret : Option FieldType} {rm : Room} {Q : Option Value → Heap → List Loc → Prop} {a : Addr} {v1 : Value}
  (eT : T.heap = h) (hZ : Z.Warmed39 s.vm) (hown : s.vm.findClass own = some m.cls) (hml : c.maxLocals = ML) (hK : own_KI a0 Z own C index y z bytes maxL ret 1) (hM : own_Met l y bytes maxL none rm #[(.ref a), v1] Z h Q)
  (hd : decode cb pc = .ok (.invokespecial index, 3)) 
  (k : ∀ (T' : State) (L : List Loc), Stand p l e R s m args below meth c T' (locs ++ L) (cells + rm.cells) (slots + rm.slots) → Q none T'.heap L → own_Go p.tables e below P (T'.setTop (mkF m (pc + 3) Ls st))) (W : Nat) (hsz : Ls.size = ML := by rfl) (hW : (st.map fun v => v.category).sum = W := by rfl) (sd : rm.frames + 1 ≤ R.frames ∧ W + (maxL + 11) + rm.locals ≤ R.locals ∧ cells + rm.cells ≤ R.cells ∧ slots + rm.slots ≤ R.slots := by decide) (hv : ∀ v h L, Q v h L → v = none := by intro v h L q; first | exact id q.1 | (obtain ⟨_, q⟩ := q; exact id q.1) | (obtain ⟨_, _, q⟩ := q; exact id q.1) | (obtain ⟨_, _, _, q⟩ := q; exact id q.1)) : own_Go p.tables e below P (T.setTop (mkF m pc Ls (v1 :: (.ref a) :: st))) := by
 obtain ⟨⟨w1, ⟨ps, r, hp, hlen⟩, hy⟩, hn, w2, w3, w4⟩ := hK
 obtain ⟨v, vm1, ⟨T', L0, k0, n0⟩, -, X', ⟨L, hQ, e1, e2, e3⟩, hst⟩ := X.specialBack hq.1 (y := y) hn hown (mvT hZ w1) (mvT hZ w2) (mvT hZ w4) hy (backOf (W := W) (Q := Q) hM hZ w4 w3 sd.1 sd.2.1) (g := mkF m pc Ls (v1 :: (.ref a) :: st)) rfl (by rw [hml]; exact hsz) (Steps.refl _) (a := a) (argsL := [v1]) (rest := st) (lenOf hp hlen) rfl (by show 2 * 0 + _ ≤ _; rw [Nat.mul_zero, Nat.zero_add]; exact Nat.le_of_eq hW) (hb hq.2 hd) (fun _ _ => ⟨rfl, eT, sd.2.2.1, sd.2.2.2⟩)
 dsimp only [Pt.U, Pt.locs, Pt.cells, Pt.slots] at X' e1 e2 e3 hst hQ
 subst e1 e2 e3
 obtain rfl := hv _ _ _ hQ
 exact own_tr hst (k _ _ X' hQ)
end Sm
theorem k2_9 {a0 : Array Value} {Z : State} (hw : HW a0 Z) : own_KI a0 Z "com/example/vernum/vernum/VersionScannerAtEndPinLaw" "" 9 y3_ y3_ jdk_42_method_3_code 2 none 1 := ⟨⟨(w_ hw 11 rfl), ⟨_, _, pd_10, rfl⟩, by decide⟩, rfl, (w_ hw 12 rfl), (w_ hw 10 rfl), (w_ hw 13 rfl)⟩
theorem d2_34 : D2 34 = .ok (.areturn, 1) := by decide +kernel
def Q_rmmake1 (Z : State) (a0 : Array Value) (p2 p3 p4 w : Int32) (h0 : Heap) (n0 : Nat) (v : Option Value) (h : Heap) (L : List Loc) : Prop := ∃ b : Addr, ∃ t : Addr, ∃ kt : ClassId, v = some (.ref b) ∧ Fr n0 L ∧ Keep h0 h [] ∧ n0 ≤ b ∧ h0.size ≤ b ∧ Exa Z h b "java/lang/String" ∧ Fld Z h b "java/lang/String" "value" "[B" (.ref t) ∧ Fld Z h b "java/lang/String" "coder" "B" (.int (0 : Int32)) ∧ Arv Z h t kt .byte (1 : Int32) [(.int ((p2.toInt8.toInt32).toInt8.toInt32))] (.int (0 : Int32))
theorem rmmake1 (hw : HW a0 Z) (p2 p3 p4 w : Int32) (h0 : Heap) (n0 : Nat) (Z0 : n0 ≤ h0.size) (S1 : Sta Z h0 "java/lang/String" "COMPACT_STRINGS" "Z" (.int w)) (hw0 : ¬ w = (0 : Int32)) (hn0 : nar .char p2 = p2) (hc0 : ¬ (255 : Int32) < p2) :
  own_Met l y1_ method_3_code 4 (some (.object "java/lang/String")) (R_ 4 3 6 66) #[(.int (1 : Int32)), (.int p2), (.int p3), (.int p4)] Z h0 (Q_rmmake1 Z a0 p2 p3 p4 w h0 n0) := by
 refine own_bd (own := "com/example/vernum/vernum/VersionScannerAtEndPinLaw") rfl (plainFor_of_name pn_1) #[iv 1, iv p2, iv p3, iv p4] ?_
 intro p e s m below meth c s₁ hx hby Hq hml hown hnm hlk hrt hZ X0 e0
 refine o_iloadN X0 Hq d2_0 rfl (o_ifYes X0 Hq (pc' := 15) d2_1 (by decide) (o_iloadN X0 Hq d2_15 rfl (o_iconst X0 Hq 1 d2_16 rfl (o_icmpNo X0 Hq d2_17 (by decide) ?_))))
 obtain ⟨T_1, h_1, X_1, e_1, E_1, A_1, D_1, -, st_1⟩ := newO X0 hx hZ hown (w_ hw 8 rfl) (w_ hw 9 rfl) (w_ hw 10 rfl) e0 (g := (mkF m 20 #[iv 1, iv p2, iv p3, iv p4] [])) rfl (hb hby d2_20) (by decide) (by decide)
 obtain ⟨b_1, g_1⟩ : ∃ z, z = h0.size := ⟨_, rfl⟩
 rw [← g_1] at A_1 D_1 st_1
 have gg_1 : n0 ≤ b_1 := Nat.le_trans Z0 (Nat.le_of_eq g_1.symm)
 have sz_1 : h0.size ≤ b_1 := Nat.le_trans (Keep.refl h0 []).1 (Nat.le_of_eq g_1.symm)
 have Fi_1_coder : Fld Z h_1 b_1 "java/lang/String" "coder" "B" (.int (0 : Int32)) := D_1 (Or.inr (w_ hw 34 rfl)) (ty := .byte) (by decide)
 have Fi_1_value : Fld Z h_1 b_1 "java/lang/String" "value" "[B" .null := D_1 (Or.inr (w_ hw 36 rfl)) (ty := (.array .byte)) (by decide)
 refine own_st st_1 ?_
 show own_Go _ _ _ _ (T_1.setTop (mkF m 23 #[iv 1, iv p2, iv p3, iv p4] [(.ref b_1)]))
 refine o_dup X_1 Hq d2_23 rfl (o_iconst X_1 Hq 1 d2_24 rfl ?_)
 have Zs_2 : n0 ≤ h_1.size := (Nat.le_trans Z0 E_1.1)
 have Kp_3 : Keep h0 h_1 [] := ((Keep.refl h0 []).ext E_1)
 obtain ⟨T_4, h_4, k_4, X_4, e_4, E_4, A_4, st_4⟩ := newP X_1 hx hZ (w_ hw 4 rfl) e_1 (g := (mkF m 25 #[iv 1, iv p2, iv p3, iv p4] [(.int 1), (.ref b_1), (.ref b_1)])) rfl (hb hby d2_25) rfl (by decide) (cap := 1) (by decide) (by decide) (by decide) (by decide)
 obtain ⟨b_4, g_4⟩ : ∃ z, z = h_1.size := ⟨_, rfl⟩
 rw [← g_4] at A_4 st_4
 have V_4 : Arv Z h_4 b_4 k_4 .char (1 : Int32) [(.int (0 : Int32))] (.int (0 : Int32)) := (Arv.new A_4 (by decide)).pad (pad_rep [] (.int (0 : Int32)) 1)
 have gg_4 : n0 ≤ b_4 := Nat.le_trans Zs_2 (Nat.le_of_eq g_4.symm)
 have sz_4 : h0.size ≤ b_4 := Nat.le_trans Kp_3.1 (Nat.le_of_eq g_4.symm)
 refine own_st st_4 ?_
 show own_Go _ _ _ _ (T_4.setTop (mkF m 27 #[iv 1, iv p2, iv p3, iv p4] [(.ref b_4), (.ref b_1), (.ref b_1)]))
 refine o_dup X_4 Hq d2_27 rfl (o_iconst X_4 Hq 0 d2_28 rfl (o_iloadN X_4 Hq d2_29 rfl ?_))
 obtain ⟨cl_5, Ar_5, qk_5, Sz_5, Ng_5, Hs_5, Gs_5⟩ := id V_4
 obtain ⟨T_6, h_6, X_6, e_6, W_6, st_6⟩ := stC X_4 hx hZ e_4 Ar_5 (j := (0 : Int32)) (inb_of Sz_5 ⟨by decide, by decide⟩) (g := (mkF m 30 #[iv 1, iv p2, iv p3, iv p4] [(.int p2), (.int 0), (.ref b_4), (.ref b_4), (.ref b_1), (.ref b_1)])) rfl rfl (hb hby d2_30)
 refine own_st st_6 ?_
 have V_6 : Arv Z h_6 b_4 k_4 .char (1 : Int32) [(.int p2)] (.int (0 : Int32)) := by have q := Arv.set Ar_5 qk_5 Sz_5 Ng_5 Hs_5 Gs_5 (fits_nar_char _) W_6 0 rfl (Nat.le_of_ble_eq_true rfl); rw [hn0] at q; exact q
 have N_6 := Fr.snoc X_6 (Fr.nil n0) gg_4
 show own_Go _ _ _ _ (T_6.setTop (mkF m 31 #[iv 1, iv p2, iv p3, iv p4] [(.ref b_4), (.ref b_1), (.ref b_1)]))
 have Fa_8 := ((A_1.ext E_4).wr W_6)
 have Fa_9 := ((Fi_1_value.ext E_4).other W_6 (Or.inl (Nat.ne_of_lt (Nat.lt_of_lt_of_le Fi_1_coder.lt (Nat.le_of_eq g_4.symm)))))
 have Fa_10 := ((Fi_1_coder.ext E_4).other W_6 (Or.inl (Nat.ne_of_lt (Nat.lt_of_lt_of_le Fi_1_coder.lt (Nat.le_of_eq g_4.symm)))))
 have Fa_11 := (((S1.ext E_1).ext E_4).wr W_6)
 have Zs_12 : n0 ≤ h_6.size := (Nat.le_trans (Nat.le_trans Zs_2 E_4.1) (Keep.of_wr W_6).1)
 refine c_I1v X_6 Hq e_6 hZ hown hml (k2_9 hw) (rmiA1 hw b_1 b_4 k_4 (.int (0 : Int32)) w p2 h_6 n0 Zs_12 Fa_8 gg_1 Fa_9 Fa_10 V_6 hc0 Fa_11 hw0) d2_31 ?_ 1
 rintro T_7 L_7 X_7 ⟨b__7, kb__7, -, Nq_7, K_7, gq_7_b, sq_7_b, Fq_7_0, Fq_7_1, Fq_7_2⟩
 have N_7 := Fr.app N_6 Nq_7
 have Kp_13 : Keep h0 h_6 [] := ((Kp_3.ext E_4).wr W_6 (Or.inr sz_4))
 have szq_7_b : h0.size ≤ b__7 := Nat.le_trans Kp_13.1 sq_7_b
 have Kp_14 : Keep h0 T_7.heap [] := (Kp_13.trans K_7 (allS (Or.inr sz_1) all0))
 have Fa_15 := (Fa_8.keep K_7)
 exact e_R X_7 rfl Hq hlk rfl rfl hrt d2_34 ⟨b_1, b__7, kb__7, rfl, N_7, Kp_14, gg_1, sz_1, Fa_15, Fq_7_0, Fq_7_1, Fq_7_2⟩
theorem d2_35 : D2 35 = .ok (.iload_n 0, 1) := by decide +kernel
theorem d2_36 : D2 36 = .ok (.iconst 2, 1) := by decide +kernel
theorem d2_37 : D2 37 = .ok (.if_icmp .ne 22, 3) := by decide +kernel
theorem d2_40 : D2 40 = .ok (.new 7, 3) := by decide +kernel
theorem d2_43 : D2 43 = .ok (.dup, 1) := by decide +kernel
theorem d2_44 : D2 44 = .ok (.iconst 2, 1) := by decide +kernel
theorem d2_45 : D2 45 = .ok (.newarray .char, 2) := by decide +kernel
theorem d2_47 : D2 47 = .ok (.dup, 1) := by decide +kernel
theorem d2_48 : D2 48 = .ok (.iconst 0, 1) := by decide +kernel
theorem d2_49 : D2 49 = .ok (.iload_n 1, 1) := by decide +kernel
theorem d2_50 : D2 50 = .ok (.castore, 1) := by decide +kernel
theorem d2_51 : D2 51 = .ok (.dup, 1) := by decide +kernel
theorem d2_52 : D2 52 = .ok (.iconst 1, 1) := by decide +kernel
theorem d2_53 : D2 53 = .ok (.iload_n 2, 1) := by decide +kernel
theorem d2_54 : D2 54 = .ok (.castore, 1) := by decide +kernel
theorem d2_55 : D2 55 = .ok (.invokespecial 9, 3) := by decide +kernel
theorem d2_58 : D2 58 = .ok (.areturn, 1) := by decide +kernel
def Q_rmmake2 (Z : State) (a0 : Array Value) (p2 p3 p4 w : Int32) (h0 : Heap) (n0 : Nat) (v : Option Value) (h : Heap) (L : List Loc) : Prop := ∃ b : Addr, ∃ t : Addr, ∃ kt : ClassId, v = some (.ref b) ∧ Fr n0 L ∧ Keep h0 h [] ∧ n0 ≤ b ∧ h0.size ≤ b ∧ Exa Z h b "java/lang/String" ∧ Fld Z h b "java/lang/String" "value" "[B" (.ref t) ∧ Fld Z h b "java/lang/String" "coder" "B" (.int (0 : Int32)) ∧ Arv Z h t kt .byte (2 : Int32) [(.int ((p2.toInt8.toInt32).toInt8.toInt32)), (.int ((p3.toInt8.toInt32).toInt8.toInt32))] (.int (0 : Int32))
theorem rmmake2 (hw : HW a0 Z) (p2 p3 p4 w : Int32) (h0 : Heap) (n0 : Nat) (Z0 : n0 ≤ h0.size) (S1 : Sta Z h0 "java/lang/String" "COMPACT_STRINGS" "Z" (.int w)) (hw0 : ¬ w = (0 : Int32)) (hn0 : nar .char p2 = p2) (hn1 : nar .char p3 = p3) (hc0 : ¬ (255 : Int32) < p2) (hc1 : ¬ (255 : Int32) < p3) :
  own_Met l y1_ method_3_code 4 (some (.object "java/lang/String")) (R_ 4 3 8 66) #[(.int (2 : Int32)), (.int p2), (.int p3), (.int p4)] Z h0 (Q_rmmake2 Z a0 p2 p3 p4 w h0 n0) := by
 refine own_bd (own := "com/example/vernum/vernum/VersionScannerAtEndPinLaw") rfl (plainFor_of_name pn_1) #[iv 2, iv p2, iv p3, iv p4] ?_
 intro p e s m below meth c s₁ hx hby Hq hml hown hnm hlk hrt hZ X0 e0
 refine o_iloadN X0 Hq d2_0 rfl (o_ifYes X0 Hq (pc' := 15) d2_1 (by decide) (o_iloadN X0 Hq d2_15 rfl (o_iconst X0 Hq 1 d2_16 rfl (o_icmpYes X0 Hq (pc' := 35) d2_17 (by decide) (o_iloadN X0 Hq d2_35 rfl (o_iconst X0 Hq 2 d2_36 rfl (o_icmpNo X0 Hq d2_37 (by decide) ?_)))))))
 obtain ⟨T_1, h_1, X_1, e_1, E_1, A_1, D_1, -, st_1⟩ := newO X0 hx hZ hown (w_ hw 8 rfl) (w_ hw 9 rfl) (w_ hw 10 rfl) e0 (g := (mkF m 40 #[iv 2, iv p2, iv p3, iv p4] [])) rfl (hb hby d2_40) (by decide) (by decide)
 obtain ⟨b_1, g_1⟩ : ∃ z, z = h0.size := ⟨_, rfl⟩
 rw [← g_1] at A_1 D_1 st_1
 have gg_1 : n0 ≤ b_1 := Nat.le_trans Z0 (Nat.le_of_eq g_1.symm)
 have sz_1 : h0.size ≤ b_1 := Nat.le_trans (Keep.refl h0 []).1 (Nat.le_of_eq g_1.symm)
 have Fi_1_coder : Fld Z h_1 b_1 "java/lang/String" "coder" "B" (.int (0 : Int32)) := D_1 (Or.inr (w_ hw 34 rfl)) (ty := .byte) (by decide)
 have Fi_1_value : Fld Z h_1 b_1 "java/lang/String" "value" "[B" .null := D_1 (Or.inr (w_ hw 36 rfl)) (ty := (.array .byte)) (by decide)
 refine own_st st_1 ?_
 show own_Go _ _ _ _ (T_1.setTop (mkF m 43 #[iv 2, iv p2, iv p3, iv p4] [(.ref b_1)]))
 refine o_dup X_1 Hq d2_43 rfl (o_iconst X_1 Hq 2 d2_44 rfl ?_)
 have Zs_2 : n0 ≤ h_1.size := (Nat.le_trans Z0 E_1.1)
 have Kp_3 : Keep h0 h_1 [] := ((Keep.refl h0 []).ext E_1)
 obtain ⟨T_4, h_4, k_4, X_4, e_4, E_4, A_4, st_4⟩ := newP X_1 hx hZ (w_ hw 4 rfl) e_1 (g := (mkF m 45 #[iv 2, iv p2, iv p3, iv p4] [(.int 2), (.ref b_1), (.ref b_1)])) rfl (hb hby d2_45) rfl (by decide) (cap := 2) (by decide) (by decide) (by decide) (by decide)
 obtain ⟨b_4, g_4⟩ : ∃ z, z = h_1.size := ⟨_, rfl⟩
 rw [← g_4] at A_4 st_4
 have V_4 : Arv Z h_4 b_4 k_4 .char (2 : Int32) [(.int (0 : Int32)), (.int (0 : Int32))] (.int (0 : Int32)) := (Arv.new A_4 (by decide)).pad (pad_rep [] (.int (0 : Int32)) 2)
 have gg_4 : n0 ≤ b_4 := Nat.le_trans Zs_2 (Nat.le_of_eq g_4.symm)
 have sz_4 : h0.size ≤ b_4 := Nat.le_trans Kp_3.1 (Nat.le_of_eq g_4.symm)
 refine own_st st_4 ?_
 show own_Go _ _ _ _ (T_4.setTop (mkF m 47 #[iv 2, iv p2, iv p3, iv p4] [(.ref b_4), (.ref b_1), (.ref b_1)]))
 refine o_dup X_4 Hq d2_47 rfl (o_iconst X_4 Hq 0 d2_48 rfl (o_iloadN X_4 Hq d2_49 rfl ?_))
 obtain ⟨cl_5, Ar_5, qk_5, Sz_5, Ng_5, Hs_5, Gs_5⟩ := id V_4
 obtain ⟨T_6, h_6, X_6, e_6, W_6, st_6⟩ := stC X_4 hx hZ e_4 Ar_5 (j := (0 : Int32)) (inb_of Sz_5 ⟨by decide, by decide⟩) (g := (mkF m 50 #[iv 2, iv p2, iv p3, iv p4] [(.int p2), (.int 0), (.ref b_4), (.ref b_4), (.ref b_1), (.ref b_1)])) rfl rfl (hb hby d2_50)
 refine own_st st_6 ?_
 have V_6 : Arv Z h_6 b_4 k_4 .char (2 : Int32) [(.int p2), (.int (0 : Int32))] (.int (0 : Int32)) := by have q := Arv.set Ar_5 qk_5 Sz_5 Ng_5 Hs_5 Gs_5 (fits_nar_char _) W_6 0 rfl (Nat.le_of_ble_eq_true rfl); rw [hn0] at q; exact q
 have N_6 := Fr.snoc X_6 (Fr.nil n0) gg_4
 show own_Go _ _ _ _ (T_6.setTop (mkF m 51 #[iv 2, iv p2, iv p3, iv p4] [(.ref b_4), (.ref b_1), (.ref b_1)]))
 refine o_dup X_6 Hq d2_51 rfl (o_iconst X_6 Hq 1 d2_52 rfl (o_iloadN X_6 Hq d2_53 rfl ?_))
 obtain ⟨cl_7, Ar_7, qk_7, Sz_7, Ng_7, Hs_7, Gs_7⟩ := id V_6
 obtain ⟨T_8, h_8, X_8, e_8, W_8, st_8⟩ := stC X_6 hx hZ e_6 Ar_7 (j := (1 : Int32)) (inb_of Sz_7 ⟨by decide, by decide⟩) (g := (mkF m 54 #[iv 2, iv p2, iv p3, iv p4] [(.int p3), (.int 1), (.ref b_4), (.ref b_4), (.ref b_1), (.ref b_1)])) rfl rfl (hb hby d2_54)
 refine own_st st_8 ?_
 have V_8 : Arv Z h_8 b_4 k_4 .char (2 : Int32) [(.int p2), (.int p3)] (.int (0 : Int32)) := by have q := Arv.set Ar_7 qk_7 Sz_7 Ng_7 Hs_7 Gs_7 (fits_nar_char _) W_8 1 rfl (Nat.le_of_ble_eq_true rfl); rw [hn1] at q; exact q
 have N_8 := Fr.snoc X_8 N_6 gg_4
 show own_Go _ _ _ _ (T_8.setTop (mkF m 55 #[iv 2, iv p2, iv p3, iv p4] [(.ref b_4), (.ref b_1), (.ref b_1)]))
 have Fa_10 := (((A_1.ext E_4).wr W_6).wr W_8)
 have Fa_11 := (((Fi_1_value.ext E_4).other W_6 (Or.inl (Nat.ne_of_lt (Nat.lt_of_lt_of_le Fi_1_coder.lt (Nat.le_of_eq g_4.symm))))).other W_8 (Or.inl (Nat.ne_of_lt (Nat.lt_of_lt_of_le Fi_1_coder.lt (Nat.le_of_eq g_4.symm)))))
 have Fa_12 := (((Fi_1_coder.ext E_4).other W_6 (Or.inl (Nat.ne_of_lt (Nat.lt_of_lt_of_le Fi_1_coder.lt (Nat.le_of_eq g_4.symm))))).other W_8 (Or.inl (Nat.ne_of_lt (Nat.lt_of_lt_of_le Fi_1_coder.lt (Nat.le_of_eq g_4.symm)))))
 have Fa_13 := ((((S1.ext E_1).ext E_4).wr W_6).wr W_8)
 have Zs_14 : n0 ≤ h_8.size := (Nat.le_trans (Nat.le_trans (Nat.le_trans Zs_2 E_4.1) (Keep.of_wr W_6).1) (Keep.of_wr W_8).1)
 refine c_I1v X_8 Hq e_8 hZ hown hml (k2_9 hw) (rmiA2 hw b_1 b_4 k_4 (.int (0 : Int32)) w p2 p3 h_8 n0 Zs_14 Fa_10 gg_1 Fa_11 Fa_12 V_8 hc0 hc1 Fa_13 hw0) d2_55 ?_ 1
 rintro T_9 L_9 X_9 ⟨b__9, kb__9, -, Nq_9, K_9, gq_9_b, sq_9_b, Fq_9_0, Fq_9_1, Fq_9_2⟩
 have N_9 := Fr.app N_8 Nq_9
 have Kp_15 : Keep h0 h_8 [] := (((Kp_3.ext E_4).wr W_6 (Or.inr sz_4)).wr W_8 (Or.inr sz_4))
 have szq_9_b : h0.size ≤ b__9 := Nat.le_trans Kp_15.1 sq_9_b
 have Kp_16 : Keep h0 T_9.heap [] := (Kp_15.trans K_9 (allS (Or.inr sz_1) all0))
 have Fa_17 := (Fa_10.keep K_9)
 exact e_R X_9 rfl Hq hlk rfl rfl hrt d2_58 ⟨b_1, b__9, kb__9, rfl, N_9, Kp_16, gg_1, sz_1, Fa_17, Fq_9_0, Fq_9_1, Fq_9_2⟩
theorem d2_59 : D2 59 = .ok (.new 7, 3) := by decide +kernel
theorem d2_62 : D2 62 = .ok (.dup, 1) := by decide +kernel
theorem d2_63 : D2 63 = .ok (.iconst 3, 1) := by decide +kernel
theorem d2_64 : D2 64 = .ok (.newarray .char, 2) := by decide +kernel
theorem d2_66 : D2 66 = .ok (.dup, 1) := by decide +kernel
theorem d2_67 : D2 67 = .ok (.iconst 0, 1) := by decide +kernel
theorem d2_68 : D2 68 = .ok (.iload_n 1, 1) := by decide +kernel
theorem d2_69 : D2 69 = .ok (.castore, 1) := by decide +kernel
theorem d2_70 : D2 70 = .ok (.dup, 1) := by decide +kernel
theorem d2_71 : D2 71 = .ok (.iconst 1, 1) := by decide +kernel
theorem d2_72 : D2 72 = .ok (.iload_n 2, 1) := by decide +kernel
theorem d2_73 : D2 73 = .ok (.castore, 1) := by decide +kernel
theorem d2_74 : D2 74 = .ok (.dup, 1) := by decide +kernel
theorem d2_75 : D2 75 = .ok (.iconst 2, 1) := by decide +kernel
theorem d2_76 : D2 76 = .ok (.iload_n 3, 1) := by decide +kernel
theorem d2_77 : D2 77 = .ok (.castore, 1) := by decide +kernel
theorem d2_78 : D2 78 = .ok (.invokespecial 9, 3) := by decide +kernel
theorem d2_81 : D2 81 = .ok (.areturn, 1) := by decide +kernel
def Q_rmmake3 (Z : State) (a0 : Array Value) (p2 p3 p4 w : Int32) (h0 : Heap) (n0 : Nat) (v : Option Value) (h : Heap) (L : List Loc) : Prop := ∃ b : Addr, ∃ t : Addr, ∃ kt : ClassId, v = some (.ref b) ∧ Fr n0 L ∧ Keep h0 h [] ∧ n0 ≤ b ∧ h0.size ≤ b ∧ Exa Z h b "java/lang/String" ∧ Fld Z h b "java/lang/String" "value" "[B" (.ref t) ∧ Fld Z h b "java/lang/String" "coder" "B" (.int (0 : Int32)) ∧ Arv Z h t kt .byte (3 : Int32) [(.int ((p2.toInt8.toInt32).toInt8.toInt32)), (.int ((p3.toInt8.toInt32).toInt8.toInt32)), (.int ((p4.toInt8.toInt32).toInt8.toInt32))] (.int (0 : Int32))
theorem rmmake3 (hw : HW a0 Z) (p2 p3 p4 w : Int32) (h0 : Heap) (n0 : Nat) (Z0 : n0 ≤ h0.size) (S1 : Sta Z h0 "java/lang/String" "COMPACT_STRINGS" "Z" (.int w)) (hw0 : ¬ w = (0 : Int32)) (hn0 : nar .char p2 = p2) (hn1 : nar .char p3 = p3) (hn2 : nar .char p4 = p4) (hc0 : ¬ (255 : Int32) < p2) (hc1 : ¬ (255 : Int32) < p3) (hc2 : ¬ (255 : Int32) < p4) :
  own_Met l y1_ method_3_code 4 (some (.object "java/lang/String")) (R_ 4 3 10 66) #[(.int (3 : Int32)), (.int p2), (.int p3), (.int p4)] Z h0 (Q_rmmake3 Z a0 p2 p3 p4 w h0 n0) := by
 refine own_bd (own := "com/example/vernum/vernum/VersionScannerAtEndPinLaw") rfl (plainFor_of_name pn_1) #[iv 3, iv p2, iv p3, iv p4] ?_
 intro p e s m below meth c s₁ hx hby Hq hml hown hnm hlk hrt hZ X0 e0
 refine o_iloadN X0 Hq d2_0 rfl (o_ifYes X0 Hq (pc' := 15) d2_1 (by decide) (o_iloadN X0 Hq d2_15 rfl (o_iconst X0 Hq 1 d2_16 rfl (o_icmpYes X0 Hq (pc' := 35) d2_17 (by decide) (o_iloadN X0 Hq d2_35 rfl (o_iconst X0 Hq 2 d2_36 rfl (o_icmpYes X0 Hq (pc' := 59) d2_37 (by decide) ?_)))))))
 obtain ⟨T_1, h_1, X_1, e_1, E_1, A_1, D_1, -, st_1⟩ := newO X0 hx hZ hown (w_ hw 8 rfl) (w_ hw 9 rfl) (w_ hw 10 rfl) e0 (g := (mkF m 59 #[iv 3, iv p2, iv p3, iv p4] [])) rfl (hb hby d2_59) (by decide) (by decide)
 obtain ⟨b_1, g_1⟩ : ∃ z, z = h0.size := ⟨_, rfl⟩
 rw [← g_1] at A_1 D_1 st_1
 have gg_1 : n0 ≤ b_1 := Nat.le_trans Z0 (Nat.le_of_eq g_1.symm)
 have sz_1 : h0.size ≤ b_1 := Nat.le_trans (Keep.refl h0 []).1 (Nat.le_of_eq g_1.symm)
 have Fi_1_coder : Fld Z h_1 b_1 "java/lang/String" "coder" "B" (.int (0 : Int32)) := D_1 (Or.inr (w_ hw 34 rfl)) (ty := .byte) (by decide)
 have Fi_1_value : Fld Z h_1 b_1 "java/lang/String" "value" "[B" .null := D_1 (Or.inr (w_ hw 36 rfl)) (ty := (.array .byte)) (by decide)
 refine own_st st_1 ?_
 show own_Go _ _ _ _ (T_1.setTop (mkF m 62 #[iv 3, iv p2, iv p3, iv p4] [(.ref b_1)]))
 refine o_dup X_1 Hq d2_62 rfl (o_iconst X_1 Hq 3 d2_63 rfl ?_)
 have Zs_2 : n0 ≤ h_1.size := (Nat.le_trans Z0 E_1.1)
 have Kp_3 : Keep h0 h_1 [] := ((Keep.refl h0 []).ext E_1)
 obtain ⟨T_4, h_4, k_4, X_4, e_4, E_4, A_4, st_4⟩ := newP X_1 hx hZ (w_ hw 4 rfl) e_1 (g := (mkF m 64 #[iv 3, iv p2, iv p3, iv p4] [(.int 3), (.ref b_1), (.ref b_1)])) rfl (hb hby d2_64) rfl (by decide) (cap := 3) (by decide) (by decide) (by decide) (by decide)
 obtain ⟨b_4, g_4⟩ : ∃ z, z = h_1.size := ⟨_, rfl⟩
 rw [← g_4] at A_4 st_4
 have V_4 : Arv Z h_4 b_4 k_4 .char (3 : Int32) [(.int (0 : Int32)), (.int (0 : Int32)), (.int (0 : Int32))] (.int (0 : Int32)) := (Arv.new A_4 (by decide)).pad (pad_rep [] (.int (0 : Int32)) 3)
 have gg_4 : n0 ≤ b_4 := Nat.le_trans Zs_2 (Nat.le_of_eq g_4.symm)
 have sz_4 : h0.size ≤ b_4 := Nat.le_trans Kp_3.1 (Nat.le_of_eq g_4.symm)
 refine own_st st_4 ?_
 show own_Go _ _ _ _ (T_4.setTop (mkF m 66 #[iv 3, iv p2, iv p3, iv p4] [(.ref b_4), (.ref b_1), (.ref b_1)]))
 refine o_dup X_4 Hq d2_66 rfl (o_iconst X_4 Hq 0 d2_67 rfl (o_iloadN X_4 Hq d2_68 rfl ?_))
 obtain ⟨cl_5, Ar_5, qk_5, Sz_5, Ng_5, Hs_5, Gs_5⟩ := id V_4
 obtain ⟨T_6, h_6, X_6, e_6, W_6, st_6⟩ := stC X_4 hx hZ e_4 Ar_5 (j := (0 : Int32)) (inb_of Sz_5 ⟨by decide, by decide⟩) (g := (mkF m 69 #[iv 3, iv p2, iv p3, iv p4] [(.int p2), (.int 0), (.ref b_4), (.ref b_4), (.ref b_1), (.ref b_1)])) rfl rfl (hb hby d2_69)
 refine own_st st_6 ?_
 have V_6 : Arv Z h_6 b_4 k_4 .char (3 : Int32) [(.int p2), (.int (0 : Int32)), (.int (0 : Int32))] (.int (0 : Int32)) := by have q := Arv.set Ar_5 qk_5 Sz_5 Ng_5 Hs_5 Gs_5 (fits_nar_char _) W_6 0 rfl (Nat.le_of_ble_eq_true rfl); rw [hn0] at q; exact q
 have N_6 := Fr.snoc X_6 (Fr.nil n0) gg_4
 show own_Go _ _ _ _ (T_6.setTop (mkF m 70 #[iv 3, iv p2, iv p3, iv p4] [(.ref b_4), (.ref b_1), (.ref b_1)]))
 refine o_dup X_6 Hq d2_70 rfl (o_iconst X_6 Hq 1 d2_71 rfl (o_iloadN X_6 Hq d2_72 rfl ?_))
 obtain ⟨cl_7, Ar_7, qk_7, Sz_7, Ng_7, Hs_7, Gs_7⟩ := id V_6
 obtain ⟨T_8, h_8, X_8, e_8, W_8, st_8⟩ := stC X_6 hx hZ e_6 Ar_7 (j := (1 : Int32)) (inb_of Sz_7 ⟨by decide, by decide⟩) (g := (mkF m 73 #[iv 3, iv p2, iv p3, iv p4] [(.int p3), (.int 1), (.ref b_4), (.ref b_4), (.ref b_1), (.ref b_1)])) rfl rfl (hb hby d2_73)
 refine own_st st_8 ?_
 have V_8 : Arv Z h_8 b_4 k_4 .char (3 : Int32) [(.int p2), (.int p3), (.int (0 : Int32))] (.int (0 : Int32)) := by have q := Arv.set Ar_7 qk_7 Sz_7 Ng_7 Hs_7 Gs_7 (fits_nar_char _) W_8 1 rfl (Nat.le_of_ble_eq_true rfl); rw [hn1] at q; exact q
 have N_8 := Fr.snoc X_8 N_6 gg_4
 show own_Go _ _ _ _ (T_8.setTop (mkF m 74 #[iv 3, iv p2, iv p3, iv p4] [(.ref b_4), (.ref b_1), (.ref b_1)]))
 refine o_dup X_8 Hq d2_74 rfl (o_iconst X_8 Hq 2 d2_75 rfl (o_iloadN X_8 Hq d2_76 rfl ?_))
 obtain ⟨cl_9, Ar_9, qk_9, Sz_9, Ng_9, Hs_9, Gs_9⟩ := id V_8
 obtain ⟨T_10, h_10, X_10, e_10, W_10, st_10⟩ := stC X_8 hx hZ e_8 Ar_9 (j := (2 : Int32)) (inb_of Sz_9 ⟨by decide, by decide⟩) (g := (mkF m 77 #[iv 3, iv p2, iv p3, iv p4] [(.int p4), (.int 2), (.ref b_4), (.ref b_4), (.ref b_1), (.ref b_1)])) rfl rfl (hb hby d2_77)
 refine own_st st_10 ?_
 have V_10 : Arv Z h_10 b_4 k_4 .char (3 : Int32) [(.int p2), (.int p3), (.int p4)] (.int (0 : Int32)) := by have q := Arv.set Ar_9 qk_9 Sz_9 Ng_9 Hs_9 Gs_9 (fits_nar_char _) W_10 2 rfl (Nat.le_of_ble_eq_true rfl); rw [hn2] at q; exact q
 have N_10 := Fr.snoc X_10 N_8 gg_4
 show own_Go _ _ _ _ (T_10.setTop (mkF m 78 #[iv 3, iv p2, iv p3, iv p4] [(.ref b_4), (.ref b_1), (.ref b_1)]))
 have Fa_12 := ((((A_1.ext E_4).wr W_6).wr W_8).wr W_10)
 have Fa_13 := ((((Fi_1_value.ext E_4).other W_6 (Or.inl (Nat.ne_of_lt (Nat.lt_of_lt_of_le Fi_1_coder.lt (Nat.le_of_eq g_4.symm))))).other W_8 (Or.inl (Nat.ne_of_lt (Nat.lt_of_lt_of_le Fi_1_coder.lt (Nat.le_of_eq g_4.symm))))).other W_10 (Or.inl (Nat.ne_of_lt (Nat.lt_of_lt_of_le Fi_1_coder.lt (Nat.le_of_eq g_4.symm)))))
 have Fa_14 := ((((Fi_1_coder.ext E_4).other W_6 (Or.inl (Nat.ne_of_lt (Nat.lt_of_lt_of_le Fi_1_coder.lt (Nat.le_of_eq g_4.symm))))).other W_8 (Or.inl (Nat.ne_of_lt (Nat.lt_of_lt_of_le Fi_1_coder.lt (Nat.le_of_eq g_4.symm))))).other W_10 (Or.inl (Nat.ne_of_lt (Nat.lt_of_lt_of_le Fi_1_coder.lt (Nat.le_of_eq g_4.symm)))))
 have Fa_15 := (((((S1.ext E_1).ext E_4).wr W_6).wr W_8).wr W_10)
 have Zs_16 : n0 ≤ h_10.size := (Nat.le_trans (Nat.le_trans (Nat.le_trans (Nat.le_trans Zs_2 E_4.1) (Keep.of_wr W_6).1) (Keep.of_wr W_8).1) (Keep.of_wr W_10).1)
 refine c_I1v X_10 Hq e_10 hZ hown hml (k2_9 hw) (rmiA3 hw b_1 b_4 k_4 (.int (0 : Int32)) w p2 p3 p4 h_10 n0 Zs_16 Fa_12 gg_1 Fa_13 Fa_14 V_10 hc0 hc1 hc2 Fa_15 hw0) d2_78 ?_ 1
 rintro T_11 L_11 X_11 ⟨b__11, kb__11, -, Nq_11, K_11, gq_11_b, sq_11_b, Fq_11_0, Fq_11_1, Fq_11_2⟩
 have N_11 := Fr.app N_10 Nq_11
 have Kp_17 : Keep h0 h_10 [] := ((((Kp_3.ext E_4).wr W_6 (Or.inr sz_4)).wr W_8 (Or.inr sz_4)).wr W_10 (Or.inr sz_4))
 have szq_11_b : h0.size ≤ b__11 := Nat.le_trans Kp_17.1 sq_11_b
 have Kp_18 : Keep h0 T_11.heap [] := (Kp_17.trans K_11 (allS (Or.inr sz_1) all0))
 have Fa_19 := (Fa_12.keep K_11)
 exact e_R X_11 rfl Hq hlk rfl rfl hrt d2_81 ⟨b_1, b__11, kb__11, rfl, N_11, Kp_18, gg_1, sz_1, Fa_19, Fq_11_0, Fq_11_1, Fq_11_2⟩
theorem pn_9 : plainName "com/example/vernum/vernum/VersionScanner" = true := by first | (simp [plainName, overriddenIn]; done) | decide +kernel
abbrev D9 := decode prog_24_method_1_code
theorem d9_0 : D9 0 = .ok (.aload_n 0, 1) := by decide +kernel
theorem d9_1 : D9 1 = .ok (.invokespecial 1, 3) := by decide +kernel
theorem d9_4 : D9 4 = .ok (.aload_n 0, 1) := by decide +kernel
theorem d9_5 : D9 5 = .ok (.aload_n 1, 1) := by decide +kernel
theorem d9_6 : D9 6 = .ok (.putfield 7, 3) := by decide +kernel
theorem d9_9 : D9 9 = .ok (.aload_n 0, 1) := by decide +kernel
theorem d9_10 : D9 10 = .ok (.aload_n 1, 1) := by decide +kernel
theorem d9_11 : D9 11 = .ok (.invokevirtual 13, 3) := by decide +kernel
theorem pd_11 : parseMethodDescriptor "()I" = some ⟨[], some .int⟩ := by decide +kernel
theorem k9_13U1 {a0 : Array Value} {Z : State} (hw : HW a0 Z) : own_KU a0 Z "com/example/vernum/vernum/VersionScanner" "java/lang/String" 13 y7_ y7_ jdk_42_method_54_code 1 (some .int) 0 := ⟨⟨(w_ hw 46 rfl), ⟨_, _, pd_11, rfl⟩, by decide⟩, (w_ hw 47 rfl), (w_ hw 49 rfl), (w_ hw 48 rfl), (w_ hw 10 rfl), (w_ hw 50 rfl)⟩
theorem d9_14 : D9 14 = .ok (.putfield 19, 3) := by decide +kernel
theorem d9_17 : D9 17 = .ok (.return_, 1) := by decide +kernel
def Q_rm9 (Z : State) (a0 : Array Value) (a1 a2 b : Addr) (k1 : ClassId) (N : Int32) (vs : List Value) (d1 : Value) (w : Int32) (h0 : Heap) (n0 : Nat) (v : Option Value) (h : Heap) (L : List Loc) : Prop := v = none ∧ Fr n0 L ∧ Keep h0 h [a1] ∧ Fld Z h a1 "com/example/vernum/vernum/VersionScanner" "input" "Ljava/lang/String;" (.ref a2) ∧ Fld Z h a1 "com/example/vernum/vernum/VersionScanner" "end" "I" (.int N) ∧ Fld Z h a1 "com/example/vernum/vernum/VersionScanner" "position" "I" (.int (0 : Int32)) ∧ Fld Z h a1 "com/example/vernum/vernum/VersionScanner" "peeked" "I" (.int (0 : Int32))
theorem rm9 (hw : HW a0 Z) (a1 a2 b : Addr) (k1 : ClassId) (N : Int32) (vs : List Value) (d1 : Value) (w : Int32) (h0 : Heap) (n0 : Nat) (Z0 : n0 ≤ h0.size) (E1 : Exa Z h0 a1 "com/example/vernum/vernum/VersionScanner") (g1 : n0 ≤ a1) (F1 : Fld Z h0 a1 "com/example/vernum/vernum/VersionScanner" "input" "Ljava/lang/String;" .null) (F2 : Fld Z h0 a1 "com/example/vernum/vernum/VersionScanner" "end" "I" (.int (0 : Int32))) (F3 : Fld Z h0 a1 "com/example/vernum/vernum/VersionScanner" "position" "I" (.int (0 : Int32))) (F4 : Fld Z h0 a1 "com/example/vernum/vernum/VersionScanner" "peeked" "I" (.int (0 : Int32))) (n12 : a2 ≠ a1) (nb1 : b ≠ a1) (E_s : Exa Z h0 a2 "java/lang/String") (F_v : Fld Z h0 a2 "java/lang/String" "value" "[B" (.ref b)) (F_c : Fld Z h0 a2 "java/lang/String" "coder" "B" (.int (0 : Int32))) (V_s : Arv Z h0 b k1 .byte N vs d1) (S1 : Sta Z h0 "java/lang/String" "COMPACT_STRINGS" "Z" (.int w)) (hw0 : ¬ w = (0 : Int32)) :
  own_Met l y16_ prog_24_method_1_code 2 none (R_ 2 0 0 26) #[(.ref a1), (.ref a2)] Z h0 (Q_rm9 Z a0 a1 a2 b k1 N vs d1 w h0 n0) := by
 refine own_bd (own := "com/example/vernum/vernum/VersionScanner") rfl (plainFor_of_name pn_9) #[rv a1, rv a2] ?_
 intro p e s m below meth c s₁ hx hby Hq hml hown hnm hlk hrt hZ X0 e0
 refine o_aloadN X0 Hq d9_0 rfl rfl ?_
 obtain ⟨T_1, X_1, e_1, st_1⟩ := initO X0 hx hZ hown (w_ hw 43 rfl) (w_ hw 19 rfl) (w_ hw 20 rfl) e0 (g := (mkF m 1 #[rv a1, rv a2] [(.ref a1)])) rfl (by rw [hml]; rfl) rfl (hb hby d9_1) (by decide) (W := 0) (z_ rfl) (by decide)
 refine own_st st_1 ?_
 show own_Go _ _ _ _ (T_1.setTop (mkF m 4 #[rv a1, rv a2] []))
 refine o_aloadN X_1 Hq d9_4 rfl rfl (o_aloadN X_1 Hq d9_5 rfl rfl ?_)
 obtain ⟨T_2, h_2, X_2, e_2, W_2, st_2⟩ := putF X_1 hx hZ hown (host := "") (Or.inl (w_ hw 44 rfl)) Via.refl e_1 F1 E1 (Or.inr ⟨(w_ hw 45 rfl), rfl, hnm⟩) (w_ hw 38 rfl) (ty := (.object "java/lang/String")) (by decide) rfl rfl (g := (mkF m 6 #[rv a1, rv a2] [(.ref a2), (.ref a1)])) rfl rfl (hb hby d9_6)
 refine own_st st_2 ?_
 have N_2 := Fr.snoc X_2 (Fr.nil n0) g1
 show own_Go _ _ _ _ (T_2.setTop (mkF m 9 #[rv a1, rv a2] []))
 refine o_aloadN X_2 Hq d9_9 rfl rfl (o_aloadN X_2 Hq d9_10 rfl rfl ?_)
 have Fa_4 := (E_s.wr W_2)
 have Fa_5 := (F_v.other W_2 (Or.inl n12))
 have Fa_6 := (F_c.other W_2 (Or.inl n12))
 have Fa_7 := (V_s.other W_2 nb1)
 have Fa_8 := (S1.wr W_2)
 have Zs_9 : n0 ≤ h_2.size := (Nat.le_trans Z0 (Keep.of_wr W_2).1)
 refine c_U0 X_2 Hq e_2 hZ hown hml (k9_13U1 hw) (rmlenN hw a2 b k1 N vs d1 w h_2 n0 Zs_9 Fa_4 Fa_5 Fa_6 Fa_7 Fa_8 hw0) Fa_4 d9_11 ?_ 1
 rintro T_3 L_3 _ X_3 ⟨⟨⟩, Nq_3, e_3⟩
 have N_3 := Fr.app N_2 Nq_3
 have Fa_10 := (F2.other W_2 (Or.inr (slot_ne (Or.inl (w_ hw 57 rfl)) (Or.inr (w_ hw 45 rfl)) (by decide) (t := .int) (t' := (.object "java/lang/String")) (by decide) (by decide))))
 have Fa_11 := (E1.wr W_2)
 obtain ⟨T_12, h_12, X_12, e_12, W_12, st_12⟩ := putF X_3 hx hZ hown (host := "") (Or.inl (w_ hw 56 rfl)) Via.refl e_3 Fa_10 Fa_11 (Or.inl (w_ hw 57 rfl)) (w_ hw 38 rfl) (ty := .int) (by decide) rfl rfl (g := (mkF m 14 #[rv a1, rv a2] [(.int N), (.ref a1)])) rfl rfl (hb hby d9_14)
 refine own_st st_12 ?_
 have N_12 := Fr.snoc X_12 N_3 g1
 show own_Go _ _ _ _ (T_12.setTop (mkF m 17 #[rv a1, rv a2] []))
 have Kp_13 : Keep h0 h_12 [a1] := (((Keep.refl h0 [a1]).wr W_2 (Or.inl (List.mem_of_getElem? (i := 0) rfl))).wr W_12 (Or.inl (List.mem_of_getElem? (i := 0) rfl)))
 have Fa_14 := ((F1.same W_2).other W_12 (Or.inr (slot_ne (Or.inr (w_ hw 45 rfl)) (Or.inl (w_ hw 57 rfl)) (by decide) (t := (.object "java/lang/String")) (t' := .int) (by decide) (by decide))))
 have Fa_15 := (Fa_10.same W_12)
 have Fa_16 := ((F3.other W_2 (Or.inr (slot_ne (Or.inl (w_ hw 64 rfl)) (Or.inr (w_ hw 45 rfl)) (by decide) (t := .int) (t' := (.object "java/lang/String")) (by decide) (by decide)))).other W_12 (Or.inr (slot_ne (Or.inl (w_ hw 64 rfl)) (Or.inl (w_ hw 57 rfl)) (by decide) (t := .int) (t' := .int) (by decide) (by decide))))
 have Fa_17 := ((F4.other W_2 (Or.inr (slot_ne (Or.inl (w_ hw 104 rfl)) (Or.inr (w_ hw 45 rfl)) (by decide) (t := .int) (t' := (.object "java/lang/String")) (by decide) (by decide)))).other W_12 (Or.inr (slot_ne (Or.inl (w_ hw 104 rfl)) (Or.inl (w_ hw 57 rfl)) (by decide) (t := .int) (t' := .int) (by decide) (by decide))))
 exact e_V X_12 e_12 Hq hlk hrt d9_17 ⟨rfl, N_12, Kp_13, Fa_14, Fa_15, Fa_16, Fa_17⟩
def own_atEnd  (w1 w2 : Int32) : Int32 := (if w1 = w2 then (1 : Int32) else (0 : Int32))
abbrev D12 := decode prog_24_method_6_code
theorem d12_0 : D12 0 = .ok (.aload_n 0, 1) := by decide +kernel
theorem d12_1 : D12 1 = .ok (.getfield 23, 3) := by decide +kernel
theorem d12_4 : D12 4 = .ok (.aload_n 0, 1) := by decide +kernel
theorem d12_5 : D12 5 = .ok (.getfield 19, 3) := by decide +kernel
theorem d12_8 : D12 8 = .ok (.if_icmp .ne 7, 3) := by decide +kernel
theorem d12_11 : D12 11 = .ok (.iconst 1, 1) := by decide +kernel
theorem d12_12 : D12 12 = .ok (.goto 4, 3) := by decide +kernel
theorem d12_16 : D12 16 = .ok (.ireturn, 1) := by decide +kernel
theorem d12_15 : D12 15 = .ok (.iconst 0, 1) := by decide +kernel
def Q_rm12 (Z : State) (a0 : Array Value) (a1 : Addr) (w1 w2 : Int32) (h0 : Heap) (n0 : Nat) (v : Option Value) (h : Heap) (L : List Loc) : Prop := v = some (.int (own_atEnd w1 w2)) ∧ Fr n0 L ∧ h = h0
theorem rm12 (hw : HW a0 Z) (a1 : Addr) (w1 w2 : Int32) (h0 : Heap) (n0 : Nat) (Z0 : n0 ≤ h0.size) (F1 : Fld Z h0 a1 "com/example/vernum/vernum/VersionScanner" "position" "I" (.int w1)) (F2 : Fld Z h0 a1 "com/example/vernum/vernum/VersionScanner" "end" "I" (.int w2)) :
  own_Met l y17_ prog_24_method_6_code 1 (some .boolean) (R_ 0 0 0 0) #[(.ref a1)] Z h0 (Q_rm12 Z a0 a1 w1 w2 h0 n0) := by
 refine own_bd (own := "com/example/vernum/vernum/VersionScanner") rfl (plainFor_of_name pn_9) #[rv a1] ?_
 intro p e s m below meth c s₁ hx hby Hq hml hown hnm hlk hrt hZ X0 e0
 have hv : own_atEnd w1 w2 = (if w1 = w2 then (1 : Int32) else (0 : Int32)) := rfl
 show own_Go _ _ _ _ (s₁.setTop (mkF m 0 #[rv a1] []))
 refine o_aloadN X0 Hq d12_0 rfl rfl ?_
 obtain ⟨T_1, X_1, e_1, st_1⟩ := getF X0 hx hZ hown (host := "") (Or.inl (w_ hw 63 rfl)) Via.refl e0 F1 (g := (mkF m 1 #[rv a1] [(.ref a1)])) rfl rfl (hb hby d12_1)
 refine own_st st_1 ?_
 show own_Go _ _ _ _ (T_1.setTop (mkF m 4 #[rv a1] [(.int w1)]))
 refine o_aloadN X_1 Hq d12_4 rfl rfl ?_
 obtain ⟨T_2, X_2, e_2, st_2⟩ := getF X_1 hx hZ hown (host := "") (Or.inl (w_ hw 56 rfl)) Via.refl e_1 F2 (g := (mkF m 5 #[rv a1] [(.ref a1), (.int w1)])) rfl rfl (hb hby d12_5)
 refine own_st st_2 ?_
 show own_Go _ _ _ _ (T_2.setTop (mkF m 8 #[rv a1] [(.int w2), (.int w1)]))
 by_cases hc8__3 : w1 = w2
 ·have hv_4 := hv.trans (if_pos hc8__3)
  refine o_icmpNo X_2 Hq d12_8 (teq hc8__3).2 (o_iconst X_2 Hq 1 d12_11 rfl (o_goto X_2 Hq (pc' := 16) d12_12 ?_))
  exact e_Z X_2 e_2 Hq hlk hrt d12_16 ⟨(congrArg (fun z => some (Value.int z)) hv_4.symm), (Fr.nil n0), rfl⟩
 ·have hv_5 := hv.trans (if_neg hc8__3)
  refine o_icmpYes X_2 Hq (pc' := 15) d12_8 (feq hc8__3).2 (o_iconst X_2 Hq 0 d12_15 rfl ?_)
  exact e_Z X_2 e_2 Hq hlk hrt d12_16 ⟨(congrArg (fun z => some (Value.int z)) hv_5.symm), (Fr.nil n0), rfl⟩
abbrev D20 := decode prog_24_method_4_code
theorem d20_0 : D20 0 = .ok (.aload_n 0, 1) := by decide +kernel
theorem d20_1 : D20 1 = .ok (.aload_n 0, 1) := by decide +kernel
theorem d20_2 : D20 2 = .ok (.getfield 7, 3) := by decide +kernel
theorem d20_5 : D20 5 = .ok (.invokevirtual 13, 3) := by decide +kernel
theorem k20_13U1 {a0 : Array Value} {Z : State} (hw : HW a0 Z) : own_KU a0 Z "com/example/vernum/vernum/VersionScanner" "java/lang/String" 13 y7_ y7_ jdk_42_method_54_code 1 (some .int) 0 := ⟨⟨(w_ hw 46 rfl), ⟨_, _, pd_11, rfl⟩, by decide⟩, (w_ hw 47 rfl), (w_ hw 49 rfl), (w_ hw 48 rfl), (w_ hw 10 rfl), (w_ hw 50 rfl)⟩
theorem d20_8 : D20 8 = .ok (.iconst 1, 1) := by decide +kernel
theorem d20_9 : D20 9 = .ok (.iadd, 1) := by decide +kernel
theorem d20_10 : D20 10 = .ok (.putfield 26, 3) := by decide +kernel
theorem d20_13 : D20 13 = .ok (.aload_n 0, 1) := by decide +kernel
theorem d20_14 : D20 14 = .ok (.getfield 23, 3) := by decide +kernel
theorem d20_17 : D20 17 = .ok (.aload_n 0, 1) := by decide +kernel
theorem d20_18 : D20 18 = .ok (.getfield 19, 3) := by decide +kernel
theorem d20_21 : D20 21 = .ok (.if_icmp .ge 32, 3) := by decide +kernel
theorem d20_53 : D20 53 = .ok (.aload_n 0, 1) := by decide +kernel
theorem d20_54 : D20 54 = .ok (.getfield 19, 3) := by decide +kernel
theorem d20_57 : D20 57 = .ok (.aload_n 0, 1) := by decide +kernel
theorem d20_58 : D20 58 = .ok (.getfield 23, 3) := by decide +kernel
theorem d20_61 : D20 61 = .ok (.if_icmp .le 34, 3) := by decide +kernel
theorem d20_95 : D20 95 = .ok (.return_, 1) := by decide +kernel
def Q_rmtrim0_ (Z : State) (a0 : Array Value) (a1 a2 b : Addr) (k1 : ClassId) (vs : List Value) (d1 : Value) (w : Int32) (sfv : Value) (f : Int32 → Int32) (h0 : Heap) (n0 : Nat) (v : Option Value) (h : Heap) (L : List Loc) : Prop := v = none ∧ Fr n0 L ∧ Keep h0 h [a1] ∧ Fld Z h a1 "com/example/vernum/vernum/VersionScanner" "input" "Ljava/lang/String;" (.ref a2) ∧ Fld Z h a1 "com/example/vernum/vernum/VersionScanner" "end" "I" (.int (0 : Int32)) ∧ Fld Z h a1 "com/example/vernum/vernum/VersionScanner" "position" "I" (.int (0 : Int32))
theorem rmtrim0_ (hw : HW a0 Z) (a1 a2 b : Addr) (k1 : ClassId) (vs : List Value) (d1 : Value) (w : Int32) (sfv : Value) (f : Int32 → Int32) (h0 : Heap) (n0 : Nat) (Z0 : n0 ≤ h0.size) (E1 : Exa Z h0 a1 "com/example/vernum/vernum/VersionScanner") (g1 : n0 ≤ a1) (F1 : Fld Z h0 a1 "com/example/vernum/vernum/VersionScanner" "input" "Ljava/lang/String;" (.ref a2)) (F2 : Fld Z h0 a1 "com/example/vernum/vernum/VersionScanner" "end" "I" (.int (0 : Int32))) (F3 : Fld Z h0 a1 "com/example/vernum/vernum/VersionScanner" "position" "I" (.int (0 : Int32))) (F4 : Fld Z h0 a1 "com/example/vernum/vernum/VersionScanner" "peeked" "I" (.int (0 : Int32))) (n12 : a2 ≠ a1) (nb1 : b ≠ a1) (E_s : Exa Z h0 a2 "java/lang/String") (F_v : Fld Z h0 a2 "java/lang/String" "value" "[B" (.ref b)) (F_c : Fld Z h0 a2 "java/lang/String" "coder" "B" (.int (0 : Int32))) (V_s : Arv Z h0 b k1 .byte (0 : Int32) vs d1) (S1 : Sta Z h0 "java/lang/String" "COMPACT_STRINGS" "Z" (.int w)) (hw0 : ¬ w = (0 : Int32)) (hat : ∀ i : Int32, ¬ i < 0 → i < (0 : Int32) → vs.getD i.toNatClampNeg d1 = .int (((f i).toInt8.toInt32).toInt8.toInt32)) (hf : ∀ i : Int32, ¬ (255 : Int32) < f i ∧ ¬ f i < 0) (S2 : Sta Z h0 "jdk/internal/util/Preconditions" "SIOOBE_FORMATTER" "Ljava/util/function/BiFunction;" sfv) (hsf : sfv.isRef = true) :
  own_Met l y0_ prog_24_method_4_code 1 none (R_ 2 0 0 26) #[(.ref a1)] Z h0 (Q_rmtrim0_ Z a0 a1 a2 b k1 vs d1 w sfv f h0 n0) := by
 refine own_bd (own := "com/example/vernum/vernum/VersionScanner") rfl (plainFor_of_name pn_9) #[rv a1] ?_
 intro p e s m below meth c s₁ hx hby Hq hml hown hnm hlk hrt hZ X0 e0
 refine o_aloadN X0 Hq d20_0 rfl rfl (o_aloadN X0 Hq d20_1 rfl rfl ?_)
 obtain ⟨T_1, X_1, e_1, st_1⟩ := getF X0 hx hZ hown (host := "") (Or.inl (w_ hw 44 rfl)) Via.refl e0 F1 (g := (mkF m 2 #[rv a1] [(.ref a1), (.ref a1)])) rfl rfl (hb hby d20_2)
 refine own_st st_1 ?_
 show own_Go _ _ _ _ (T_1.setTop (mkF m 5 #[rv a1] [(.ref a2), (.ref a1)]))
 refine c_U0 X_1 Hq e_1 hZ hown hml (k20_13U1 hw) (rmlenN hw a2 b k1 (0 : Int32) vs d1 w h0 n0 Z0 E_s F_v F_c V_s S1 hw0) E_s d20_5 ?_ 1
 rintro T_2 L_2 _ X_2 ⟨⟨⟩, Nq_2, e_2⟩
 have N_2 := Fr.app (Fr.nil n0) Nq_2
 refine o_iconst X_2 Hq 1 d20_8 rfl (o_iadd X_2 Hq d20_9 ?_)
 show own_Go _ _ _ _ (T_2.setTop (mkF m 10 #[rv a1] [(.int 1), (.ref a1)]))
 obtain ⟨T_3, h_3, X_3, e_3, W_3, st_3⟩ := putF X_2 hx hZ hown (host := "") (Or.inl (w_ hw 103 rfl)) Via.refl e_2 F4 E1 (Or.inl (w_ hw 104 rfl)) (w_ hw 38 rfl) (ty := .int) (by decide) rfl rfl (g := (mkF m 10 #[rv a1] [(.int 1), (.ref a1)])) rfl rfl (hb hby d20_10)
 refine own_st st_3 ?_
 have N_3 := Fr.snoc X_3 N_2 g1
 show own_Go _ _ _ _ (T_3.setTop (mkF m 13 #[rv a1] []))
 refine o_aloadN X_3 Hq d20_13 rfl rfl ?_
 have Fa_4 := (F3.other W_3 (Or.inr (slot_ne (Or.inl (w_ hw 64 rfl)) (Or.inl (w_ hw 104 rfl)) (by decide) (t := .int) (t' := .int) (by decide) (by decide))))
 obtain ⟨T_5, X_5, e_5, st_5⟩ := getF X_3 hx hZ hown (host := "") (Or.inl (w_ hw 63 rfl)) Via.refl e_3 Fa_4 (g := (mkF m 14 #[rv a1] [(.ref a1)])) rfl rfl (hb hby d20_14)
 refine own_st st_5 ?_
 show own_Go _ _ _ _ (T_5.setTop (mkF m 17 #[rv a1] [(.int 0)]))
 refine o_aloadN X_5 Hq d20_17 rfl rfl ?_
 have Fa_6 := (F2.other W_3 (Or.inr (slot_ne (Or.inl (w_ hw 57 rfl)) (Or.inl (w_ hw 104 rfl)) (by decide) (t := .int) (t' := .int) (by decide) (by decide))))
 obtain ⟨T_7, X_7, e_7, st_7⟩ := getF X_5 hx hZ hown (host := "") (Or.inl (w_ hw 56 rfl)) Via.refl e_5 Fa_6 (g := (mkF m 18 #[rv a1] [(.ref a1), (.int 0)])) rfl rfl (hb hby d20_18)
 refine own_st st_7 ?_
 show own_Go _ _ _ _ (T_7.setTop (mkF m 21 #[rv a1] [(.int 0), (.int 0)]))
 refine o_icmpYes X_7 Hq (pc' := 53) d20_21 (by decide) (o_aloadN X_7 Hq d20_53 rfl rfl ?_)
 obtain ⟨T_8, X_8, e_8, st_8⟩ := getF X_7 hx hZ hown (host := "") (Or.inl (w_ hw 56 rfl)) Via.refl e_7 Fa_6 (g := (mkF m 54 #[rv a1] [(.ref a1)])) rfl rfl (hb hby d20_54)
 refine own_st st_8 ?_
 show own_Go _ _ _ _ (T_8.setTop (mkF m 57 #[rv a1] [(.int 0)]))
 refine o_aloadN X_8 Hq d20_57 rfl rfl ?_
 obtain ⟨T_9, X_9, e_9, st_9⟩ := getF X_8 hx hZ hown (host := "") (Or.inl (w_ hw 63 rfl)) Via.refl e_8 Fa_4 (g := (mkF m 58 #[rv a1] [(.ref a1), (.int 0)])) rfl rfl (hb hby d20_58)
 refine own_st st_9 ?_
 show own_Go _ _ _ _ (T_9.setTop (mkF m 61 #[rv a1] [(.int 0), (.int 0)]))
 refine o_icmpYes X_9 Hq (pc' := 95) d20_61 (by decide) ?_
 have Kp_10 : Keep h0 h_3 [a1] := ((Keep.refl h0 [a1]).wr W_3 (Or.inl (List.mem_of_getElem? (i := 0) rfl)))
 have Fa_11 := (F1.other W_3 (Or.inr (slot_ne (Or.inr (w_ hw 45 rfl)) (Or.inl (w_ hw 104 rfl)) (by decide) (t := (.object "java/lang/String")) (t' := .int) (by decide) (by decide))))
 exact e_V X_9 e_9 Hq hlk hrt d20_95 ⟨rfl, N_3, Kp_10, Fa_11, Fa_6, Fa_4⟩
theorem d20_24 : D20 24 = .ok (.aload_n 0, 1) := by decide +kernel
theorem d20_25 : D20 25 = .ok (.getfield 7, 3) := by decide +kernel
theorem d20_28 : D20 28 = .ok (.aload_n 0, 1) := by decide +kernel
theorem d20_29 : D20 29 = .ok (.getfield 23, 3) := by decide +kernel
theorem d20_32 : D20 32 = .ok (.invokevirtual 35, 3) := by decide +kernel
theorem pd_12 : parseMethodDescriptor "(I)C" = some ⟨[.int], some .char⟩ := by decide +kernel
section Sm
variable {p : Program} {l : Launch} {e : Env} {R : Room} {s : State} {m : MethodId} {args : Array Value} {below : List Frame} {meth : Method} {c : Code} {T : State} {locs : List Loc} {cells slots : Nat} {P : Outcome → State → Prop} {pc : Nat} {Ls : Array Slot} {st : List Value}
theorem c_U1 (X : Stand p l e R s m args below meth c T locs cells slots) {cb : ByteArray} (hq : p.tables.exec = Jvm.exec ∧ c.code = cb) {Z : State} {a0 : Array Value} {h : Heap} {own C : String} {index : Nat} {y z : MethodName} {bytes : ByteArray} {maxL ML : Nat} {ret : Option FieldType} {rm : Room} {Q : Option Value → Heap → List Loc → Prop} {a : Addr} {v1 : Value}
  (eT : T.heap = h) (hZ : Z.Warmed39 s.vm) (hown : s.vm.findClass own = some m.cls) (hml : c.maxLocals = ML) (hK : own_KU a0 Z own C index y z bytes maxL ret 1) (hM : own_Met l y bytes maxL ret rm #[(.ref a), v1] Z h Q) (E : Exa Z h a C)
  (hd : decode cb pc = .ok (.invokevirtual index, 3)) 
  (k : ∀ (T' : State) (L : List Loc) (w : Value), Stand p l e R s m args below meth c T' (locs ++ L) (cells + rm.cells) (slots + rm.slots) → Q (some w) T'.heap L → own_Go p.tables e below P (T'.setTop (mkF m (pc + 3) Ls (w :: st)))) (W : Nat) (hsz : Ls.size = ML := by rfl) (hW : (st.map fun v => v.category).sum = W := by rfl) (sd : rm.frames + 1 ≤ R.frames ∧ W + (maxL + 11) + rm.locals ≤ R.locals ∧ cells + rm.cells ≤ R.cells ∧ slots + rm.slots ≤ R.slots := by decide) (hv : ∀ v h L, Q v h L → ∃ w, v = some w := by intro v h L q; first | exact Exists.intro _ q.1 | (obtain ⟨_, q⟩ := q; exact Exists.intro _ q.1) | (obtain ⟨_, _, q⟩ := q; exact Exists.intro _ q.1) | (obtain ⟨_, _, _, q⟩ := q; exact Exists.intro _ q.1)) : own_Go p.tables e below P (T.setTop (mkF m pc Ls (v1 :: (.ref a) :: st))) := by
 obtain ⟨⟨w1, ⟨ps, r, hp, hlen⟩, hy⟩, w2, w5, w6, w3, w4⟩ := hK
 obtain ⟨cB, kB, q1, -, q3⟩ := isOf hZ eT E
 have nf : NotFace s y := notFace_of_selects (args := #[]) (mvT hZ w5)
 obtain ⟨v, vm1, ⟨T', L0, k0, n0⟩, -, X', ⟨L, hQ, e1, e2, e3⟩, hst⟩ := X.virtualBack hq.1 (y := y) (z := y) hown (mvT hZ w1) (mvT hZ w2) nf (mvT hZ w5) (mvT hZ w6) hy (backOf (W := W) (Q := Q) hM hZ w4 w3 sd.1 sd.2.1) q1 q3 (g := mkF m pc Ls (v1 :: (.ref a) :: st)) rfl (by rw [hml]; exact hsz) (Steps.refl _) (argsL := [v1]) (rest := st) (lenOf hp hlen) rfl (by show 2 * 0 + _ ≤ _; rw [Nat.mul_zero, Nat.zero_add]; exact Nat.le_of_eq hW) (hb hq.2 hd) (fun _ _ => ⟨rfl, eT, sd.2.2.1, sd.2.2.2⟩)
 dsimp only [Pt.U, Pt.locs, Pt.cells, Pt.slots] at X' e1 e2 e3 hst hQ
 subst e1 e2 e3
 obtain ⟨w, rfl⟩ := hv _ _ _ hQ
 exact own_tr hst (k _ _ _ X' hQ)
end Sm
theorem k20_35U1 {a0 : Array Value} {Z : State} (hw : HW a0 Z) : own_KU a0 Z "com/example/vernum/vernum/VersionScanner" "java/lang/String" 35 y8_ y8_ jdk_42_method_56_code 2 (some .char) 1 := ⟨⟨(w_ hw 73 rfl), ⟨_, _, pd_12, rfl⟩, by decide⟩, (w_ hw 74 rfl), (w_ hw 76 rfl), (w_ hw 75 rfl), (w_ hw 10 rfl), (w_ hw 77 rfl)⟩
theorem d20_35 : D20 35 = .ok (.bipush 32, 2) := by decide +kernel
theorem d20_37 : D20 37 = .ok (.if_icmp .gt 16, 3) := by decide +kernel
theorem d20_64 : D20 64 = .ok (.aload_n 0, 1) := by decide +kernel
theorem d20_65 : D20 65 = .ok (.getfield 7, 3) := by decide +kernel
theorem d20_68 : D20 68 = .ok (.aload_n 0, 1) := by decide +kernel
theorem d20_69 : D20 69 = .ok (.getfield 19, 3) := by decide +kernel
theorem d20_72 : D20 72 = .ok (.iconst 1, 1) := by decide +kernel
theorem d20_73 : D20 73 = .ok (.isub, 1) := by decide +kernel
theorem d20_74 : D20 74 = .ok (.invokevirtual 35, 3) := by decide +kernel
theorem d20_77 : D20 77 = .ok (.bipush 32, 2) := by decide +kernel
theorem d20_79 : D20 79 = .ok (.if_icmp .gt 16, 3) := by decide +kernel
def Q_rmtrim1_t (Z : State) (a0 : Array Value) (a1 a2 b : Addr) (k1 : ClassId) (vs : List Value) (d1 : Value) (w : Int32) (sfv : Value) (f : Int32 → Int32) (h0 : Heap) (n0 : Nat) (v : Option Value) (h : Heap) (L : List Loc) : Prop := v = none ∧ Fr n0 L ∧ Keep h0 h [a1] ∧ Fld Z h a1 "com/example/vernum/vernum/VersionScanner" "input" "Ljava/lang/String;" (.ref a2) ∧ Fld Z h a1 "com/example/vernum/vernum/VersionScanner" "end" "I" (.int (1 : Int32)) ∧ Fld Z h a1 "com/example/vernum/vernum/VersionScanner" "position" "I" (.int (0 : Int32))
theorem rmtrim1_t (hw : HW a0 Z) (a1 a2 b : Addr) (k1 : ClassId) (vs : List Value) (d1 : Value) (w : Int32) (sfv : Value) (f : Int32 → Int32) (h0 : Heap) (n0 : Nat) (Z0 : n0 ≤ h0.size) (E1 : Exa Z h0 a1 "com/example/vernum/vernum/VersionScanner") (g1 : n0 ≤ a1) (F1 : Fld Z h0 a1 "com/example/vernum/vernum/VersionScanner" "input" "Ljava/lang/String;" (.ref a2)) (F2 : Fld Z h0 a1 "com/example/vernum/vernum/VersionScanner" "end" "I" (.int (1 : Int32))) (F3 : Fld Z h0 a1 "com/example/vernum/vernum/VersionScanner" "position" "I" (.int (0 : Int32))) (F4 : Fld Z h0 a1 "com/example/vernum/vernum/VersionScanner" "peeked" "I" (.int (0 : Int32))) (n12 : a2 ≠ a1) (nb1 : b ≠ a1) (E_s : Exa Z h0 a2 "java/lang/String") (F_v : Fld Z h0 a2 "java/lang/String" "value" "[B" (.ref b)) (F_c : Fld Z h0 a2 "java/lang/String" "coder" "B" (.int (0 : Int32))) (V_s : Arv Z h0 b k1 .byte (1 : Int32) vs d1) (S1 : Sta Z h0 "java/lang/String" "COMPACT_STRINGS" "Z" (.int w)) (hw0 : ¬ w = (0 : Int32)) (hat : ∀ i : Int32, ¬ i < 0 → i < (1 : Int32) → vs.getD i.toNatClampNeg d1 = .int (((f i).toInt8.toInt32).toInt8.toInt32)) (hf : ∀ i : Int32, ¬ (255 : Int32) < f i ∧ ¬ f i < 0) (S2 : Sta Z h0 "jdk/internal/util/Preconditions" "SIOOBE_FORMATTER" "Ljava/util/function/BiFunction;" sfv) (hsf : sfv.isRef = true) (ht0 : (32 : Int32) < f (0 : Int32)) :
  own_Met l y0_ prog_24_method_4_code 1 none (R_ 4 0 0 53) #[(.ref a1)] Z h0 (Q_rmtrim1_t Z a0 a1 a2 b k1 vs d1 w sfv f h0 n0) := by
 refine own_bd (own := "com/example/vernum/vernum/VersionScanner") rfl (plainFor_of_name pn_9) #[rv a1] ?_
 intro p e s m below meth c s₁ hx hby Hq hml hown hnm hlk hrt hZ X0 e0
 refine o_aloadN X0 Hq d20_0 rfl rfl (o_aloadN X0 Hq d20_1 rfl rfl ?_)
 obtain ⟨T_1, X_1, e_1, st_1⟩ := getF X0 hx hZ hown (host := "") (Or.inl (w_ hw 44 rfl)) Via.refl e0 F1 (g := (mkF m 2 #[rv a1] [(.ref a1), (.ref a1)])) rfl rfl (hb hby d20_2)
 refine own_st st_1 ?_
 show own_Go _ _ _ _ (T_1.setTop (mkF m 5 #[rv a1] [(.ref a2), (.ref a1)]))
 refine c_U0 X_1 Hq e_1 hZ hown hml (k20_13U1 hw) (rmlenN hw a2 b k1 (1 : Int32) vs d1 w h0 n0 Z0 E_s F_v F_c V_s S1 hw0) E_s d20_5 ?_ 1
 rintro T_2 L_2 _ X_2 ⟨⟨⟩, Nq_2, e_2⟩
 have N_2 := Fr.app (Fr.nil n0) Nq_2
 refine o_iconst X_2 Hq 1 d20_8 rfl (o_iadd X_2 Hq d20_9 ?_)
 show own_Go _ _ _ _ (T_2.setTop (mkF m 10 #[rv a1] [(.int 2), (.ref a1)]))
 obtain ⟨T_3, h_3, X_3, e_3, W_3, st_3⟩ := putF X_2 hx hZ hown (host := "") (Or.inl (w_ hw 103 rfl)) Via.refl e_2 F4 E1 (Or.inl (w_ hw 104 rfl)) (w_ hw 38 rfl) (ty := .int) (by decide) rfl rfl (g := (mkF m 10 #[rv a1] [(.int 2), (.ref a1)])) rfl rfl (hb hby d20_10)
 refine own_st st_3 ?_
 have N_3 := Fr.snoc X_3 N_2 g1
 show own_Go _ _ _ _ (T_3.setTop (mkF m 13 #[rv a1] []))
 refine o_aloadN X_3 Hq d20_13 rfl rfl ?_
 have Fa_4 := (F3.other W_3 (Or.inr (slot_ne (Or.inl (w_ hw 64 rfl)) (Or.inl (w_ hw 104 rfl)) (by decide) (t := .int) (t' := .int) (by decide) (by decide))))
 obtain ⟨T_5, X_5, e_5, st_5⟩ := getF X_3 hx hZ hown (host := "") (Or.inl (w_ hw 63 rfl)) Via.refl e_3 Fa_4 (g := (mkF m 14 #[rv a1] [(.ref a1)])) rfl rfl (hb hby d20_14)
 refine own_st st_5 ?_
 show own_Go _ _ _ _ (T_5.setTop (mkF m 17 #[rv a1] [(.int 0)]))
 refine o_aloadN X_5 Hq d20_17 rfl rfl ?_
 have Fa_6 := (F2.other W_3 (Or.inr (slot_ne (Or.inl (w_ hw 57 rfl)) (Or.inl (w_ hw 104 rfl)) (by decide) (t := .int) (t' := .int) (by decide) (by decide))))
 obtain ⟨T_7, X_7, e_7, st_7⟩ := getF X_5 hx hZ hown (host := "") (Or.inl (w_ hw 56 rfl)) Via.refl e_5 Fa_6 (g := (mkF m 18 #[rv a1] [(.ref a1), (.int 0)])) rfl rfl (hb hby d20_18)
 refine own_st st_7 ?_
 show own_Go _ _ _ _ (T_7.setTop (mkF m 21 #[rv a1] [(.int 1), (.int 0)]))
 refine o_icmpNo X_7 Hq d20_21 (by decide) (o_aloadN X_7 Hq d20_24 rfl rfl ?_)
 have Fa_8 := (F1.other W_3 (Or.inr (slot_ne (Or.inr (w_ hw 45 rfl)) (Or.inl (w_ hw 104 rfl)) (by decide) (t := (.object "java/lang/String")) (t' := .int) (by decide) (by decide))))
 obtain ⟨T_9, X_9, e_9, st_9⟩ := getF X_7 hx hZ hown (host := "") (Or.inl (w_ hw 44 rfl)) Via.refl e_7 Fa_8 (g := (mkF m 25 #[rv a1] [(.ref a1)])) rfl rfl (hb hby d20_25)
 refine own_st st_9 ?_
 show own_Go _ _ _ _ (T_9.setTop (mkF m 28 #[rv a1] [(.ref a2)]))
 refine o_aloadN X_9 Hq d20_28 rfl rfl ?_
 obtain ⟨T_10, X_10, e_10, st_10⟩ := getF X_9 hx hZ hown (host := "") (Or.inl (w_ hw 63 rfl)) Via.refl e_9 Fa_4 (g := (mkF m 29 #[rv a1] [(.ref a1), (.ref a2)])) rfl rfl (hb hby d20_29)
 refine own_st st_10 ?_
 show own_Go _ _ _ _ (T_10.setTop (mkF m 32 #[rv a1] [(.int 0), (.ref a2)]))
 have Fa_12 := (E_s.wr W_3)
 have Fa_13 := (F_v.other W_3 (Or.inl n12))
 have Fa_14 := (F_c.other W_3 (Or.inl n12))
 have Fa_15 := (V_s.other W_3 nb1)
 have Fa_16 := (S1.wr W_3)
 have Fa_17 := (S2.wr W_3)
 have Zs_18 : n0 ≤ h_3.size := (Nat.le_trans Z0 (Keep.of_wr W_3).1)
 refine c_U1 X_10 Hq e_10 hZ hown hml (k20_35U1 hw) (rm15 hw a2 (0 : Int32) b k1 (1 : Int32) vs d1 w sfv f h_3 n0 Zs_18 Fa_12 Fa_13 Fa_14 Fa_15 Fa_16 hw0 hat hf Fa_17 hsf (by decide) (by decide)) Fa_12 d20_32 ?_ 0
 rintro T_11 L_11 _ X_11 ⟨⟨⟩, Nq_11, e_11⟩
 have N_11 := Fr.app N_3 Nq_11
 refine o_bipush X_11 Hq 32 d20_35 rfl (o_icmpYes X_11 Hq (pc' := 53) d20_37 (tlt ht0).2.2.1 (o_aloadN X_11 Hq d20_53 rfl rfl ?_))
 obtain ⟨T_19, X_19, e_19, st_19⟩ := getF X_11 hx hZ hown (host := "") (Or.inl (w_ hw 56 rfl)) Via.refl e_11 Fa_6 (g := (mkF m 54 #[rv a1] [(.ref a1)])) rfl rfl (hb hby d20_54)
 refine own_st st_19 ?_
 show own_Go _ _ _ _ (T_19.setTop (mkF m 57 #[rv a1] [(.int 1)]))
 refine o_aloadN X_19 Hq d20_57 rfl rfl ?_
 obtain ⟨T_20, X_20, e_20, st_20⟩ := getF X_19 hx hZ hown (host := "") (Or.inl (w_ hw 63 rfl)) Via.refl e_19 Fa_4 (g := (mkF m 58 #[rv a1] [(.ref a1), (.int 1)])) rfl rfl (hb hby d20_58)
 refine own_st st_20 ?_
 show own_Go _ _ _ _ (T_20.setTop (mkF m 61 #[rv a1] [(.int 0), (.int 1)]))
 refine o_icmpNo X_20 Hq d20_61 (by decide) (o_aloadN X_20 Hq d20_64 rfl rfl ?_)
 obtain ⟨T_21, X_21, e_21, st_21⟩ := getF X_20 hx hZ hown (host := "") (Or.inl (w_ hw 44 rfl)) Via.refl e_20 Fa_8 (g := (mkF m 65 #[rv a1] [(.ref a1)])) rfl rfl (hb hby d20_65)
 refine own_st st_21 ?_
 show own_Go _ _ _ _ (T_21.setTop (mkF m 68 #[rv a1] [(.ref a2)]))
 refine o_aloadN X_21 Hq d20_68 rfl rfl ?_
 obtain ⟨T_22, X_22, e_22, st_22⟩ := getF X_21 hx hZ hown (host := "") (Or.inl (w_ hw 56 rfl)) Via.refl e_21 Fa_6 (g := (mkF m 69 #[rv a1] [(.ref a1), (.ref a2)])) rfl rfl (hb hby d20_69)
 refine own_st st_22 ?_
 show own_Go _ _ _ _ (T_22.setTop (mkF m 72 #[rv a1] [(.int 1), (.ref a2)]))
 refine o_iconst X_22 Hq 1 d20_72 rfl (o_isub X_22 Hq d20_73 ?_)
 show own_Go _ _ _ _ (T_22.setTop (mkF m 74 #[rv a1] [(.int 0), (.ref a2)]))
 refine c_U1 X_22 Hq e_22 hZ hown hml (k20_35U1 hw) (rm15 hw a2 (0 : Int32) b k1 (1 : Int32) vs d1 w sfv f h_3 n0 Zs_18 Fa_12 Fa_13 Fa_14 Fa_15 Fa_16 hw0 hat hf Fa_17 hsf (by decide) (by decide)) Fa_12 d20_74 ?_ 0
 rintro T_23 L_23 _ X_23 ⟨⟨⟩, Nq_23, e_23⟩
 have N_23 := Fr.app N_11 Nq_23
 refine o_bipush X_23 Hq 32 d20_77 rfl (o_icmpYes X_23 Hq (pc' := 95) d20_79 (tlt ht0).2.2.1 ?_)
 have Kp_24 : Keep h0 h_3 [a1] := ((Keep.refl h0 [a1]).wr W_3 (Or.inl (List.mem_of_getElem? (i := 0) rfl)))
 exact e_V X_23 e_23 Hq hlk hrt d20_95 ⟨rfl, N_23, Kp_24, Fa_8, Fa_6, Fa_4⟩
theorem d20_40 : D20 40 = .ok (.aload_n 0, 1) := by decide +kernel
theorem d20_41 : D20 41 = .ok (.dup, 1) := by decide +kernel
theorem d20_42 : D20 42 = .ok (.getfield 23, 3) := by decide +kernel
theorem d20_45 : D20 45 = .ok (.iconst 1, 1) := by decide +kernel
theorem d20_46 : D20 46 = .ok (.iadd, 1) := by decide +kernel
theorem d20_47 : D20 47 = .ok (.putfield 23, 3) := by decide +kernel
theorem d20_50 : D20 50 = .ok (.goto (-37), 3) := by decide +kernel
def Q_rmtrim1_f (Z : State) (a0 : Array Value) (a1 a2 b : Addr) (k1 : ClassId) (vs : List Value) (d1 : Value) (w : Int32) (sfv : Value) (f : Int32 → Int32) (h0 : Heap) (n0 : Nat) (v : Option Value) (h : Heap) (L : List Loc) : Prop := v = none ∧ Fr n0 L ∧ Keep h0 h [a1] ∧ Fld Z h a1 "com/example/vernum/vernum/VersionScanner" "input" "Ljava/lang/String;" (.ref a2) ∧ Fld Z h a1 "com/example/vernum/vernum/VersionScanner" "end" "I" (.int (1 : Int32)) ∧ Fld Z h a1 "com/example/vernum/vernum/VersionScanner" "position" "I" (.int (1 : Int32))
theorem rmtrim1_f (hw : HW a0 Z) (a1 a2 b : Addr) (k1 : ClassId) (vs : List Value) (d1 : Value) (w : Int32) (sfv : Value) (f : Int32 → Int32) (h0 : Heap) (n0 : Nat) (Z0 : n0 ≤ h0.size) (E1 : Exa Z h0 a1 "com/example/vernum/vernum/VersionScanner") (g1 : n0 ≤ a1) (F1 : Fld Z h0 a1 "com/example/vernum/vernum/VersionScanner" "input" "Ljava/lang/String;" (.ref a2)) (F2 : Fld Z h0 a1 "com/example/vernum/vernum/VersionScanner" "end" "I" (.int (1 : Int32))) (F3 : Fld Z h0 a1 "com/example/vernum/vernum/VersionScanner" "position" "I" (.int (0 : Int32))) (F4 : Fld Z h0 a1 "com/example/vernum/vernum/VersionScanner" "peeked" "I" (.int (0 : Int32))) (n12 : a2 ≠ a1) (nb1 : b ≠ a1) (E_s : Exa Z h0 a2 "java/lang/String") (F_v : Fld Z h0 a2 "java/lang/String" "value" "[B" (.ref b)) (F_c : Fld Z h0 a2 "java/lang/String" "coder" "B" (.int (0 : Int32))) (V_s : Arv Z h0 b k1 .byte (1 : Int32) vs d1) (S1 : Sta Z h0 "java/lang/String" "COMPACT_STRINGS" "Z" (.int w)) (hw0 : ¬ w = (0 : Int32)) (hat : ∀ i : Int32, ¬ i < 0 → i < (1 : Int32) → vs.getD i.toNatClampNeg d1 = .int (((f i).toInt8.toInt32).toInt8.toInt32)) (hf : ∀ i : Int32, ¬ (255 : Int32) < f i ∧ ¬ f i < 0) (S2 : Sta Z h0 "jdk/internal/util/Preconditions" "SIOOBE_FORMATTER" "Ljava/util/function/BiFunction;" sfv) (hsf : sfv.isRef = true) (ht0 : ¬ (32 : Int32) < f (0 : Int32)) :
  own_Met l y0_ prog_24_method_4_code 1 none (R_ 4 0 0 53) #[(.ref a1)] Z h0 (Q_rmtrim1_f Z a0 a1 a2 b k1 vs d1 w sfv f h0 n0) := by
 refine own_bd (own := "com/example/vernum/vernum/VersionScanner") rfl (plainFor_of_name pn_9) #[rv a1] ?_
 intro p e s m below meth c s₁ hx hby Hq hml hown hnm hlk hrt hZ X0 e0
 refine o_aloadN X0 Hq d20_0 rfl rfl (o_aloadN X0 Hq d20_1 rfl rfl ?_)
 obtain ⟨T_1, X_1, e_1, st_1⟩ := getF X0 hx hZ hown (host := "") (Or.inl (w_ hw 44 rfl)) Via.refl e0 F1 (g := (mkF m 2 #[rv a1] [(.ref a1), (.ref a1)])) rfl rfl (hb hby d20_2)
 refine own_st st_1 ?_
 show own_Go _ _ _ _ (T_1.setTop (mkF m 5 #[rv a1] [(.ref a2), (.ref a1)]))
 refine c_U0 X_1 Hq e_1 hZ hown hml (k20_13U1 hw) (rmlenN hw a2 b k1 (1 : Int32) vs d1 w h0 n0 Z0 E_s F_v F_c V_s S1 hw0) E_s d20_5 ?_ 1
 rintro T_2 L_2 _ X_2 ⟨⟨⟩, Nq_2, e_2⟩
 have N_2 := Fr.app (Fr.nil n0) Nq_2
 refine o_iconst X_2 Hq 1 d20_8 rfl (o_iadd X_2 Hq d20_9 ?_)
 show own_Go _ _ _ _ (T_2.setTop (mkF m 10 #[rv a1] [(.int 2), (.ref a1)]))
 obtain ⟨T_3, h_3, X_3, e_3, W_3, st_3⟩ := putF X_2 hx hZ hown (host := "") (Or.inl (w_ hw 103 rfl)) Via.refl e_2 F4 E1 (Or.inl (w_ hw 104 rfl)) (w_ hw 38 rfl) (ty := .int) (by decide) rfl rfl (g := (mkF m 10 #[rv a1] [(.int 2), (.ref a1)])) rfl rfl (hb hby d20_10)
 refine own_st st_3 ?_
 have N_3 := Fr.snoc X_3 N_2 g1
 show own_Go _ _ _ _ (T_3.setTop (mkF m 13 #[rv a1] []))
 refine o_aloadN X_3 Hq d20_13 rfl rfl ?_
 have Fa_4 := (F3.other W_3 (Or.inr (slot_ne (Or.inl (w_ hw 64 rfl)) (Or.inl (w_ hw 104 rfl)) (by decide) (t := .int) (t' := .int) (by decide) (by decide))))
 obtain ⟨T_5, X_5, e_5, st_5⟩ := getF X_3 hx hZ hown (host := "") (Or.inl (w_ hw 63 rfl)) Via.refl e_3 Fa_4 (g := (mkF m 14 #[rv a1] [(.ref a1)])) rfl rfl (hb hby d20_14)
 refine own_st st_5 ?_
 show own_Go _ _ _ _ (T_5.setTop (mkF m 17 #[rv a1] [(.int 0)]))
 refine o_aloadN X_5 Hq d20_17 rfl rfl ?_
 have Fa_6 := (F2.other W_3 (Or.inr (slot_ne (Or.inl (w_ hw 57 rfl)) (Or.inl (w_ hw 104 rfl)) (by decide) (t := .int) (t' := .int) (by decide) (by decide))))
 obtain ⟨T_7, X_7, e_7, st_7⟩ := getF X_5 hx hZ hown (host := "") (Or.inl (w_ hw 56 rfl)) Via.refl e_5 Fa_6 (g := (mkF m 18 #[rv a1] [(.ref a1), (.int 0)])) rfl rfl (hb hby d20_18)
 refine own_st st_7 ?_
 show own_Go _ _ _ _ (T_7.setTop (mkF m 21 #[rv a1] [(.int 1), (.int 0)]))
 refine o_icmpNo X_7 Hq d20_21 (by decide) (o_aloadN X_7 Hq d20_24 rfl rfl ?_)
 have Fa_8 := (F1.other W_3 (Or.inr (slot_ne (Or.inr (w_ hw 45 rfl)) (Or.inl (w_ hw 104 rfl)) (by decide) (t := (.object "java/lang/String")) (t' := .int) (by decide) (by decide))))
 obtain ⟨T_9, X_9, e_9, st_9⟩ := getF X_7 hx hZ hown (host := "") (Or.inl (w_ hw 44 rfl)) Via.refl e_7 Fa_8 (g := (mkF m 25 #[rv a1] [(.ref a1)])) rfl rfl (hb hby d20_25)
 refine own_st st_9 ?_
 show own_Go _ _ _ _ (T_9.setTop (mkF m 28 #[rv a1] [(.ref a2)]))
 refine o_aloadN X_9 Hq d20_28 rfl rfl ?_
 obtain ⟨T_10, X_10, e_10, st_10⟩ := getF X_9 hx hZ hown (host := "") (Or.inl (w_ hw 63 rfl)) Via.refl e_9 Fa_4 (g := (mkF m 29 #[rv a1] [(.ref a1), (.ref a2)])) rfl rfl (hb hby d20_29)
 refine own_st st_10 ?_
 show own_Go _ _ _ _ (T_10.setTop (mkF m 32 #[rv a1] [(.int 0), (.ref a2)]))
 have Fa_12 := (E_s.wr W_3)
 have Fa_13 := (F_v.other W_3 (Or.inl n12))
 have Fa_14 := (F_c.other W_3 (Or.inl n12))
 have Fa_15 := (V_s.other W_3 nb1)
 have Fa_16 := (S1.wr W_3)
 have Fa_17 := (S2.wr W_3)
 have Zs_18 : n0 ≤ h_3.size := (Nat.le_trans Z0 (Keep.of_wr W_3).1)
 refine c_U1 X_10 Hq e_10 hZ hown hml (k20_35U1 hw) (rm15 hw a2 (0 : Int32) b k1 (1 : Int32) vs d1 w sfv f h_3 n0 Zs_18 Fa_12 Fa_13 Fa_14 Fa_15 Fa_16 hw0 hat hf Fa_17 hsf (by decide) (by decide)) Fa_12 d20_32 ?_ 0
 rintro T_11 L_11 _ X_11 ⟨⟨⟩, Nq_11, e_11⟩
 have N_11 := Fr.app N_3 Nq_11
 refine o_bipush X_11 Hq 32 d20_35 rfl (o_icmpNo X_11 Hq d20_37 (flt ht0).2.2.1 (o_aloadN X_11 Hq d20_40 rfl rfl (o_dup X_11 Hq d20_41 rfl ?_)))
 obtain ⟨T_19, X_19, e_19, st_19⟩ := getF X_11 hx hZ hown (host := "") (Or.inl (w_ hw 63 rfl)) Via.refl e_11 Fa_4 (g := (mkF m 42 #[rv a1] [(.ref a1), (.ref a1)])) rfl rfl (hb hby d20_42)
 refine own_st st_19 ?_
 show own_Go _ _ _ _ (T_19.setTop (mkF m 45 #[rv a1] [(.int 0), (.ref a1)]))
 refine o_iconst X_19 Hq 1 d20_45 rfl (o_iadd X_19 Hq d20_46 ?_)
 show own_Go _ _ _ _ (T_19.setTop (mkF m 47 #[rv a1] [(.int 1), (.ref a1)]))
 have Fa_20 := (E1.wr W_3)
 obtain ⟨T_21, h_21, X_21, e_21, W_21, st_21⟩ := putF X_19 hx hZ hown (host := "") (Or.inl (w_ hw 63 rfl)) Via.refl e_19 Fa_4 Fa_20 (Or.inl (w_ hw 64 rfl)) (w_ hw 38 rfl) (ty := .int) (by decide) rfl rfl (g := (mkF m 47 #[rv a1] [(.int 1), (.ref a1)])) rfl rfl (hb hby d20_47)
 refine own_st st_21 ?_
 have N_21 := Fr.snoc X_21 N_11 g1
 show own_Go _ _ _ _ (T_21.setTop (mkF m 50 #[rv a1] []))
 refine o_goto X_21 Hq (pc' := 13) d20_50 (o_aloadN X_21 Hq d20_13 rfl rfl ?_)
 have Fa_22 := (Fa_4.same W_21)
 obtain ⟨T_23, X_23, e_23, st_23⟩ := getF X_21 hx hZ hown (host := "") (Or.inl (w_ hw 63 rfl)) Via.refl e_21 Fa_22 (g := (mkF m 14 #[rv a1] [(.ref a1)])) rfl rfl (hb hby d20_14)
 refine own_st st_23 ?_
 show own_Go _ _ _ _ (T_23.setTop (mkF m 17 #[rv a1] [(.int 1)]))
 refine o_aloadN X_23 Hq d20_17 rfl rfl ?_
 have Fa_24 := (Fa_6.other W_21 (Or.inr (slot_ne (Or.inl (w_ hw 57 rfl)) (Or.inl (w_ hw 64 rfl)) (by decide) (t := .int) (t' := .int) (by decide) (by decide))))
 obtain ⟨T_25, X_25, e_25, st_25⟩ := getF X_23 hx hZ hown (host := "") (Or.inl (w_ hw 56 rfl)) Via.refl e_23 Fa_24 (g := (mkF m 18 #[rv a1] [(.ref a1), (.int 1)])) rfl rfl (hb hby d20_18)
 refine own_st st_25 ?_
 show own_Go _ _ _ _ (T_25.setTop (mkF m 21 #[rv a1] [(.int 1), (.int 1)]))
 refine o_icmpYes X_25 Hq (pc' := 53) d20_21 (by decide) (o_aloadN X_25 Hq d20_53 rfl rfl ?_)
 obtain ⟨T_26, X_26, e_26, st_26⟩ := getF X_25 hx hZ hown (host := "") (Or.inl (w_ hw 56 rfl)) Via.refl e_25 Fa_24 (g := (mkF m 54 #[rv a1] [(.ref a1)])) rfl rfl (hb hby d20_54)
 refine own_st st_26 ?_
 show own_Go _ _ _ _ (T_26.setTop (mkF m 57 #[rv a1] [(.int 1)]))
 refine o_aloadN X_26 Hq d20_57 rfl rfl ?_
 obtain ⟨T_27, X_27, e_27, st_27⟩ := getF X_26 hx hZ hown (host := "") (Or.inl (w_ hw 63 rfl)) Via.refl e_26 Fa_22 (g := (mkF m 58 #[rv a1] [(.ref a1), (.int 1)])) rfl rfl (hb hby d20_58)
 refine own_st st_27 ?_
 show own_Go _ _ _ _ (T_27.setTop (mkF m 61 #[rv a1] [(.int 1), (.int 1)]))
 refine o_icmpYes X_27 Hq (pc' := 95) d20_61 (by decide) ?_
 have Kp_28 : Keep h0 h_21 [a1] := (((Keep.refl h0 [a1]).wr W_3 (Or.inl (List.mem_of_getElem? (i := 0) rfl))).wr W_21 (Or.inl (List.mem_of_getElem? (i := 0) rfl)))
 have Fa_29 := (Fa_8.other W_21 (Or.inr (slot_ne (Or.inr (w_ hw 45 rfl)) (Or.inl (w_ hw 64 rfl)) (by decide) (t := (.object "java/lang/String")) (t' := .int) (by decide) (by decide))))
 exact e_V X_27 e_27 Hq hlk hrt d20_95 ⟨rfl, N_21, Kp_28, Fa_29, Fa_24, Fa_22⟩
def Q_rmtrim2_tt (Z : State) (a0 : Array Value) (a1 a2 b : Addr) (k1 : ClassId) (vs : List Value) (d1 : Value) (w : Int32) (sfv : Value) (f : Int32 → Int32) (h0 : Heap) (n0 : Nat) (v : Option Value) (h : Heap) (L : List Loc) : Prop := v = none ∧ Fr n0 L ∧ Keep h0 h [a1] ∧ Fld Z h a1 "com/example/vernum/vernum/VersionScanner" "input" "Ljava/lang/String;" (.ref a2) ∧ Fld Z h a1 "com/example/vernum/vernum/VersionScanner" "end" "I" (.int (2 : Int32)) ∧ Fld Z h a1 "com/example/vernum/vernum/VersionScanner" "position" "I" (.int (0 : Int32))
theorem rmtrim2_tt (hw : HW a0 Z) (a1 a2 b : Addr) (k1 : ClassId) (vs : List Value) (d1 : Value) (w : Int32) (sfv : Value) (f : Int32 → Int32) (h0 : Heap) (n0 : Nat) (Z0 : n0 ≤ h0.size) (E1 : Exa Z h0 a1 "com/example/vernum/vernum/VersionScanner") (g1 : n0 ≤ a1) (F1 : Fld Z h0 a1 "com/example/vernum/vernum/VersionScanner" "input" "Ljava/lang/String;" (.ref a2)) (F2 : Fld Z h0 a1 "com/example/vernum/vernum/VersionScanner" "end" "I" (.int (2 : Int32))) (F3 : Fld Z h0 a1 "com/example/vernum/vernum/VersionScanner" "position" "I" (.int (0 : Int32))) (F4 : Fld Z h0 a1 "com/example/vernum/vernum/VersionScanner" "peeked" "I" (.int (0 : Int32))) (n12 : a2 ≠ a1) (nb1 : b ≠ a1) (E_s : Exa Z h0 a2 "java/lang/String") (F_v : Fld Z h0 a2 "java/lang/String" "value" "[B" (.ref b)) (F_c : Fld Z h0 a2 "java/lang/String" "coder" "B" (.int (0 : Int32))) (V_s : Arv Z h0 b k1 .byte (2 : Int32) vs d1) (S1 : Sta Z h0 "java/lang/String" "COMPACT_STRINGS" "Z" (.int w)) (hw0 : ¬ w = (0 : Int32)) (hat : ∀ i : Int32, ¬ i < 0 → i < (2 : Int32) → vs.getD i.toNatClampNeg d1 = .int (((f i).toInt8.toInt32).toInt8.toInt32)) (hf : ∀ i : Int32, ¬ (255 : Int32) < f i ∧ ¬ f i < 0) (S2 : Sta Z h0 "jdk/internal/util/Preconditions" "SIOOBE_FORMATTER" "Ljava/util/function/BiFunction;" sfv) (hsf : sfv.isRef = true) (ht0 : (32 : Int32) < f (0 : Int32)) (ht1 : (32 : Int32) < f (1 : Int32)) :
  own_Met l y0_ prog_24_method_4_code 1 none (R_ 4 0 0 53) #[(.ref a1)] Z h0 (Q_rmtrim2_tt Z a0 a1 a2 b k1 vs d1 w sfv f h0 n0) := by
 refine own_bd (own := "com/example/vernum/vernum/VersionScanner") rfl (plainFor_of_name pn_9) #[rv a1] ?_
 intro p e s m below meth c s₁ hx hby Hq hml hown hnm hlk hrt hZ X0 e0
 refine o_aloadN X0 Hq d20_0 rfl rfl (o_aloadN X0 Hq d20_1 rfl rfl ?_)
 obtain ⟨T_1, X_1, e_1, st_1⟩ := getF X0 hx hZ hown (host := "") (Or.inl (w_ hw 44 rfl)) Via.refl e0 F1 (g := (mkF m 2 #[rv a1] [(.ref a1), (.ref a1)])) rfl rfl (hb hby d20_2)
 refine own_st st_1 ?_
 show own_Go _ _ _ _ (T_1.setTop (mkF m 5 #[rv a1] [(.ref a2), (.ref a1)]))
 refine c_U0 X_1 Hq e_1 hZ hown hml (k20_13U1 hw) (rmlenN hw a2 b k1 (2 : Int32) vs d1 w h0 n0 Z0 E_s F_v F_c V_s S1 hw0) E_s d20_5 ?_ 1
 rintro T_2 L_2 _ X_2 ⟨⟨⟩, Nq_2, e_2⟩
 have N_2 := Fr.app (Fr.nil n0) Nq_2
 refine o_iconst X_2 Hq 1 d20_8 rfl (o_iadd X_2 Hq d20_9 ?_)
 show own_Go _ _ _ _ (T_2.setTop (mkF m 10 #[rv a1] [(.int 3), (.ref a1)]))
 obtain ⟨T_3, h_3, X_3, e_3, W_3, st_3⟩ := putF X_2 hx hZ hown (host := "") (Or.inl (w_ hw 103 rfl)) Via.refl e_2 F4 E1 (Or.inl (w_ hw 104 rfl)) (w_ hw 38 rfl) (ty := .int) (by decide) rfl rfl (g := (mkF m 10 #[rv a1] [(.int 3), (.ref a1)])) rfl rfl (hb hby d20_10)
 refine own_st st_3 ?_
 have N_3 := Fr.snoc X_3 N_2 g1
 show own_Go _ _ _ _ (T_3.setTop (mkF m 13 #[rv a1] []))
 refine o_aloadN X_3 Hq d20_13 rfl rfl ?_
 have Fa_4 := (F3.other W_3 (Or.inr (slot_ne (Or.inl (w_ hw 64 rfl)) (Or.inl (w_ hw 104 rfl)) (by decide) (t := .int) (t' := .int) (by decide) (by decide))))
 obtain ⟨T_5, X_5, e_5, st_5⟩ := getF X_3 hx hZ hown (host := "") (Or.inl (w_ hw 63 rfl)) Via.refl e_3 Fa_4 (g := (mkF m 14 #[rv a1] [(.ref a1)])) rfl rfl (hb hby d20_14)
 refine own_st st_5 ?_
 show own_Go _ _ _ _ (T_5.setTop (mkF m 17 #[rv a1] [(.int 0)]))
 refine o_aloadN X_5 Hq d20_17 rfl rfl ?_
 have Fa_6 := (F2.other W_3 (Or.inr (slot_ne (Or.inl (w_ hw 57 rfl)) (Or.inl (w_ hw 104 rfl)) (by decide) (t := .int) (t' := .int) (by decide) (by decide))))
 obtain ⟨T_7, X_7, e_7, st_7⟩ := getF X_5 hx hZ hown (host := "") (Or.inl (w_ hw 56 rfl)) Via.refl e_5 Fa_6 (g := (mkF m 18 #[rv a1] [(.ref a1), (.int 0)])) rfl rfl (hb hby d20_18)
 refine own_st st_7 ?_
 show own_Go _ _ _ _ (T_7.setTop (mkF m 21 #[rv a1] [(.int 2), (.int 0)]))
 refine o_icmpNo X_7 Hq d20_21 (by decide) (o_aloadN X_7 Hq d20_24 rfl rfl ?_)
 have Fa_8 := (F1.other W_3 (Or.inr (slot_ne (Or.inr (w_ hw 45 rfl)) (Or.inl (w_ hw 104 rfl)) (by decide) (t := (.object "java/lang/String")) (t' := .int) (by decide) (by decide))))
 obtain ⟨T_9, X_9, e_9, st_9⟩ := getF X_7 hx hZ hown (host := "") (Or.inl (w_ hw 44 rfl)) Via.refl e_7 Fa_8 (g := (mkF m 25 #[rv a1] [(.ref a1)])) rfl rfl (hb hby d20_25)
 refine own_st st_9 ?_
 show own_Go _ _ _ _ (T_9.setTop (mkF m 28 #[rv a1] [(.ref a2)]))
 refine o_aloadN X_9 Hq d20_28 rfl rfl ?_
 obtain ⟨T_10, X_10, e_10, st_10⟩ := getF X_9 hx hZ hown (host := "") (Or.inl (w_ hw 63 rfl)) Via.refl e_9 Fa_4 (g := (mkF m 29 #[rv a1] [(.ref a1), (.ref a2)])) rfl rfl (hb hby d20_29)
 refine own_st st_10 ?_
 show own_Go _ _ _ _ (T_10.setTop (mkF m 32 #[rv a1] [(.int 0), (.ref a2)]))
 have Fa_12 := (E_s.wr W_3)
 have Fa_13 := (F_v.other W_3 (Or.inl n12))
 have Fa_14 := (F_c.other W_3 (Or.inl n12))
 have Fa_15 := (V_s.other W_3 nb1)
 have Fa_16 := (S1.wr W_3)
 have Fa_17 := (S2.wr W_3)
 have Zs_18 : n0 ≤ h_3.size := (Nat.le_trans Z0 (Keep.of_wr W_3).1)
 refine c_U1 X_10 Hq e_10 hZ hown hml (k20_35U1 hw) (rm15 hw a2 (0 : Int32) b k1 (2 : Int32) vs d1 w sfv f h_3 n0 Zs_18 Fa_12 Fa_13 Fa_14 Fa_15 Fa_16 hw0 hat hf Fa_17 hsf (by decide) (by decide)) Fa_12 d20_32 ?_ 0
 rintro T_11 L_11 _ X_11 ⟨⟨⟩, Nq_11, e_11⟩
 have N_11 := Fr.app N_3 Nq_11
 refine o_bipush X_11 Hq 32 d20_35 rfl (o_icmpYes X_11 Hq (pc' := 53) d20_37 (tlt ht0).2.2.1 (o_aloadN X_11 Hq d20_53 rfl rfl ?_))
 obtain ⟨T_19, X_19, e_19, st_19⟩ := getF X_11 hx hZ hown (host := "") (Or.inl (w_ hw 56 rfl)) Via.refl e_11 Fa_6 (g := (mkF m 54 #[rv a1] [(.ref a1)])) rfl rfl (hb hby d20_54)
 refine own_st st_19 ?_
 show own_Go _ _ _ _ (T_19.setTop (mkF m 57 #[rv a1] [(.int 2)]))
 refine o_aloadN X_19 Hq d20_57 rfl rfl ?_
 obtain ⟨T_20, X_20, e_20, st_20⟩ := getF X_19 hx hZ hown (host := "") (Or.inl (w_ hw 63 rfl)) Via.refl e_19 Fa_4 (g := (mkF m 58 #[rv a1] [(.ref a1), (.int 2)])) rfl rfl (hb hby d20_58)
 refine own_st st_20 ?_
 show own_Go _ _ _ _ (T_20.setTop (mkF m 61 #[rv a1] [(.int 0), (.int 2)]))
 refine o_icmpNo X_20 Hq d20_61 (by decide) (o_aloadN X_20 Hq d20_64 rfl rfl ?_)
 obtain ⟨T_21, X_21, e_21, st_21⟩ := getF X_20 hx hZ hown (host := "") (Or.inl (w_ hw 44 rfl)) Via.refl e_20 Fa_8 (g := (mkF m 65 #[rv a1] [(.ref a1)])) rfl rfl (hb hby d20_65)
 refine own_st st_21 ?_
 show own_Go _ _ _ _ (T_21.setTop (mkF m 68 #[rv a1] [(.ref a2)]))
 refine o_aloadN X_21 Hq d20_68 rfl rfl ?_
 obtain ⟨T_22, X_22, e_22, st_22⟩ := getF X_21 hx hZ hown (host := "") (Or.inl (w_ hw 56 rfl)) Via.refl e_21 Fa_6 (g := (mkF m 69 #[rv a1] [(.ref a1), (.ref a2)])) rfl rfl (hb hby d20_69)
 refine own_st st_22 ?_
 show own_Go _ _ _ _ (T_22.setTop (mkF m 72 #[rv a1] [(.int 2), (.ref a2)]))
 refine o_iconst X_22 Hq 1 d20_72 rfl (o_isub X_22 Hq d20_73 ?_)
 show own_Go _ _ _ _ (T_22.setTop (mkF m 74 #[rv a1] [(.int 1), (.ref a2)]))
 refine c_U1 X_22 Hq e_22 hZ hown hml (k20_35U1 hw) (rm15 hw a2 (1 : Int32) b k1 (2 : Int32) vs d1 w sfv f h_3 n0 Zs_18 Fa_12 Fa_13 Fa_14 Fa_15 Fa_16 hw0 hat hf Fa_17 hsf (by decide) (by decide)) Fa_12 d20_74 ?_ 0
 rintro T_23 L_23 _ X_23 ⟨⟨⟩, Nq_23, e_23⟩
 have N_23 := Fr.app N_11 Nq_23
 refine o_bipush X_23 Hq 32 d20_77 rfl (o_icmpYes X_23 Hq (pc' := 95) d20_79 (tlt ht1).2.2.1 ?_)
 have Kp_24 : Keep h0 h_3 [a1] := ((Keep.refl h0 [a1]).wr W_3 (Or.inl (List.mem_of_getElem? (i := 0) rfl)))
 exact e_V X_23 e_23 Hq hlk hrt d20_95 ⟨rfl, N_23, Kp_24, Fa_8, Fa_6, Fa_4⟩
theorem d20_82 : D20 82 = .ok (.aload_n 0, 1) := by decide +kernel
theorem d20_83 : D20 83 = .ok (.dup, 1) := by decide +kernel
theorem d20_84 : D20 84 = .ok (.getfield 19, 3) := by decide +kernel
theorem d20_87 : D20 87 = .ok (.iconst 1, 1) := by decide +kernel
theorem d20_88 : D20 88 = .ok (.isub, 1) := by decide +kernel
theorem d20_89 : D20 89 = .ok (.putfield 19, 3) := by decide +kernel
theorem d20_92 : D20 92 = .ok (.goto (-39), 3) := by decide +kernel
def Q_rmtrim2_tf (Z : State) (a0 : Array Value) (a1 a2 b : Addr) (k1 : ClassId) (vs : List Value) (d1 : Value) (w : Int32) (sfv : Value) (f : Int32 → Int32) (h0 : Heap) (n0 : Nat) (v : Option Value) (h : Heap) (L : List Loc) : Prop := v = none ∧ Fr n0 L ∧ Keep h0 h [a1] ∧ Fld Z h a1 "com/example/vernum/vernum/VersionScanner" "input" "Ljava/lang/String;" (.ref a2) ∧ Fld Z h a1 "com/example/vernum/vernum/VersionScanner" "end" "I" (.int (1 : Int32)) ∧ Fld Z h a1 "com/example/vernum/vernum/VersionScanner" "position" "I" (.int (0 : Int32))
theorem rmtrim2_tf (hw : HW a0 Z) (a1 a2 b : Addr) (k1 : ClassId) (vs : List Value) (d1 : Value) (w : Int32) (sfv : Value) (f : Int32 → Int32) (h0 : Heap) (n0 : Nat) (Z0 : n0 ≤ h0.size) (E1 : Exa Z h0 a1 "com/example/vernum/vernum/VersionScanner") (g1 : n0 ≤ a1) (F1 : Fld Z h0 a1 "com/example/vernum/vernum/VersionScanner" "input" "Ljava/lang/String;" (.ref a2)) (F2 : Fld Z h0 a1 "com/example/vernum/vernum/VersionScanner" "end" "I" (.int (2 : Int32))) (F3 : Fld Z h0 a1 "com/example/vernum/vernum/VersionScanner" "position" "I" (.int (0 : Int32))) (F4 : Fld Z h0 a1 "com/example/vernum/vernum/VersionScanner" "peeked" "I" (.int (0 : Int32))) (n12 : a2 ≠ a1) (nb1 : b ≠ a1) (E_s : Exa Z h0 a2 "java/lang/String") (F_v : Fld Z h0 a2 "java/lang/String" "value" "[B" (.ref b)) (F_c : Fld Z h0 a2 "java/lang/String" "coder" "B" (.int (0 : Int32))) (V_s : Arv Z h0 b k1 .byte (2 : Int32) vs d1) (S1 : Sta Z h0 "java/lang/String" "COMPACT_STRINGS" "Z" (.int w)) (hw0 : ¬ w = (0 : Int32)) (hat : ∀ i : Int32, ¬ i < 0 → i < (2 : Int32) → vs.getD i.toNatClampNeg d1 = .int (((f i).toInt8.toInt32).toInt8.toInt32)) (hf : ∀ i : Int32, ¬ (255 : Int32) < f i ∧ ¬ f i < 0) (S2 : Sta Z h0 "jdk/internal/util/Preconditions" "SIOOBE_FORMATTER" "Ljava/util/function/BiFunction;" sfv) (hsf : sfv.isRef = true) (ht0 : (32 : Int32) < f (0 : Int32)) (ht1 : ¬ (32 : Int32) < f (1 : Int32)) :
  own_Met l y0_ prog_24_method_4_code 1 none (R_ 4 0 0 53) #[(.ref a1)] Z h0 (Q_rmtrim2_tf Z a0 a1 a2 b k1 vs d1 w sfv f h0 n0) := by
 refine own_bd (own := "com/example/vernum/vernum/VersionScanner") rfl (plainFor_of_name pn_9) #[rv a1] ?_
 intro p e s m below meth c s₁ hx hby Hq hml hown hnm hlk hrt hZ X0 e0
 refine o_aloadN X0 Hq d20_0 rfl rfl (o_aloadN X0 Hq d20_1 rfl rfl ?_)
 obtain ⟨T_1, X_1, e_1, st_1⟩ := getF X0 hx hZ hown (host := "") (Or.inl (w_ hw 44 rfl)) Via.refl e0 F1 (g := (mkF m 2 #[rv a1] [(.ref a1), (.ref a1)])) rfl rfl (hb hby d20_2)
 refine own_st st_1 ?_
 show own_Go _ _ _ _ (T_1.setTop (mkF m 5 #[rv a1] [(.ref a2), (.ref a1)]))
 refine c_U0 X_1 Hq e_1 hZ hown hml (k20_13U1 hw) (rmlenN hw a2 b k1 (2 : Int32) vs d1 w h0 n0 Z0 E_s F_v F_c V_s S1 hw0) E_s d20_5 ?_ 1
 rintro T_2 L_2 _ X_2 ⟨⟨⟩, Nq_2, e_2⟩
 have N_2 := Fr.app (Fr.nil n0) Nq_2
 refine o_iconst X_2 Hq 1 d20_8 rfl (o_iadd X_2 Hq d20_9 ?_)
 show own_Go _ _ _ _ (T_2.setTop (mkF m 10 #[rv a1] [(.int 3), (.ref a1)]))
 obtain ⟨T_3, h_3, X_3, e_3, W_3, st_3⟩ := putF X_2 hx hZ hown (host := "") (Or.inl (w_ hw 103 rfl)) Via.refl e_2 F4 E1 (Or.inl (w_ hw 104 rfl)) (w_ hw 38 rfl) (ty := .int) (by decide) rfl rfl (g := (mkF m 10 #[rv a1] [(.int 3), (.ref a1)])) rfl rfl (hb hby d20_10)
 refine own_st st_3 ?_
 have N_3 := Fr.snoc X_3 N_2 g1
 show own_Go _ _ _ _ (T_3.setTop (mkF m 13 #[rv a1] []))
 refine o_aloadN X_3 Hq d20_13 rfl rfl ?_
 have Fa_4 := (F3.other W_3 (Or.inr (slot_ne (Or.inl (w_ hw 64 rfl)) (Or.inl (w_ hw 104 rfl)) (by decide) (t := .int) (t' := .int) (by decide) (by decide))))
 obtain ⟨T_5, X_5, e_5, st_5⟩ := getF X_3 hx hZ hown (host := "") (Or.inl (w_ hw 63 rfl)) Via.refl e_3 Fa_4 (g := (mkF m 14 #[rv a1] [(.ref a1)])) rfl rfl (hb hby d20_14)
 refine own_st st_5 ?_
 show own_Go _ _ _ _ (T_5.setTop (mkF m 17 #[rv a1] [(.int 0)]))
 refine o_aloadN X_5 Hq d20_17 rfl rfl ?_
 have Fa_6 := (F2.other W_3 (Or.inr (slot_ne (Or.inl (w_ hw 57 rfl)) (Or.inl (w_ hw 104 rfl)) (by decide) (t := .int) (t' := .int) (by decide) (by decide))))
 obtain ⟨T_7, X_7, e_7, st_7⟩ := getF X_5 hx hZ hown (host := "") (Or.inl (w_ hw 56 rfl)) Via.refl e_5 Fa_6 (g := (mkF m 18 #[rv a1] [(.ref a1), (.int 0)])) rfl rfl (hb hby d20_18)
 refine own_st st_7 ?_
 show own_Go _ _ _ _ (T_7.setTop (mkF m 21 #[rv a1] [(.int 2), (.int 0)]))
 refine o_icmpNo X_7 Hq d20_21 (by decide) (o_aloadN X_7 Hq d20_24 rfl rfl ?_)
 have Fa_8 := (F1.other W_3 (Or.inr (slot_ne (Or.inr (w_ hw 45 rfl)) (Or.inl (w_ hw 104 rfl)) (by decide) (t := (.object "java/lang/String")) (t' := .int) (by decide) (by decide))))
 obtain ⟨T_9, X_9, e_9, st_9⟩ := getF X_7 hx hZ hown (host := "") (Or.inl (w_ hw 44 rfl)) Via.refl e_7 Fa_8 (g := (mkF m 25 #[rv a1] [(.ref a1)])) rfl rfl (hb hby d20_25)
 refine own_st st_9 ?_
 show own_Go _ _ _ _ (T_9.setTop (mkF m 28 #[rv a1] [(.ref a2)]))
 refine o_aloadN X_9 Hq d20_28 rfl rfl ?_
 obtain ⟨T_10, X_10, e_10, st_10⟩ := getF X_9 hx hZ hown (host := "") (Or.inl (w_ hw 63 rfl)) Via.refl e_9 Fa_4 (g := (mkF m 29 #[rv a1] [(.ref a1), (.ref a2)])) rfl rfl (hb hby d20_29)
 refine own_st st_10 ?_
 show own_Go _ _ _ _ (T_10.setTop (mkF m 32 #[rv a1] [(.int 0), (.ref a2)]))
 have Fa_12 := (E_s.wr W_3)
 have Fa_13 := (F_v.other W_3 (Or.inl n12))
 have Fa_14 := (F_c.other W_3 (Or.inl n12))
 have Fa_15 := (V_s.other W_3 nb1)
 have Fa_16 := (S1.wr W_3)
 have Fa_17 := (S2.wr W_3)
 have Zs_18 : n0 ≤ h_3.size := (Nat.le_trans Z0 (Keep.of_wr W_3).1)
 refine c_U1 X_10 Hq e_10 hZ hown hml (k20_35U1 hw) (rm15 hw a2 (0 : Int32) b k1 (2 : Int32) vs d1 w sfv f h_3 n0 Zs_18 Fa_12 Fa_13 Fa_14 Fa_15 Fa_16 hw0 hat hf Fa_17 hsf (by decide) (by decide)) Fa_12 d20_32 ?_ 0
 rintro T_11 L_11 _ X_11 ⟨⟨⟩, Nq_11, e_11⟩
 have N_11 := Fr.app N_3 Nq_11
 refine o_bipush X_11 Hq 32 d20_35 rfl (o_icmpYes X_11 Hq (pc' := 53) d20_37 (tlt ht0).2.2.1 (o_aloadN X_11 Hq d20_53 rfl rfl ?_))
 obtain ⟨T_19, X_19, e_19, st_19⟩ := getF X_11 hx hZ hown (host := "") (Or.inl (w_ hw 56 rfl)) Via.refl e_11 Fa_6 (g := (mkF m 54 #[rv a1] [(.ref a1)])) rfl rfl (hb hby d20_54)
 refine own_st st_19 ?_
 show own_Go _ _ _ _ (T_19.setTop (mkF m 57 #[rv a1] [(.int 2)]))
 refine o_aloadN X_19 Hq d20_57 rfl rfl ?_
 obtain ⟨T_20, X_20, e_20, st_20⟩ := getF X_19 hx hZ hown (host := "") (Or.inl (w_ hw 63 rfl)) Via.refl e_19 Fa_4 (g := (mkF m 58 #[rv a1] [(.ref a1), (.int 2)])) rfl rfl (hb hby d20_58)
 refine own_st st_20 ?_
 show own_Go _ _ _ _ (T_20.setTop (mkF m 61 #[rv a1] [(.int 0), (.int 2)]))
 refine o_icmpNo X_20 Hq d20_61 (by decide) (o_aloadN X_20 Hq d20_64 rfl rfl ?_)
 obtain ⟨T_21, X_21, e_21, st_21⟩ := getF X_20 hx hZ hown (host := "") (Or.inl (w_ hw 44 rfl)) Via.refl e_20 Fa_8 (g := (mkF m 65 #[rv a1] [(.ref a1)])) rfl rfl (hb hby d20_65)
 refine own_st st_21 ?_
 show own_Go _ _ _ _ (T_21.setTop (mkF m 68 #[rv a1] [(.ref a2)]))
 refine o_aloadN X_21 Hq d20_68 rfl rfl ?_
 obtain ⟨T_22, X_22, e_22, st_22⟩ := getF X_21 hx hZ hown (host := "") (Or.inl (w_ hw 56 rfl)) Via.refl e_21 Fa_6 (g := (mkF m 69 #[rv a1] [(.ref a1), (.ref a2)])) rfl rfl (hb hby d20_69)
 refine own_st st_22 ?_
 show own_Go _ _ _ _ (T_22.setTop (mkF m 72 #[rv a1] [(.int 2), (.ref a2)]))
 refine o_iconst X_22 Hq 1 d20_72 rfl (o_isub X_22 Hq d20_73 ?_)
 show own_Go _ _ _ _ (T_22.setTop (mkF m 74 #[rv a1] [(.int 1), (.ref a2)]))
 refine c_U1 X_22 Hq e_22 hZ hown hml (k20_35U1 hw) (rm15 hw a2 (1 : Int32) b k1 (2 : Int32) vs d1 w sfv f h_3 n0 Zs_18 Fa_12 Fa_13 Fa_14 Fa_15 Fa_16 hw0 hat hf Fa_17 hsf (by decide) (by decide)) Fa_12 d20_74 ?_ 0
 rintro T_23 L_23 _ X_23 ⟨⟨⟩, Nq_23, e_23⟩
 have N_23 := Fr.app N_11 Nq_23
 refine o_bipush X_23 Hq 32 d20_77 rfl (o_icmpNo X_23 Hq d20_79 (flt ht1).2.2.1 (o_aloadN X_23 Hq d20_82 rfl rfl (o_dup X_23 Hq d20_83 rfl ?_)))
 obtain ⟨T_24, X_24, e_24, st_24⟩ := getF X_23 hx hZ hown (host := "") (Or.inl (w_ hw 56 rfl)) Via.refl e_23 Fa_6 (g := (mkF m 84 #[rv a1] [(.ref a1), (.ref a1)])) rfl rfl (hb hby d20_84)
 refine own_st st_24 ?_
 show own_Go _ _ _ _ (T_24.setTop (mkF m 87 #[rv a1] [(.int 2), (.ref a1)]))
 refine o_iconst X_24 Hq 1 d20_87 rfl (o_isub X_24 Hq d20_88 ?_)
 show own_Go _ _ _ _ (T_24.setTop (mkF m 89 #[rv a1] [(.int 1), (.ref a1)]))
 have Fa_25 := (E1.wr W_3)
 obtain ⟨T_26, h_26, X_26, e_26, W_26, st_26⟩ := putF X_24 hx hZ hown (host := "") (Or.inl (w_ hw 56 rfl)) Via.refl e_24 Fa_6 Fa_25 (Or.inl (w_ hw 57 rfl)) (w_ hw 38 rfl) (ty := .int) (by decide) rfl rfl (g := (mkF m 89 #[rv a1] [(.int 1), (.ref a1)])) rfl rfl (hb hby d20_89)
 refine own_st st_26 ?_
 have N_26 := Fr.snoc X_26 N_23 g1
 show own_Go _ _ _ _ (T_26.setTop (mkF m 92 #[rv a1] []))
 refine o_goto X_26 Hq (pc' := 53) d20_92 (o_aloadN X_26 Hq d20_53 rfl rfl ?_)
 have Fa_27 := (Fa_6.same W_26)
 obtain ⟨T_28, X_28, e_28, st_28⟩ := getF X_26 hx hZ hown (host := "") (Or.inl (w_ hw 56 rfl)) Via.refl e_26 Fa_27 (g := (mkF m 54 #[rv a1] [(.ref a1)])) rfl rfl (hb hby d20_54)
 refine own_st st_28 ?_
 show own_Go _ _ _ _ (T_28.setTop (mkF m 57 #[rv a1] [(.int 1)]))
 refine o_aloadN X_28 Hq d20_57 rfl rfl ?_
 have Fa_29 := (Fa_4.other W_26 (Or.inr (slot_ne (Or.inl (w_ hw 64 rfl)) (Or.inl (w_ hw 57 rfl)) (by decide) (t := .int) (t' := .int) (by decide) (by decide))))
 obtain ⟨T_30, X_30, e_30, st_30⟩ := getF X_28 hx hZ hown (host := "") (Or.inl (w_ hw 63 rfl)) Via.refl e_28 Fa_29 (g := (mkF m 58 #[rv a1] [(.ref a1), (.int 1)])) rfl rfl (hb hby d20_58)
 refine own_st st_30 ?_
 show own_Go _ _ _ _ (T_30.setTop (mkF m 61 #[rv a1] [(.int 0), (.int 1)]))
 refine o_icmpNo X_30 Hq d20_61 (by decide) (o_aloadN X_30 Hq d20_64 rfl rfl ?_)
 have Fa_31 := (Fa_8.other W_26 (Or.inr (slot_ne (Or.inr (w_ hw 45 rfl)) (Or.inl (w_ hw 57 rfl)) (by decide) (t := (.object "java/lang/String")) (t' := .int) (by decide) (by decide))))
 obtain ⟨T_32, X_32, e_32, st_32⟩ := getF X_30 hx hZ hown (host := "") (Or.inl (w_ hw 44 rfl)) Via.refl e_30 Fa_31 (g := (mkF m 65 #[rv a1] [(.ref a1)])) rfl rfl (hb hby d20_65)
 refine own_st st_32 ?_
 show own_Go _ _ _ _ (T_32.setTop (mkF m 68 #[rv a1] [(.ref a2)]))
 refine o_aloadN X_32 Hq d20_68 rfl rfl ?_
 obtain ⟨T_33, X_33, e_33, st_33⟩ := getF X_32 hx hZ hown (host := "") (Or.inl (w_ hw 56 rfl)) Via.refl e_32 Fa_27 (g := (mkF m 69 #[rv a1] [(.ref a1), (.ref a2)])) rfl rfl (hb hby d20_69)
 refine own_st st_33 ?_
 show own_Go _ _ _ _ (T_33.setTop (mkF m 72 #[rv a1] [(.int 1), (.ref a2)]))
 refine o_iconst X_33 Hq 1 d20_72 rfl (o_isub X_33 Hq d20_73 ?_)
 show own_Go _ _ _ _ (T_33.setTop (mkF m 74 #[rv a1] [(.int 0), (.ref a2)]))
 have Fa_35 := (Fa_12.wr W_26)
 have Fa_36 := (Fa_13.other W_26 (Or.inl n12))
 have Fa_37 := (Fa_14.other W_26 (Or.inl n12))
 have Fa_38 := (Fa_15.other W_26 nb1)
 have Fa_39 := (Fa_16.wr W_26)
 have Fa_40 := (Fa_17.wr W_26)
 have Zs_41 : n0 ≤ h_26.size := (Nat.le_trans Zs_18 (Keep.of_wr W_26).1)
 refine c_U1 X_33 Hq e_33 hZ hown hml (k20_35U1 hw) (rm15 hw a2 (0 : Int32) b k1 (2 : Int32) vs d1 w sfv f h_26 n0 Zs_41 Fa_35 Fa_36 Fa_37 Fa_38 Fa_39 hw0 hat hf Fa_40 hsf (by decide) (by decide)) Fa_35 d20_74 ?_ 0
 rintro T_34 L_34 _ X_34 ⟨⟨⟩, Nq_34, e_34⟩
 have N_34 := Fr.app N_26 Nq_34
 refine o_bipush X_34 Hq 32 d20_77 rfl (o_icmpYes X_34 Hq (pc' := 95) d20_79 (tlt ht0).2.2.1 ?_)
 have Kp_42 : Keep h0 h_26 [a1] := (((Keep.refl h0 [a1]).wr W_3 (Or.inl (List.mem_of_getElem? (i := 0) rfl))).wr W_26 (Or.inl (List.mem_of_getElem? (i := 0) rfl)))
 exact e_V X_34 e_34 Hq hlk hrt d20_95 ⟨rfl, N_34, Kp_42, Fa_31, Fa_27, Fa_29⟩
def Q_rmtrim2_ft (Z : State) (a0 : Array Value) (a1 a2 b : Addr) (k1 : ClassId) (vs : List Value) (d1 : Value) (w : Int32) (sfv : Value) (f : Int32 → Int32) (h0 : Heap) (n0 : Nat) (v : Option Value) (h : Heap) (L : List Loc) : Prop := v = none ∧ Fr n0 L ∧ Keep h0 h [a1] ∧ Fld Z h a1 "com/example/vernum/vernum/VersionScanner" "input" "Ljava/lang/String;" (.ref a2) ∧ Fld Z h a1 "com/example/vernum/vernum/VersionScanner" "end" "I" (.int (2 : Int32)) ∧ Fld Z h a1 "com/example/vernum/vernum/VersionScanner" "position" "I" (.int (1 : Int32))
theorem rmtrim2_ft (hw : HW a0 Z) (a1 a2 b : Addr) (k1 : ClassId) (vs : List Value) (d1 : Value) (w : Int32) (sfv : Value) (f : Int32 → Int32) (h0 : Heap) (n0 : Nat) (Z0 : n0 ≤ h0.size) (E1 : Exa Z h0 a1 "com/example/vernum/vernum/VersionScanner") (g1 : n0 ≤ a1) (F1 : Fld Z h0 a1 "com/example/vernum/vernum/VersionScanner" "input" "Ljava/lang/String;" (.ref a2)) (F2 : Fld Z h0 a1 "com/example/vernum/vernum/VersionScanner" "end" "I" (.int (2 : Int32))) (F3 : Fld Z h0 a1 "com/example/vernum/vernum/VersionScanner" "position" "I" (.int (0 : Int32))) (F4 : Fld Z h0 a1 "com/example/vernum/vernum/VersionScanner" "peeked" "I" (.int (0 : Int32))) (n12 : a2 ≠ a1) (nb1 : b ≠ a1) (E_s : Exa Z h0 a2 "java/lang/String") (F_v : Fld Z h0 a2 "java/lang/String" "value" "[B" (.ref b)) (F_c : Fld Z h0 a2 "java/lang/String" "coder" "B" (.int (0 : Int32))) (V_s : Arv Z h0 b k1 .byte (2 : Int32) vs d1) (S1 : Sta Z h0 "java/lang/String" "COMPACT_STRINGS" "Z" (.int w)) (hw0 : ¬ w = (0 : Int32)) (hat : ∀ i : Int32, ¬ i < 0 → i < (2 : Int32) → vs.getD i.toNatClampNeg d1 = .int (((f i).toInt8.toInt32).toInt8.toInt32)) (hf : ∀ i : Int32, ¬ (255 : Int32) < f i ∧ ¬ f i < 0) (S2 : Sta Z h0 "jdk/internal/util/Preconditions" "SIOOBE_FORMATTER" "Ljava/util/function/BiFunction;" sfv) (hsf : sfv.isRef = true) (ht0 : ¬ (32 : Int32) < f (0 : Int32)) (ht1 : (32 : Int32) < f (1 : Int32)) :
  own_Met l y0_ prog_24_method_4_code 1 none (R_ 4 0 0 53) #[(.ref a1)] Z h0 (Q_rmtrim2_ft Z a0 a1 a2 b k1 vs d1 w sfv f h0 n0) := by
 refine own_bd (own := "com/example/vernum/vernum/VersionScanner") rfl (plainFor_of_name pn_9) #[rv a1] ?_
 intro p e s m below meth c s₁ hx hby Hq hml hown hnm hlk hrt hZ X0 e0
 refine o_aloadN X0 Hq d20_0 rfl rfl (o_aloadN X0 Hq d20_1 rfl rfl ?_)
 obtain ⟨T_1, X_1, e_1, st_1⟩ := getF X0 hx hZ hown (host := "") (Or.inl (w_ hw 44 rfl)) Via.refl e0 F1 (g := (mkF m 2 #[rv a1] [(.ref a1), (.ref a1)])) rfl rfl (hb hby d20_2)
 refine own_st st_1 ?_
 show own_Go _ _ _ _ (T_1.setTop (mkF m 5 #[rv a1] [(.ref a2), (.ref a1)]))
 refine c_U0 X_1 Hq e_1 hZ hown hml (k20_13U1 hw) (rmlenN hw a2 b k1 (2 : Int32) vs d1 w h0 n0 Z0 E_s F_v F_c V_s S1 hw0) E_s d20_5 ?_ 1
 rintro T_2 L_2 _ X_2 ⟨⟨⟩, Nq_2, e_2⟩
 have N_2 := Fr.app (Fr.nil n0) Nq_2
 refine o_iconst X_2 Hq 1 d20_8 rfl (o_iadd X_2 Hq d20_9 ?_)
 show own_Go _ _ _ _ (T_2.setTop (mkF m 10 #[rv a1] [(.int 3), (.ref a1)]))
 obtain ⟨T_3, h_3, X_3, e_3, W_3, st_3⟩ := putF X_2 hx hZ hown (host := "") (Or.inl (w_ hw 103 rfl)) Via.refl e_2 F4 E1 (Or.inl (w_ hw 104 rfl)) (w_ hw 38 rfl) (ty := .int) (by decide) rfl rfl (g := (mkF m 10 #[rv a1] [(.int 3), (.ref a1)])) rfl rfl (hb hby d20_10)
 refine own_st st_3 ?_
 have N_3 := Fr.snoc X_3 N_2 g1
 show own_Go _ _ _ _ (T_3.setTop (mkF m 13 #[rv a1] []))
 refine o_aloadN X_3 Hq d20_13 rfl rfl ?_
 have Fa_4 := (F3.other W_3 (Or.inr (slot_ne (Or.inl (w_ hw 64 rfl)) (Or.inl (w_ hw 104 rfl)) (by decide) (t := .int) (t' := .int) (by decide) (by decide))))
 obtain ⟨T_5, X_5, e_5, st_5⟩ := getF X_3 hx hZ hown (host := "") (Or.inl (w_ hw 63 rfl)) Via.refl e_3 Fa_4 (g := (mkF m 14 #[rv a1] [(.ref a1)])) rfl rfl (hb hby d20_14)
 refine own_st st_5 ?_
 show own_Go _ _ _ _ (T_5.setTop (mkF m 17 #[rv a1] [(.int 0)]))
 refine o_aloadN X_5 Hq d20_17 rfl rfl ?_
 have Fa_6 := (F2.other W_3 (Or.inr (slot_ne (Or.inl (w_ hw 57 rfl)) (Or.inl (w_ hw 104 rfl)) (by decide) (t := .int) (t' := .int) (by decide) (by decide))))
 obtain ⟨T_7, X_7, e_7, st_7⟩ := getF X_5 hx hZ hown (host := "") (Or.inl (w_ hw 56 rfl)) Via.refl e_5 Fa_6 (g := (mkF m 18 #[rv a1] [(.ref a1), (.int 0)])) rfl rfl (hb hby d20_18)
 refine own_st st_7 ?_
 show own_Go _ _ _ _ (T_7.setTop (mkF m 21 #[rv a1] [(.int 2), (.int 0)]))
 refine o_icmpNo X_7 Hq d20_21 (by decide) (o_aloadN X_7 Hq d20_24 rfl rfl ?_)
 have Fa_8 := (F1.other W_3 (Or.inr (slot_ne (Or.inr (w_ hw 45 rfl)) (Or.inl (w_ hw 104 rfl)) (by decide) (t := (.object "java/lang/String")) (t' := .int) (by decide) (by decide))))
 obtain ⟨T_9, X_9, e_9, st_9⟩ := getF X_7 hx hZ hown (host := "") (Or.inl (w_ hw 44 rfl)) Via.refl e_7 Fa_8 (g := (mkF m 25 #[rv a1] [(.ref a1)])) rfl rfl (hb hby d20_25)
 refine own_st st_9 ?_
 show own_Go _ _ _ _ (T_9.setTop (mkF m 28 #[rv a1] [(.ref a2)]))
 refine o_aloadN X_9 Hq d20_28 rfl rfl ?_
 obtain ⟨T_10, X_10, e_10, st_10⟩ := getF X_9 hx hZ hown (host := "") (Or.inl (w_ hw 63 rfl)) Via.refl e_9 Fa_4 (g := (mkF m 29 #[rv a1] [(.ref a1), (.ref a2)])) rfl rfl (hb hby d20_29)
 refine own_st st_10 ?_
 show own_Go _ _ _ _ (T_10.setTop (mkF m 32 #[rv a1] [(.int 0), (.ref a2)]))
 have Fa_12 := (E_s.wr W_3)
 have Fa_13 := (F_v.other W_3 (Or.inl n12))
 have Fa_14 := (F_c.other W_3 (Or.inl n12))
 have Fa_15 := (V_s.other W_3 nb1)
 have Fa_16 := (S1.wr W_3)
 have Fa_17 := (S2.wr W_3)
 have Zs_18 : n0 ≤ h_3.size := (Nat.le_trans Z0 (Keep.of_wr W_3).1)
 refine c_U1 X_10 Hq e_10 hZ hown hml (k20_35U1 hw) (rm15 hw a2 (0 : Int32) b k1 (2 : Int32) vs d1 w sfv f h_3 n0 Zs_18 Fa_12 Fa_13 Fa_14 Fa_15 Fa_16 hw0 hat hf Fa_17 hsf (by decide) (by decide)) Fa_12 d20_32 ?_ 0
 rintro T_11 L_11 _ X_11 ⟨⟨⟩, Nq_11, e_11⟩
 have N_11 := Fr.app N_3 Nq_11
 refine o_bipush X_11 Hq 32 d20_35 rfl (o_icmpNo X_11 Hq d20_37 (flt ht0).2.2.1 (o_aloadN X_11 Hq d20_40 rfl rfl (o_dup X_11 Hq d20_41 rfl ?_)))
 obtain ⟨T_19, X_19, e_19, st_19⟩ := getF X_11 hx hZ hown (host := "") (Or.inl (w_ hw 63 rfl)) Via.refl e_11 Fa_4 (g := (mkF m 42 #[rv a1] [(.ref a1), (.ref a1)])) rfl rfl (hb hby d20_42)
 refine own_st st_19 ?_
 show own_Go _ _ _ _ (T_19.setTop (mkF m 45 #[rv a1] [(.int 0), (.ref a1)]))
 refine o_iconst X_19 Hq 1 d20_45 rfl (o_iadd X_19 Hq d20_46 ?_)
 show own_Go _ _ _ _ (T_19.setTop (mkF m 47 #[rv a1] [(.int 1), (.ref a1)]))
 have Fa_20 := (E1.wr W_3)
 obtain ⟨T_21, h_21, X_21, e_21, W_21, st_21⟩ := putF X_19 hx hZ hown (host := "") (Or.inl (w_ hw 63 rfl)) Via.refl e_19 Fa_4 Fa_20 (Or.inl (w_ hw 64 rfl)) (w_ hw 38 rfl) (ty := .int) (by decide) rfl rfl (g := (mkF m 47 #[rv a1] [(.int 1), (.ref a1)])) rfl rfl (hb hby d20_47)
 refine own_st st_21 ?_
 have N_21 := Fr.snoc X_21 N_11 g1
 show own_Go _ _ _ _ (T_21.setTop (mkF m 50 #[rv a1] []))
 refine o_goto X_21 Hq (pc' := 13) d20_50 (o_aloadN X_21 Hq d20_13 rfl rfl ?_)
 have Fa_22 := (Fa_4.same W_21)
 obtain ⟨T_23, X_23, e_23, st_23⟩ := getF X_21 hx hZ hown (host := "") (Or.inl (w_ hw 63 rfl)) Via.refl e_21 Fa_22 (g := (mkF m 14 #[rv a1] [(.ref a1)])) rfl rfl (hb hby d20_14)
 refine own_st st_23 ?_
 show own_Go _ _ _ _ (T_23.setTop (mkF m 17 #[rv a1] [(.int 1)]))
 refine o_aloadN X_23 Hq d20_17 rfl rfl ?_
 have Fa_24 := (Fa_6.other W_21 (Or.inr (slot_ne (Or.inl (w_ hw 57 rfl)) (Or.inl (w_ hw 64 rfl)) (by decide) (t := .int) (t' := .int) (by decide) (by decide))))
 obtain ⟨T_25, X_25, e_25, st_25⟩ := getF X_23 hx hZ hown (host := "") (Or.inl (w_ hw 56 rfl)) Via.refl e_23 Fa_24 (g := (mkF m 18 #[rv a1] [(.ref a1), (.int 1)])) rfl rfl (hb hby d20_18)
 refine own_st st_25 ?_
 show own_Go _ _ _ _ (T_25.setTop (mkF m 21 #[rv a1] [(.int 2), (.int 1)]))
 refine o_icmpNo X_25 Hq d20_21 (by decide) (o_aloadN X_25 Hq d20_24 rfl rfl ?_)
 have Fa_26 := (Fa_8.other W_21 (Or.inr (slot_ne (Or.inr (w_ hw 45 rfl)) (Or.inl (w_ hw 64 rfl)) (by decide) (t := (.object "java/lang/String")) (t' := .int) (by decide) (by decide))))
 obtain ⟨T_27, X_27, e_27, st_27⟩ := getF X_25 hx hZ hown (host := "") (Or.inl (w_ hw 44 rfl)) Via.refl e_25 Fa_26 (g := (mkF m 25 #[rv a1] [(.ref a1)])) rfl rfl (hb hby d20_25)
 refine own_st st_27 ?_
 show own_Go _ _ _ _ (T_27.setTop (mkF m 28 #[rv a1] [(.ref a2)]))
 refine o_aloadN X_27 Hq d20_28 rfl rfl ?_
 obtain ⟨T_28, X_28, e_28, st_28⟩ := getF X_27 hx hZ hown (host := "") (Or.inl (w_ hw 63 rfl)) Via.refl e_27 Fa_22 (g := (mkF m 29 #[rv a1] [(.ref a1), (.ref a2)])) rfl rfl (hb hby d20_29)
 refine own_st st_28 ?_
 show own_Go _ _ _ _ (T_28.setTop (mkF m 32 #[rv a1] [(.int 1), (.ref a2)]))
 have Fa_30 := (Fa_12.wr W_21)
 have Fa_31 := (Fa_13.other W_21 (Or.inl n12))
 have Fa_32 := (Fa_14.other W_21 (Or.inl n12))
 have Fa_33 := (Fa_15.other W_21 nb1)
 have Fa_34 := (Fa_16.wr W_21)
 have Fa_35 := (Fa_17.wr W_21)
 have Zs_36 : n0 ≤ h_21.size := (Nat.le_trans Zs_18 (Keep.of_wr W_21).1)
 refine c_U1 X_28 Hq e_28 hZ hown hml (k20_35U1 hw) (rm15 hw a2 (1 : Int32) b k1 (2 : Int32) vs d1 w sfv f h_21 n0 Zs_36 Fa_30 Fa_31 Fa_32 Fa_33 Fa_34 hw0 hat hf Fa_35 hsf (by decide) (by decide)) Fa_30 d20_32 ?_ 0
 rintro T_29 L_29 _ X_29 ⟨⟨⟩, Nq_29, e_29⟩
 have N_29 := Fr.app N_21 Nq_29
 refine o_bipush X_29 Hq 32 d20_35 rfl (o_icmpYes X_29 Hq (pc' := 53) d20_37 (tlt ht1).2.2.1 (o_aloadN X_29 Hq d20_53 rfl rfl ?_))
 obtain ⟨T_37, X_37, e_37, st_37⟩ := getF X_29 hx hZ hown (host := "") (Or.inl (w_ hw 56 rfl)) Via.refl e_29 Fa_24 (g := (mkF m 54 #[rv a1] [(.ref a1)])) rfl rfl (hb hby d20_54)
 refine own_st st_37 ?_
 show own_Go _ _ _ _ (T_37.setTop (mkF m 57 #[rv a1] [(.int 2)]))
 refine o_aloadN X_37 Hq d20_57 rfl rfl ?_
 obtain ⟨T_38, X_38, e_38, st_38⟩ := getF X_37 hx hZ hown (host := "") (Or.inl (w_ hw 63 rfl)) Via.refl e_37 Fa_22 (g := (mkF m 58 #[rv a1] [(.ref a1), (.int 2)])) rfl rfl (hb hby d20_58)
 refine own_st st_38 ?_
 show own_Go _ _ _ _ (T_38.setTop (mkF m 61 #[rv a1] [(.int 1), (.int 2)]))
 refine o_icmpNo X_38 Hq d20_61 (by decide) (o_aloadN X_38 Hq d20_64 rfl rfl ?_)
 obtain ⟨T_39, X_39, e_39, st_39⟩ := getF X_38 hx hZ hown (host := "") (Or.inl (w_ hw 44 rfl)) Via.refl e_38 Fa_26 (g := (mkF m 65 #[rv a1] [(.ref a1)])) rfl rfl (hb hby d20_65)
 refine own_st st_39 ?_
 show own_Go _ _ _ _ (T_39.setTop (mkF m 68 #[rv a1] [(.ref a2)]))
 refine o_aloadN X_39 Hq d20_68 rfl rfl ?_
 obtain ⟨T_40, X_40, e_40, st_40⟩ := getF X_39 hx hZ hown (host := "") (Or.inl (w_ hw 56 rfl)) Via.refl e_39 Fa_24 (g := (mkF m 69 #[rv a1] [(.ref a1), (.ref a2)])) rfl rfl (hb hby d20_69)
 refine own_st st_40 ?_
 show own_Go _ _ _ _ (T_40.setTop (mkF m 72 #[rv a1] [(.int 2), (.ref a2)]))
 refine o_iconst X_40 Hq 1 d20_72 rfl (o_isub X_40 Hq d20_73 ?_)
 show own_Go _ _ _ _ (T_40.setTop (mkF m 74 #[rv a1] [(.int 1), (.ref a2)]))
 refine c_U1 X_40 Hq e_40 hZ hown hml (k20_35U1 hw) (rm15 hw a2 (1 : Int32) b k1 (2 : Int32) vs d1 w sfv f h_21 n0 Zs_36 Fa_30 Fa_31 Fa_32 Fa_33 Fa_34 hw0 hat hf Fa_35 hsf (by decide) (by decide)) Fa_30 d20_74 ?_ 0
 rintro T_41 L_41 _ X_41 ⟨⟨⟩, Nq_41, e_41⟩
 have N_41 := Fr.app N_29 Nq_41
 refine o_bipush X_41 Hq 32 d20_77 rfl (o_icmpYes X_41 Hq (pc' := 95) d20_79 (tlt ht1).2.2.1 ?_)
 have Kp_42 : Keep h0 h_21 [a1] := (((Keep.refl h0 [a1]).wr W_3 (Or.inl (List.mem_of_getElem? (i := 0) rfl))).wr W_21 (Or.inl (List.mem_of_getElem? (i := 0) rfl)))
 exact e_V X_41 e_41 Hq hlk hrt d20_95 ⟨rfl, N_41, Kp_42, Fa_26, Fa_24, Fa_22⟩
def Q_rmtrim2_ff (Z : State) (a0 : Array Value) (a1 a2 b : Addr) (k1 : ClassId) (vs : List Value) (d1 : Value) (w : Int32) (sfv : Value) (f : Int32 → Int32) (h0 : Heap) (n0 : Nat) (v : Option Value) (h : Heap) (L : List Loc) : Prop := v = none ∧ Fr n0 L ∧ Keep h0 h [a1] ∧ Fld Z h a1 "com/example/vernum/vernum/VersionScanner" "input" "Ljava/lang/String;" (.ref a2) ∧ Fld Z h a1 "com/example/vernum/vernum/VersionScanner" "end" "I" (.int (2 : Int32)) ∧ Fld Z h a1 "com/example/vernum/vernum/VersionScanner" "position" "I" (.int (2 : Int32))
theorem rmtrim2_ff (hw : HW a0 Z) (a1 a2 b : Addr) (k1 : ClassId) (vs : List Value) (d1 : Value) (w : Int32) (sfv : Value) (f : Int32 → Int32) (h0 : Heap) (n0 : Nat) (Z0 : n0 ≤ h0.size) (E1 : Exa Z h0 a1 "com/example/vernum/vernum/VersionScanner") (g1 : n0 ≤ a1) (F1 : Fld Z h0 a1 "com/example/vernum/vernum/VersionScanner" "input" "Ljava/lang/String;" (.ref a2)) (F2 : Fld Z h0 a1 "com/example/vernum/vernum/VersionScanner" "end" "I" (.int (2 : Int32))) (F3 : Fld Z h0 a1 "com/example/vernum/vernum/VersionScanner" "position" "I" (.int (0 : Int32))) (F4 : Fld Z h0 a1 "com/example/vernum/vernum/VersionScanner" "peeked" "I" (.int (0 : Int32))) (n12 : a2 ≠ a1) (nb1 : b ≠ a1) (E_s : Exa Z h0 a2 "java/lang/String") (F_v : Fld Z h0 a2 "java/lang/String" "value" "[B" (.ref b)) (F_c : Fld Z h0 a2 "java/lang/String" "coder" "B" (.int (0 : Int32))) (V_s : Arv Z h0 b k1 .byte (2 : Int32) vs d1) (S1 : Sta Z h0 "java/lang/String" "COMPACT_STRINGS" "Z" (.int w)) (hw0 : ¬ w = (0 : Int32)) (hat : ∀ i : Int32, ¬ i < 0 → i < (2 : Int32) → vs.getD i.toNatClampNeg d1 = .int (((f i).toInt8.toInt32).toInt8.toInt32)) (hf : ∀ i : Int32, ¬ (255 : Int32) < f i ∧ ¬ f i < 0) (S2 : Sta Z h0 "jdk/internal/util/Preconditions" "SIOOBE_FORMATTER" "Ljava/util/function/BiFunction;" sfv) (hsf : sfv.isRef = true) (ht0 : ¬ (32 : Int32) < f (0 : Int32)) (ht1 : ¬ (32 : Int32) < f (1 : Int32)) :
  own_Met l y0_ prog_24_method_4_code 1 none (R_ 4 0 0 53) #[(.ref a1)] Z h0 (Q_rmtrim2_ff Z a0 a1 a2 b k1 vs d1 w sfv f h0 n0) := by
 refine own_bd (own := "com/example/vernum/vernum/VersionScanner") rfl (plainFor_of_name pn_9) #[rv a1] ?_
 intro p e s m below meth c s₁ hx hby Hq hml hown hnm hlk hrt hZ X0 e0
 refine o_aloadN X0 Hq d20_0 rfl rfl (o_aloadN X0 Hq d20_1 rfl rfl ?_)
 obtain ⟨T_1, X_1, e_1, st_1⟩ := getF X0 hx hZ hown (host := "") (Or.inl (w_ hw 44 rfl)) Via.refl e0 F1 (g := (mkF m 2 #[rv a1] [(.ref a1), (.ref a1)])) rfl rfl (hb hby d20_2)
 refine own_st st_1 ?_
 show own_Go _ _ _ _ (T_1.setTop (mkF m 5 #[rv a1] [(.ref a2), (.ref a1)]))
 refine c_U0 X_1 Hq e_1 hZ hown hml (k20_13U1 hw) (rmlenN hw a2 b k1 (2 : Int32) vs d1 w h0 n0 Z0 E_s F_v F_c V_s S1 hw0) E_s d20_5 ?_ 1
 rintro T_2 L_2 _ X_2 ⟨⟨⟩, Nq_2, e_2⟩
 have N_2 := Fr.app (Fr.nil n0) Nq_2
 refine o_iconst X_2 Hq 1 d20_8 rfl (o_iadd X_2 Hq d20_9 ?_)
 show own_Go _ _ _ _ (T_2.setTop (mkF m 10 #[rv a1] [(.int 3), (.ref a1)]))
 obtain ⟨T_3, h_3, X_3, e_3, W_3, st_3⟩ := putF X_2 hx hZ hown (host := "") (Or.inl (w_ hw 103 rfl)) Via.refl e_2 F4 E1 (Or.inl (w_ hw 104 rfl)) (w_ hw 38 rfl) (ty := .int) (by decide) rfl rfl (g := (mkF m 10 #[rv a1] [(.int 3), (.ref a1)])) rfl rfl (hb hby d20_10)
 refine own_st st_3 ?_
 have N_3 := Fr.snoc X_3 N_2 g1
 show own_Go _ _ _ _ (T_3.setTop (mkF m 13 #[rv a1] []))
 refine o_aloadN X_3 Hq d20_13 rfl rfl ?_
 have Fa_4 := (F3.other W_3 (Or.inr (slot_ne (Or.inl (w_ hw 64 rfl)) (Or.inl (w_ hw 104 rfl)) (by decide) (t := .int) (t' := .int) (by decide) (by decide))))
 obtain ⟨T_5, X_5, e_5, st_5⟩ := getF X_3 hx hZ hown (host := "") (Or.inl (w_ hw 63 rfl)) Via.refl e_3 Fa_4 (g := (mkF m 14 #[rv a1] [(.ref a1)])) rfl rfl (hb hby d20_14)
 refine own_st st_5 ?_
 show own_Go _ _ _ _ (T_5.setTop (mkF m 17 #[rv a1] [(.int 0)]))
 refine o_aloadN X_5 Hq d20_17 rfl rfl ?_
 have Fa_6 := (F2.other W_3 (Or.inr (slot_ne (Or.inl (w_ hw 57 rfl)) (Or.inl (w_ hw 104 rfl)) (by decide) (t := .int) (t' := .int) (by decide) (by decide))))
 obtain ⟨T_7, X_7, e_7, st_7⟩ := getF X_5 hx hZ hown (host := "") (Or.inl (w_ hw 56 rfl)) Via.refl e_5 Fa_6 (g := (mkF m 18 #[rv a1] [(.ref a1), (.int 0)])) rfl rfl (hb hby d20_18)
 refine own_st st_7 ?_
 show own_Go _ _ _ _ (T_7.setTop (mkF m 21 #[rv a1] [(.int 2), (.int 0)]))
 refine o_icmpNo X_7 Hq d20_21 (by decide) (o_aloadN X_7 Hq d20_24 rfl rfl ?_)
 have Fa_8 := (F1.other W_3 (Or.inr (slot_ne (Or.inr (w_ hw 45 rfl)) (Or.inl (w_ hw 104 rfl)) (by decide) (t := (.object "java/lang/String")) (t' := .int) (by decide) (by decide))))
 obtain ⟨T_9, X_9, e_9, st_9⟩ := getF X_7 hx hZ hown (host := "") (Or.inl (w_ hw 44 rfl)) Via.refl e_7 Fa_8 (g := (mkF m 25 #[rv a1] [(.ref a1)])) rfl rfl (hb hby d20_25)
 refine own_st st_9 ?_
 show own_Go _ _ _ _ (T_9.setTop (mkF m 28 #[rv a1] [(.ref a2)]))
 refine o_aloadN X_9 Hq d20_28 rfl rfl ?_
 obtain ⟨T_10, X_10, e_10, st_10⟩ := getF X_9 hx hZ hown (host := "") (Or.inl (w_ hw 63 rfl)) Via.refl e_9 Fa_4 (g := (mkF m 29 #[rv a1] [(.ref a1), (.ref a2)])) rfl rfl (hb hby d20_29)
 refine own_st st_10 ?_
 show own_Go _ _ _ _ (T_10.setTop (mkF m 32 #[rv a1] [(.int 0), (.ref a2)]))
 have Fa_12 := (E_s.wr W_3)
 have Fa_13 := (F_v.other W_3 (Or.inl n12))
 have Fa_14 := (F_c.other W_3 (Or.inl n12))
 have Fa_15 := (V_s.other W_3 nb1)
 have Fa_16 := (S1.wr W_3)
 have Fa_17 := (S2.wr W_3)
 have Zs_18 : n0 ≤ h_3.size := (Nat.le_trans Z0 (Keep.of_wr W_3).1)
 refine c_U1 X_10 Hq e_10 hZ hown hml (k20_35U1 hw) (rm15 hw a2 (0 : Int32) b k1 (2 : Int32) vs d1 w sfv f h_3 n0 Zs_18 Fa_12 Fa_13 Fa_14 Fa_15 Fa_16 hw0 hat hf Fa_17 hsf (by decide) (by decide)) Fa_12 d20_32 ?_ 0
 rintro T_11 L_11 _ X_11 ⟨⟨⟩, Nq_11, e_11⟩
 have N_11 := Fr.app N_3 Nq_11
 refine o_bipush X_11 Hq 32 d20_35 rfl (o_icmpNo X_11 Hq d20_37 (flt ht0).2.2.1 (o_aloadN X_11 Hq d20_40 rfl rfl (o_dup X_11 Hq d20_41 rfl ?_)))
 obtain ⟨T_19, X_19, e_19, st_19⟩ := getF X_11 hx hZ hown (host := "") (Or.inl (w_ hw 63 rfl)) Via.refl e_11 Fa_4 (g := (mkF m 42 #[rv a1] [(.ref a1), (.ref a1)])) rfl rfl (hb hby d20_42)
 refine own_st st_19 ?_
 show own_Go _ _ _ _ (T_19.setTop (mkF m 45 #[rv a1] [(.int 0), (.ref a1)]))
 refine o_iconst X_19 Hq 1 d20_45 rfl (o_iadd X_19 Hq d20_46 ?_)
 show own_Go _ _ _ _ (T_19.setTop (mkF m 47 #[rv a1] [(.int 1), (.ref a1)]))
 have Fa_20 := (E1.wr W_3)
 obtain ⟨T_21, h_21, X_21, e_21, W_21, st_21⟩ := putF X_19 hx hZ hown (host := "") (Or.inl (w_ hw 63 rfl)) Via.refl e_19 Fa_4 Fa_20 (Or.inl (w_ hw 64 rfl)) (w_ hw 38 rfl) (ty := .int) (by decide) rfl rfl (g := (mkF m 47 #[rv a1] [(.int 1), (.ref a1)])) rfl rfl (hb hby d20_47)
 refine own_st st_21 ?_
 have N_21 := Fr.snoc X_21 N_11 g1
 show own_Go _ _ _ _ (T_21.setTop (mkF m 50 #[rv a1] []))
 refine o_goto X_21 Hq (pc' := 13) d20_50 (o_aloadN X_21 Hq d20_13 rfl rfl ?_)
 have Fa_22 := (Fa_4.same W_21)
 obtain ⟨T_23, X_23, e_23, st_23⟩ := getF X_21 hx hZ hown (host := "") (Or.inl (w_ hw 63 rfl)) Via.refl e_21 Fa_22 (g := (mkF m 14 #[rv a1] [(.ref a1)])) rfl rfl (hb hby d20_14)
 refine own_st st_23 ?_
 show own_Go _ _ _ _ (T_23.setTop (mkF m 17 #[rv a1] [(.int 1)]))
 refine o_aloadN X_23 Hq d20_17 rfl rfl ?_
 have Fa_24 := (Fa_6.other W_21 (Or.inr (slot_ne (Or.inl (w_ hw 57 rfl)) (Or.inl (w_ hw 64 rfl)) (by decide) (t := .int) (t' := .int) (by decide) (by decide))))
 obtain ⟨T_25, X_25, e_25, st_25⟩ := getF X_23 hx hZ hown (host := "") (Or.inl (w_ hw 56 rfl)) Via.refl e_23 Fa_24 (g := (mkF m 18 #[rv a1] [(.ref a1), (.int 1)])) rfl rfl (hb hby d20_18)
 refine own_st st_25 ?_
 show own_Go _ _ _ _ (T_25.setTop (mkF m 21 #[rv a1] [(.int 2), (.int 1)]))
 refine o_icmpNo X_25 Hq d20_21 (by decide) (o_aloadN X_25 Hq d20_24 rfl rfl ?_)
 have Fa_26 := (Fa_8.other W_21 (Or.inr (slot_ne (Or.inr (w_ hw 45 rfl)) (Or.inl (w_ hw 64 rfl)) (by decide) (t := (.object "java/lang/String")) (t' := .int) (by decide) (by decide))))
 obtain ⟨T_27, X_27, e_27, st_27⟩ := getF X_25 hx hZ hown (host := "") (Or.inl (w_ hw 44 rfl)) Via.refl e_25 Fa_26 (g := (mkF m 25 #[rv a1] [(.ref a1)])) rfl rfl (hb hby d20_25)
 refine own_st st_27 ?_
 show own_Go _ _ _ _ (T_27.setTop (mkF m 28 #[rv a1] [(.ref a2)]))
 refine o_aloadN X_27 Hq d20_28 rfl rfl ?_
 obtain ⟨T_28, X_28, e_28, st_28⟩ := getF X_27 hx hZ hown (host := "") (Or.inl (w_ hw 63 rfl)) Via.refl e_27 Fa_22 (g := (mkF m 29 #[rv a1] [(.ref a1), (.ref a2)])) rfl rfl (hb hby d20_29)
 refine own_st st_28 ?_
 show own_Go _ _ _ _ (T_28.setTop (mkF m 32 #[rv a1] [(.int 1), (.ref a2)]))
 have Fa_30 := (Fa_12.wr W_21)
 have Fa_31 := (Fa_13.other W_21 (Or.inl n12))
 have Fa_32 := (Fa_14.other W_21 (Or.inl n12))
 have Fa_33 := (Fa_15.other W_21 nb1)
 have Fa_34 := (Fa_16.wr W_21)
 have Fa_35 := (Fa_17.wr W_21)
 have Zs_36 : n0 ≤ h_21.size := (Nat.le_trans Zs_18 (Keep.of_wr W_21).1)
 refine c_U1 X_28 Hq e_28 hZ hown hml (k20_35U1 hw) (rm15 hw a2 (1 : Int32) b k1 (2 : Int32) vs d1 w sfv f h_21 n0 Zs_36 Fa_30 Fa_31 Fa_32 Fa_33 Fa_34 hw0 hat hf Fa_35 hsf (by decide) (by decide)) Fa_30 d20_32 ?_ 0
 rintro T_29 L_29 _ X_29 ⟨⟨⟩, Nq_29, e_29⟩
 have N_29 := Fr.app N_21 Nq_29
 refine o_bipush X_29 Hq 32 d20_35 rfl (o_icmpNo X_29 Hq d20_37 (flt ht1).2.2.1 (o_aloadN X_29 Hq d20_40 rfl rfl (o_dup X_29 Hq d20_41 rfl ?_)))
 obtain ⟨T_37, X_37, e_37, st_37⟩ := getF X_29 hx hZ hown (host := "") (Or.inl (w_ hw 63 rfl)) Via.refl e_29 Fa_22 (g := (mkF m 42 #[rv a1] [(.ref a1), (.ref a1)])) rfl rfl (hb hby d20_42)
 refine own_st st_37 ?_
 show own_Go _ _ _ _ (T_37.setTop (mkF m 45 #[rv a1] [(.int 1), (.ref a1)]))
 refine o_iconst X_37 Hq 1 d20_45 rfl (o_iadd X_37 Hq d20_46 ?_)
 show own_Go _ _ _ _ (T_37.setTop (mkF m 47 #[rv a1] [(.int 2), (.ref a1)]))
 have Fa_38 := (Fa_20.wr W_21)
 obtain ⟨T_39, h_39, X_39, e_39, W_39, st_39⟩ := putF X_37 hx hZ hown (host := "") (Or.inl (w_ hw 63 rfl)) Via.refl e_37 Fa_22 Fa_38 (Or.inl (w_ hw 64 rfl)) (w_ hw 38 rfl) (ty := .int) (by decide) rfl rfl (g := (mkF m 47 #[rv a1] [(.int 2), (.ref a1)])) rfl rfl (hb hby d20_47)
 refine own_st st_39 ?_
 have N_39 := Fr.snoc X_39 N_29 g1
 show own_Go _ _ _ _ (T_39.setTop (mkF m 50 #[rv a1] []))
 refine o_goto X_39 Hq (pc' := 13) d20_50 (o_aloadN X_39 Hq d20_13 rfl rfl ?_)
 have Fa_40 := (Fa_22.same W_39)
 obtain ⟨T_41, X_41, e_41, st_41⟩ := getF X_39 hx hZ hown (host := "") (Or.inl (w_ hw 63 rfl)) Via.refl e_39 Fa_40 (g := (mkF m 14 #[rv a1] [(.ref a1)])) rfl rfl (hb hby d20_14)
 refine own_st st_41 ?_
 show own_Go _ _ _ _ (T_41.setTop (mkF m 17 #[rv a1] [(.int 2)]))
 refine o_aloadN X_41 Hq d20_17 rfl rfl ?_
 have Fa_42 := (Fa_24.other W_39 (Or.inr (slot_ne (Or.inl (w_ hw 57 rfl)) (Or.inl (w_ hw 64 rfl)) (by decide) (t := .int) (t' := .int) (by decide) (by decide))))
 obtain ⟨T_43, X_43, e_43, st_43⟩ := getF X_41 hx hZ hown (host := "") (Or.inl (w_ hw 56 rfl)) Via.refl e_41 Fa_42 (g := (mkF m 18 #[rv a1] [(.ref a1), (.int 2)])) rfl rfl (hb hby d20_18)
 refine own_st st_43 ?_
 show own_Go _ _ _ _ (T_43.setTop (mkF m 21 #[rv a1] [(.int 2), (.int 2)]))
 refine o_icmpYes X_43 Hq (pc' := 53) d20_21 (by decide) (o_aloadN X_43 Hq d20_53 rfl rfl ?_)
 obtain ⟨T_44, X_44, e_44, st_44⟩ := getF X_43 hx hZ hown (host := "") (Or.inl (w_ hw 56 rfl)) Via.refl e_43 Fa_42 (g := (mkF m 54 #[rv a1] [(.ref a1)])) rfl rfl (hb hby d20_54)
 refine own_st st_44 ?_
 show own_Go _ _ _ _ (T_44.setTop (mkF m 57 #[rv a1] [(.int 2)]))
 refine o_aloadN X_44 Hq d20_57 rfl rfl ?_
 obtain ⟨T_45, X_45, e_45, st_45⟩ := getF X_44 hx hZ hown (host := "") (Or.inl (w_ hw 63 rfl)) Via.refl e_44 Fa_40 (g := (mkF m 58 #[rv a1] [(.ref a1), (.int 2)])) rfl rfl (hb hby d20_58)
 refine own_st st_45 ?_
 show own_Go _ _ _ _ (T_45.setTop (mkF m 61 #[rv a1] [(.int 2), (.int 2)]))
 refine o_icmpYes X_45 Hq (pc' := 95) d20_61 (by decide) ?_
 have Kp_46 : Keep h0 h_39 [a1] := ((((Keep.refl h0 [a1]).wr W_3 (Or.inl (List.mem_of_getElem? (i := 0) rfl))).wr W_21 (Or.inl (List.mem_of_getElem? (i := 0) rfl))).wr W_39 (Or.inl (List.mem_of_getElem? (i := 0) rfl)))
 have Fa_47 := (Fa_26.other W_39 (Or.inr (slot_ne (Or.inr (w_ hw 45 rfl)) (Or.inl (w_ hw 64 rfl)) (by decide) (t := (.object "java/lang/String")) (t' := .int) (by decide) (by decide))))
 exact e_V X_45 e_45 Hq hlk hrt d20_95 ⟨rfl, N_39, Kp_46, Fa_47, Fa_42, Fa_40⟩
def Q_rmtrim3_ttt (Z : State) (a0 : Array Value) (a1 a2 b : Addr) (k1 : ClassId) (vs : List Value) (d1 : Value) (w : Int32) (sfv : Value) (f : Int32 → Int32) (h0 : Heap) (n0 : Nat) (v : Option Value) (h : Heap) (L : List Loc) : Prop := v = none ∧ Fr n0 L ∧ Keep h0 h [a1] ∧ Fld Z h a1 "com/example/vernum/vernum/VersionScanner" "input" "Ljava/lang/String;" (.ref a2) ∧ Fld Z h a1 "com/example/vernum/vernum/VersionScanner" "end" "I" (.int (3 : Int32)) ∧ Fld Z h a1 "com/example/vernum/vernum/VersionScanner" "position" "I" (.int (0 : Int32))
theorem rmtrim3_ttt (hw : HW a0 Z) (a1 a2 b : Addr) (k1 : ClassId) (vs : List Value) (d1 : Value) (w : Int32) (sfv : Value) (f : Int32 → Int32) (h0 : Heap) (n0 : Nat) (Z0 : n0 ≤ h0.size) (E1 : Exa Z h0 a1 "com/example/vernum/vernum/VersionScanner") (g1 : n0 ≤ a1) (F1 : Fld Z h0 a1 "com/example/vernum/vernum/VersionScanner" "input" "Ljava/lang/String;" (.ref a2)) (F2 : Fld Z h0 a1 "com/example/vernum/vernum/VersionScanner" "end" "I" (.int (3 : Int32))) (F3 : Fld Z h0 a1 "com/example/vernum/vernum/VersionScanner" "position" "I" (.int (0 : Int32))) (F4 : Fld Z h0 a1 "com/example/vernum/vernum/VersionScanner" "peeked" "I" (.int (0 : Int32))) (n12 : a2 ≠ a1) (nb1 : b ≠ a1) (E_s : Exa Z h0 a2 "java/lang/String") (F_v : Fld Z h0 a2 "java/lang/String" "value" "[B" (.ref b)) (F_c : Fld Z h0 a2 "java/lang/String" "coder" "B" (.int (0 : Int32))) (V_s : Arv Z h0 b k1 .byte (3 : Int32) vs d1) (S1 : Sta Z h0 "java/lang/String" "COMPACT_STRINGS" "Z" (.int w)) (hw0 : ¬ w = (0 : Int32)) (hat : ∀ i : Int32, ¬ i < 0 → i < (3 : Int32) → vs.getD i.toNatClampNeg d1 = .int (((f i).toInt8.toInt32).toInt8.toInt32)) (hf : ∀ i : Int32, ¬ (255 : Int32) < f i ∧ ¬ f i < 0) (S2 : Sta Z h0 "jdk/internal/util/Preconditions" "SIOOBE_FORMATTER" "Ljava/util/function/BiFunction;" sfv) (hsf : sfv.isRef = true) (ht0 : (32 : Int32) < f (0 : Int32)) (ht1 : (32 : Int32) < f (1 : Int32)) (ht2 : (32 : Int32) < f (2 : Int32)) :
  own_Met l y0_ prog_24_method_4_code 1 none (R_ 4 0 0 53) #[(.ref a1)] Z h0 (Q_rmtrim3_ttt Z a0 a1 a2 b k1 vs d1 w sfv f h0 n0) := by
 refine own_bd (own := "com/example/vernum/vernum/VersionScanner") rfl (plainFor_of_name pn_9) #[rv a1] ?_
 intro p e s m below meth c s₁ hx hby Hq hml hown hnm hlk hrt hZ X0 e0
 refine o_aloadN X0 Hq d20_0 rfl rfl (o_aloadN X0 Hq d20_1 rfl rfl ?_)
 obtain ⟨T_1, X_1, e_1, st_1⟩ := getF X0 hx hZ hown (host := "") (Or.inl (w_ hw 44 rfl)) Via.refl e0 F1 (g := (mkF m 2 #[rv a1] [(.ref a1), (.ref a1)])) rfl rfl (hb hby d20_2)
 refine own_st st_1 ?_
 show own_Go _ _ _ _ (T_1.setTop (mkF m 5 #[rv a1] [(.ref a2), (.ref a1)]))
 refine c_U0 X_1 Hq e_1 hZ hown hml (k20_13U1 hw) (rmlenN hw a2 b k1 (3 : Int32) vs d1 w h0 n0 Z0 E_s F_v F_c V_s S1 hw0) E_s d20_5 ?_ 1
 rintro T_2 L_2 _ X_2 ⟨⟨⟩, Nq_2, e_2⟩
 have N_2 := Fr.app (Fr.nil n0) Nq_2
 refine o_iconst X_2 Hq 1 d20_8 rfl (o_iadd X_2 Hq d20_9 ?_)
 show own_Go _ _ _ _ (T_2.setTop (mkF m 10 #[rv a1] [(.int 4), (.ref a1)]))
 obtain ⟨T_3, h_3, X_3, e_3, W_3, st_3⟩ := putF X_2 hx hZ hown (host := "") (Or.inl (w_ hw 103 rfl)) Via.refl e_2 F4 E1 (Or.inl (w_ hw 104 rfl)) (w_ hw 38 rfl) (ty := .int) (by decide) rfl rfl (g := (mkF m 10 #[rv a1] [(.int 4), (.ref a1)])) rfl rfl (hb hby d20_10)
 refine own_st st_3 ?_
 have N_3 := Fr.snoc X_3 N_2 g1
 show own_Go _ _ _ _ (T_3.setTop (mkF m 13 #[rv a1] []))
 refine o_aloadN X_3 Hq d20_13 rfl rfl ?_
 have Fa_4 := (F3.other W_3 (Or.inr (slot_ne (Or.inl (w_ hw 64 rfl)) (Or.inl (w_ hw 104 rfl)) (by decide) (t := .int) (t' := .int) (by decide) (by decide))))
 obtain ⟨T_5, X_5, e_5, st_5⟩ := getF X_3 hx hZ hown (host := "") (Or.inl (w_ hw 63 rfl)) Via.refl e_3 Fa_4 (g := (mkF m 14 #[rv a1] [(.ref a1)])) rfl rfl (hb hby d20_14)
 refine own_st st_5 ?_
 show own_Go _ _ _ _ (T_5.setTop (mkF m 17 #[rv a1] [(.int 0)]))
 refine o_aloadN X_5 Hq d20_17 rfl rfl ?_
 have Fa_6 := (F2.other W_3 (Or.inr (slot_ne (Or.inl (w_ hw 57 rfl)) (Or.inl (w_ hw 104 rfl)) (by decide) (t := .int) (t' := .int) (by decide) (by decide))))
 obtain ⟨T_7, X_7, e_7, st_7⟩ := getF X_5 hx hZ hown (host := "") (Or.inl (w_ hw 56 rfl)) Via.refl e_5 Fa_6 (g := (mkF m 18 #[rv a1] [(.ref a1), (.int 0)])) rfl rfl (hb hby d20_18)
 refine own_st st_7 ?_
 show own_Go _ _ _ _ (T_7.setTop (mkF m 21 #[rv a1] [(.int 3), (.int 0)]))
 refine o_icmpNo X_7 Hq d20_21 (by decide) (o_aloadN X_7 Hq d20_24 rfl rfl ?_)
 have Fa_8 := (F1.other W_3 (Or.inr (slot_ne (Or.inr (w_ hw 45 rfl)) (Or.inl (w_ hw 104 rfl)) (by decide) (t := (.object "java/lang/String")) (t' := .int) (by decide) (by decide))))
 obtain ⟨T_9, X_9, e_9, st_9⟩ := getF X_7 hx hZ hown (host := "") (Or.inl (w_ hw 44 rfl)) Via.refl e_7 Fa_8 (g := (mkF m 25 #[rv a1] [(.ref a1)])) rfl rfl (hb hby d20_25)
 refine own_st st_9 ?_
 show own_Go _ _ _ _ (T_9.setTop (mkF m 28 #[rv a1] [(.ref a2)]))
 refine o_aloadN X_9 Hq d20_28 rfl rfl ?_
 obtain ⟨T_10, X_10, e_10, st_10⟩ := getF X_9 hx hZ hown (host := "") (Or.inl (w_ hw 63 rfl)) Via.refl e_9 Fa_4 (g := (mkF m 29 #[rv a1] [(.ref a1), (.ref a2)])) rfl rfl (hb hby d20_29)
 refine own_st st_10 ?_
 show own_Go _ _ _ _ (T_10.setTop (mkF m 32 #[rv a1] [(.int 0), (.ref a2)]))
 have Fa_12 := (E_s.wr W_3)
 have Fa_13 := (F_v.other W_3 (Or.inl n12))
 have Fa_14 := (F_c.other W_3 (Or.inl n12))
 have Fa_15 := (V_s.other W_3 nb1)
 have Fa_16 := (S1.wr W_3)
 have Fa_17 := (S2.wr W_3)
 have Zs_18 : n0 ≤ h_3.size := (Nat.le_trans Z0 (Keep.of_wr W_3).1)
 refine c_U1 X_10 Hq e_10 hZ hown hml (k20_35U1 hw) (rm15 hw a2 (0 : Int32) b k1 (3 : Int32) vs d1 w sfv f h_3 n0 Zs_18 Fa_12 Fa_13 Fa_14 Fa_15 Fa_16 hw0 hat hf Fa_17 hsf (by decide) (by decide)) Fa_12 d20_32 ?_ 0
 rintro T_11 L_11 _ X_11 ⟨⟨⟩, Nq_11, e_11⟩
 have N_11 := Fr.app N_3 Nq_11
 refine o_bipush X_11 Hq 32 d20_35 rfl (o_icmpYes X_11 Hq (pc' := 53) d20_37 (tlt ht0).2.2.1 (o_aloadN X_11 Hq d20_53 rfl rfl ?_))
 obtain ⟨T_19, X_19, e_19, st_19⟩ := getF X_11 hx hZ hown (host := "") (Or.inl (w_ hw 56 rfl)) Via.refl e_11 Fa_6 (g := (mkF m 54 #[rv a1] [(.ref a1)])) rfl rfl (hb hby d20_54)
 refine own_st st_19 ?_
 show own_Go _ _ _ _ (T_19.setTop (mkF m 57 #[rv a1] [(.int 3)]))
 refine o_aloadN X_19 Hq d20_57 rfl rfl ?_
 obtain ⟨T_20, X_20, e_20, st_20⟩ := getF X_19 hx hZ hown (host := "") (Or.inl (w_ hw 63 rfl)) Via.refl e_19 Fa_4 (g := (mkF m 58 #[rv a1] [(.ref a1), (.int 3)])) rfl rfl (hb hby d20_58)
 refine own_st st_20 ?_
 show own_Go _ _ _ _ (T_20.setTop (mkF m 61 #[rv a1] [(.int 0), (.int 3)]))
 refine o_icmpNo X_20 Hq d20_61 (by decide) (o_aloadN X_20 Hq d20_64 rfl rfl ?_)
 obtain ⟨T_21, X_21, e_21, st_21⟩ := getF X_20 hx hZ hown (host := "") (Or.inl (w_ hw 44 rfl)) Via.refl e_20 Fa_8 (g := (mkF m 65 #[rv a1] [(.ref a1)])) rfl rfl (hb hby d20_65)
 refine own_st st_21 ?_
 show own_Go _ _ _ _ (T_21.setTop (mkF m 68 #[rv a1] [(.ref a2)]))
 refine o_aloadN X_21 Hq d20_68 rfl rfl ?_
 obtain ⟨T_22, X_22, e_22, st_22⟩ := getF X_21 hx hZ hown (host := "") (Or.inl (w_ hw 56 rfl)) Via.refl e_21 Fa_6 (g := (mkF m 69 #[rv a1] [(.ref a1), (.ref a2)])) rfl rfl (hb hby d20_69)
 refine own_st st_22 ?_
 show own_Go _ _ _ _ (T_22.setTop (mkF m 72 #[rv a1] [(.int 3), (.ref a2)]))
 refine o_iconst X_22 Hq 1 d20_72 rfl (o_isub X_22 Hq d20_73 ?_)
 show own_Go _ _ _ _ (T_22.setTop (mkF m 74 #[rv a1] [(.int 2), (.ref a2)]))
 refine c_U1 X_22 Hq e_22 hZ hown hml (k20_35U1 hw) (rm15 hw a2 (2 : Int32) b k1 (3 : Int32) vs d1 w sfv f h_3 n0 Zs_18 Fa_12 Fa_13 Fa_14 Fa_15 Fa_16 hw0 hat hf Fa_17 hsf (by decide) (by decide)) Fa_12 d20_74 ?_ 0
 rintro T_23 L_23 _ X_23 ⟨⟨⟩, Nq_23, e_23⟩
 have N_23 := Fr.app N_11 Nq_23
 refine o_bipush X_23 Hq 32 d20_77 rfl (o_icmpYes X_23 Hq (pc' := 95) d20_79 (tlt ht2).2.2.1 ?_)
 have Kp_24 : Keep h0 h_3 [a1] := ((Keep.refl h0 [a1]).wr W_3 (Or.inl (List.mem_of_getElem? (i := 0) rfl)))
 exact e_V X_23 e_23 Hq hlk hrt d20_95 ⟨rfl, N_23, Kp_24, Fa_8, Fa_6, Fa_4⟩
def Q_rmtrim3_ttf (Z : State) (a0 : Array Value) (a1 a2 b : Addr) (k1 : ClassId) (vs : List Value) (d1 : Value) (w : Int32) (sfv : Value) (f : Int32 → Int32) (h0 : Heap) (n0 : Nat) (v : Option Value) (h : Heap) (L : List Loc) : Prop := v = none ∧ Fr n0 L ∧ Keep h0 h [a1] ∧ Fld Z h a1 "com/example/vernum/vernum/VersionScanner" "input" "Ljava/lang/String;" (.ref a2) ∧ Fld Z h a1 "com/example/vernum/vernum/VersionScanner" "end" "I" (.int (2 : Int32)) ∧ Fld Z h a1 "com/example/vernum/vernum/VersionScanner" "position" "I" (.int (0 : Int32))
theorem rmtrim3_ttf (hw : HW a0 Z) (a1 a2 b : Addr) (k1 : ClassId) (vs : List Value) (d1 : Value) (w : Int32) (sfv : Value) (f : Int32 → Int32) (h0 : Heap) (n0 : Nat) (Z0 : n0 ≤ h0.size) (E1 : Exa Z h0 a1 "com/example/vernum/vernum/VersionScanner") (g1 : n0 ≤ a1) (F1 : Fld Z h0 a1 "com/example/vernum/vernum/VersionScanner" "input" "Ljava/lang/String;" (.ref a2)) (F2 : Fld Z h0 a1 "com/example/vernum/vernum/VersionScanner" "end" "I" (.int (3 : Int32))) (F3 : Fld Z h0 a1 "com/example/vernum/vernum/VersionScanner" "position" "I" (.int (0 : Int32))) (F4 : Fld Z h0 a1 "com/example/vernum/vernum/VersionScanner" "peeked" "I" (.int (0 : Int32))) (n12 : a2 ≠ a1) (nb1 : b ≠ a1) (E_s : Exa Z h0 a2 "java/lang/String") (F_v : Fld Z h0 a2 "java/lang/String" "value" "[B" (.ref b)) (F_c : Fld Z h0 a2 "java/lang/String" "coder" "B" (.int (0 : Int32))) (V_s : Arv Z h0 b k1 .byte (3 : Int32) vs d1) (S1 : Sta Z h0 "java/lang/String" "COMPACT_STRINGS" "Z" (.int w)) (hw0 : ¬ w = (0 : Int32)) (hat : ∀ i : Int32, ¬ i < 0 → i < (3 : Int32) → vs.getD i.toNatClampNeg d1 = .int (((f i).toInt8.toInt32).toInt8.toInt32)) (hf : ∀ i : Int32, ¬ (255 : Int32) < f i ∧ ¬ f i < 0) (S2 : Sta Z h0 "jdk/internal/util/Preconditions" "SIOOBE_FORMATTER" "Ljava/util/function/BiFunction;" sfv) (hsf : sfv.isRef = true) (ht0 : (32 : Int32) < f (0 : Int32)) (ht1 : (32 : Int32) < f (1 : Int32)) (ht2 : ¬ (32 : Int32) < f (2 : Int32)) :
  own_Met l y0_ prog_24_method_4_code 1 none (R_ 4 0 0 53) #[(.ref a1)] Z h0 (Q_rmtrim3_ttf Z a0 a1 a2 b k1 vs d1 w sfv f h0 n0) := by
 refine own_bd (own := "com/example/vernum/vernum/VersionScanner") rfl (plainFor_of_name pn_9) #[rv a1] ?_
 intro p e s m below meth c s₁ hx hby Hq hml hown hnm hlk hrt hZ X0 e0
 refine o_aloadN X0 Hq d20_0 rfl rfl (o_aloadN X0 Hq d20_1 rfl rfl ?_)
 obtain ⟨T_1, X_1, e_1, st_1⟩ := getF X0 hx hZ hown (host := "") (Or.inl (w_ hw 44 rfl)) Via.refl e0 F1 (g := (mkF m 2 #[rv a1] [(.ref a1), (.ref a1)])) rfl rfl (hb hby d20_2)
 refine own_st st_1 ?_
 show own_Go _ _ _ _ (T_1.setTop (mkF m 5 #[rv a1] [(.ref a2), (.ref a1)]))
 refine c_U0 X_1 Hq e_1 hZ hown hml (k20_13U1 hw) (rmlenN hw a2 b k1 (3 : Int32) vs d1 w h0 n0 Z0 E_s F_v F_c V_s S1 hw0) E_s d20_5 ?_ 1
 rintro T_2 L_2 _ X_2 ⟨⟨⟩, Nq_2, e_2⟩
 have N_2 := Fr.app (Fr.nil n0) Nq_2
 refine o_iconst X_2 Hq 1 d20_8 rfl (o_iadd X_2 Hq d20_9 ?_)
 show own_Go _ _ _ _ (T_2.setTop (mkF m 10 #[rv a1] [(.int 4), (.ref a1)]))
 obtain ⟨T_3, h_3, X_3, e_3, W_3, st_3⟩ := putF X_2 hx hZ hown (host := "") (Or.inl (w_ hw 103 rfl)) Via.refl e_2 F4 E1 (Or.inl (w_ hw 104 rfl)) (w_ hw 38 rfl) (ty := .int) (by decide) rfl rfl (g := (mkF m 10 #[rv a1] [(.int 4), (.ref a1)])) rfl rfl (hb hby d20_10)
 refine own_st st_3 ?_
 have N_3 := Fr.snoc X_3 N_2 g1
 show own_Go _ _ _ _ (T_3.setTop (mkF m 13 #[rv a1] []))
 refine o_aloadN X_3 Hq d20_13 rfl rfl ?_
 have Fa_4 := (F3.other W_3 (Or.inr (slot_ne (Or.inl (w_ hw 64 rfl)) (Or.inl (w_ hw 104 rfl)) (by decide) (t := .int) (t' := .int) (by decide) (by decide))))
 obtain ⟨T_5, X_5, e_5, st_5⟩ := getF X_3 hx hZ hown (host := "") (Or.inl (w_ hw 63 rfl)) Via.refl e_3 Fa_4 (g := (mkF m 14 #[rv a1] [(.ref a1)])) rfl rfl (hb hby d20_14)
 refine own_st st_5 ?_
 show own_Go _ _ _ _ (T_5.setTop (mkF m 17 #[rv a1] [(.int 0)]))
 refine o_aloadN X_5 Hq d20_17 rfl rfl ?_
 have Fa_6 := (F2.other W_3 (Or.inr (slot_ne (Or.inl (w_ hw 57 rfl)) (Or.inl (w_ hw 104 rfl)) (by decide) (t := .int) (t' := .int) (by decide) (by decide))))
 obtain ⟨T_7, X_7, e_7, st_7⟩ := getF X_5 hx hZ hown (host := "") (Or.inl (w_ hw 56 rfl)) Via.refl e_5 Fa_6 (g := (mkF m 18 #[rv a1] [(.ref a1), (.int 0)])) rfl rfl (hb hby d20_18)
 refine own_st st_7 ?_
 show own_Go _ _ _ _ (T_7.setTop (mkF m 21 #[rv a1] [(.int 3), (.int 0)]))
 refine o_icmpNo X_7 Hq d20_21 (by decide) (o_aloadN X_7 Hq d20_24 rfl rfl ?_)
 have Fa_8 := (F1.other W_3 (Or.inr (slot_ne (Or.inr (w_ hw 45 rfl)) (Or.inl (w_ hw 104 rfl)) (by decide) (t := (.object "java/lang/String")) (t' := .int) (by decide) (by decide))))
 obtain ⟨T_9, X_9, e_9, st_9⟩ := getF X_7 hx hZ hown (host := "") (Or.inl (w_ hw 44 rfl)) Via.refl e_7 Fa_8 (g := (mkF m 25 #[rv a1] [(.ref a1)])) rfl rfl (hb hby d20_25)
 refine own_st st_9 ?_
 show own_Go _ _ _ _ (T_9.setTop (mkF m 28 #[rv a1] [(.ref a2)]))
 refine o_aloadN X_9 Hq d20_28 rfl rfl ?_
 obtain ⟨T_10, X_10, e_10, st_10⟩ := getF X_9 hx hZ hown (host := "") (Or.inl (w_ hw 63 rfl)) Via.refl e_9 Fa_4 (g := (mkF m 29 #[rv a1] [(.ref a1), (.ref a2)])) rfl rfl (hb hby d20_29)
 refine own_st st_10 ?_
 show own_Go _ _ _ _ (T_10.setTop (mkF m 32 #[rv a1] [(.int 0), (.ref a2)]))
 have Fa_12 := (E_s.wr W_3)
 have Fa_13 := (F_v.other W_3 (Or.inl n12))
 have Fa_14 := (F_c.other W_3 (Or.inl n12))
 have Fa_15 := (V_s.other W_3 nb1)
 have Fa_16 := (S1.wr W_3)
 have Fa_17 := (S2.wr W_3)
 have Zs_18 : n0 ≤ h_3.size := (Nat.le_trans Z0 (Keep.of_wr W_3).1)
 refine c_U1 X_10 Hq e_10 hZ hown hml (k20_35U1 hw) (rm15 hw a2 (0 : Int32) b k1 (3 : Int32) vs d1 w sfv f h_3 n0 Zs_18 Fa_12 Fa_13 Fa_14 Fa_15 Fa_16 hw0 hat hf Fa_17 hsf (by decide) (by decide)) Fa_12 d20_32 ?_ 0
 rintro T_11 L_11 _ X_11 ⟨⟨⟩, Nq_11, e_11⟩
 have N_11 := Fr.app N_3 Nq_11
 refine o_bipush X_11 Hq 32 d20_35 rfl (o_icmpYes X_11 Hq (pc' := 53) d20_37 (tlt ht0).2.2.1 (o_aloadN X_11 Hq d20_53 rfl rfl ?_))
 obtain ⟨T_19, X_19, e_19, st_19⟩ := getF X_11 hx hZ hown (host := "") (Or.inl (w_ hw 56 rfl)) Via.refl e_11 Fa_6 (g := (mkF m 54 #[rv a1] [(.ref a1)])) rfl rfl (hb hby d20_54)
 refine own_st st_19 ?_
 show own_Go _ _ _ _ (T_19.setTop (mkF m 57 #[rv a1] [(.int 3)]))
 refine o_aloadN X_19 Hq d20_57 rfl rfl ?_
 obtain ⟨T_20, X_20, e_20, st_20⟩ := getF X_19 hx hZ hown (host := "") (Or.inl (w_ hw 63 rfl)) Via.refl e_19 Fa_4 (g := (mkF m 58 #[rv a1] [(.ref a1), (.int 3)])) rfl rfl (hb hby d20_58)
 refine own_st st_20 ?_
 show own_Go _ _ _ _ (T_20.setTop (mkF m 61 #[rv a1] [(.int 0), (.int 3)]))
 refine o_icmpNo X_20 Hq d20_61 (by decide) (o_aloadN X_20 Hq d20_64 rfl rfl ?_)
 obtain ⟨T_21, X_21, e_21, st_21⟩ := getF X_20 hx hZ hown (host := "") (Or.inl (w_ hw 44 rfl)) Via.refl e_20 Fa_8 (g := (mkF m 65 #[rv a1] [(.ref a1)])) rfl rfl (hb hby d20_65)
 refine own_st st_21 ?_
 show own_Go _ _ _ _ (T_21.setTop (mkF m 68 #[rv a1] [(.ref a2)]))
 refine o_aloadN X_21 Hq d20_68 rfl rfl ?_
 obtain ⟨T_22, X_22, e_22, st_22⟩ := getF X_21 hx hZ hown (host := "") (Or.inl (w_ hw 56 rfl)) Via.refl e_21 Fa_6 (g := (mkF m 69 #[rv a1] [(.ref a1), (.ref a2)])) rfl rfl (hb hby d20_69)
 refine own_st st_22 ?_
 show own_Go _ _ _ _ (T_22.setTop (mkF m 72 #[rv a1] [(.int 3), (.ref a2)]))
 refine o_iconst X_22 Hq 1 d20_72 rfl (o_isub X_22 Hq d20_73 ?_)
 show own_Go _ _ _ _ (T_22.setTop (mkF m 74 #[rv a1] [(.int 2), (.ref a2)]))
 refine c_U1 X_22 Hq e_22 hZ hown hml (k20_35U1 hw) (rm15 hw a2 (2 : Int32) b k1 (3 : Int32) vs d1 w sfv f h_3 n0 Zs_18 Fa_12 Fa_13 Fa_14 Fa_15 Fa_16 hw0 hat hf Fa_17 hsf (by decide) (by decide)) Fa_12 d20_74 ?_ 0
 rintro T_23 L_23 _ X_23 ⟨⟨⟩, Nq_23, e_23⟩
 have N_23 := Fr.app N_11 Nq_23
 refine o_bipush X_23 Hq 32 d20_77 rfl (o_icmpNo X_23 Hq d20_79 (flt ht2).2.2.1 (o_aloadN X_23 Hq d20_82 rfl rfl (o_dup X_23 Hq d20_83 rfl ?_)))
 obtain ⟨T_24, X_24, e_24, st_24⟩ := getF X_23 hx hZ hown (host := "") (Or.inl (w_ hw 56 rfl)) Via.refl e_23 Fa_6 (g := (mkF m 84 #[rv a1] [(.ref a1), (.ref a1)])) rfl rfl (hb hby d20_84)
 refine own_st st_24 ?_
 show own_Go _ _ _ _ (T_24.setTop (mkF m 87 #[rv a1] [(.int 3), (.ref a1)]))
 refine o_iconst X_24 Hq 1 d20_87 rfl (o_isub X_24 Hq d20_88 ?_)
 show own_Go _ _ _ _ (T_24.setTop (mkF m 89 #[rv a1] [(.int 2), (.ref a1)]))
 have Fa_25 := (E1.wr W_3)
 obtain ⟨T_26, h_26, X_26, e_26, W_26, st_26⟩ := putF X_24 hx hZ hown (host := "") (Or.inl (w_ hw 56 rfl)) Via.refl e_24 Fa_6 Fa_25 (Or.inl (w_ hw 57 rfl)) (w_ hw 38 rfl) (ty := .int) (by decide) rfl rfl (g := (mkF m 89 #[rv a1] [(.int 2), (.ref a1)])) rfl rfl (hb hby d20_89)
 refine own_st st_26 ?_
 have N_26 := Fr.snoc X_26 N_23 g1
 show own_Go _ _ _ _ (T_26.setTop (mkF m 92 #[rv a1] []))
 refine o_goto X_26 Hq (pc' := 53) d20_92 (o_aloadN X_26 Hq d20_53 rfl rfl ?_)
 have Fa_27 := (Fa_6.same W_26)
 obtain ⟨T_28, X_28, e_28, st_28⟩ := getF X_26 hx hZ hown (host := "") (Or.inl (w_ hw 56 rfl)) Via.refl e_26 Fa_27 (g := (mkF m 54 #[rv a1] [(.ref a1)])) rfl rfl (hb hby d20_54)
 refine own_st st_28 ?_
 show own_Go _ _ _ _ (T_28.setTop (mkF m 57 #[rv a1] [(.int 2)]))
 refine o_aloadN X_28 Hq d20_57 rfl rfl ?_
 have Fa_29 := (Fa_4.other W_26 (Or.inr (slot_ne (Or.inl (w_ hw 64 rfl)) (Or.inl (w_ hw 57 rfl)) (by decide) (t := .int) (t' := .int) (by decide) (by decide))))
 obtain ⟨T_30, X_30, e_30, st_30⟩ := getF X_28 hx hZ hown (host := "") (Or.inl (w_ hw 63 rfl)) Via.refl e_28 Fa_29 (g := (mkF m 58 #[rv a1] [(.ref a1), (.int 2)])) rfl rfl (hb hby d20_58)
 refine own_st st_30 ?_
 show own_Go _ _ _ _ (T_30.setTop (mkF m 61 #[rv a1] [(.int 0), (.int 2)]))
 refine o_icmpNo X_30 Hq d20_61 (by decide) (o_aloadN X_30 Hq d20_64 rfl rfl ?_)
 have Fa_31 := (Fa_8.other W_26 (Or.inr (slot_ne (Or.inr (w_ hw 45 rfl)) (Or.inl (w_ hw 57 rfl)) (by decide) (t := (.object "java/lang/String")) (t' := .int) (by decide) (by decide))))
 obtain ⟨T_32, X_32, e_32, st_32⟩ := getF X_30 hx hZ hown (host := "") (Or.inl (w_ hw 44 rfl)) Via.refl e_30 Fa_31 (g := (mkF m 65 #[rv a1] [(.ref a1)])) rfl rfl (hb hby d20_65)
 refine own_st st_32 ?_
 show own_Go _ _ _ _ (T_32.setTop (mkF m 68 #[rv a1] [(.ref a2)]))
 refine o_aloadN X_32 Hq d20_68 rfl rfl ?_
 obtain ⟨T_33, X_33, e_33, st_33⟩ := getF X_32 hx hZ hown (host := "") (Or.inl (w_ hw 56 rfl)) Via.refl e_32 Fa_27 (g := (mkF m 69 #[rv a1] [(.ref a1), (.ref a2)])) rfl rfl (hb hby d20_69)
 refine own_st st_33 ?_
 show own_Go _ _ _ _ (T_33.setTop (mkF m 72 #[rv a1] [(.int 2), (.ref a2)]))
 refine o_iconst X_33 Hq 1 d20_72 rfl (o_isub X_33 Hq d20_73 ?_)
 show own_Go _ _ _ _ (T_33.setTop (mkF m 74 #[rv a1] [(.int 1), (.ref a2)]))
 have Fa_35 := (Fa_12.wr W_26)
 have Fa_36 := (Fa_13.other W_26 (Or.inl n12))
 have Fa_37 := (Fa_14.other W_26 (Or.inl n12))
 have Fa_38 := (Fa_15.other W_26 nb1)
 have Fa_39 := (Fa_16.wr W_26)
 have Fa_40 := (Fa_17.wr W_26)
 have Zs_41 : n0 ≤ h_26.size := (Nat.le_trans Zs_18 (Keep.of_wr W_26).1)
 refine c_U1 X_33 Hq e_33 hZ hown hml (k20_35U1 hw) (rm15 hw a2 (1 : Int32) b k1 (3 : Int32) vs d1 w sfv f h_26 n0 Zs_41 Fa_35 Fa_36 Fa_37 Fa_38 Fa_39 hw0 hat hf Fa_40 hsf (by decide) (by decide)) Fa_35 d20_74 ?_ 0
 rintro T_34 L_34 _ X_34 ⟨⟨⟩, Nq_34, e_34⟩
 have N_34 := Fr.app N_26 Nq_34
 refine o_bipush X_34 Hq 32 d20_77 rfl (o_icmpYes X_34 Hq (pc' := 95) d20_79 (tlt ht1).2.2.1 ?_)
 have Kp_42 : Keep h0 h_26 [a1] := (((Keep.refl h0 [a1]).wr W_3 (Or.inl (List.mem_of_getElem? (i := 0) rfl))).wr W_26 (Or.inl (List.mem_of_getElem? (i := 0) rfl)))
 exact e_V X_34 e_34 Hq hlk hrt d20_95 ⟨rfl, N_34, Kp_42, Fa_31, Fa_27, Fa_29⟩
def Q_rmtrim3_tft (Z : State) (a0 : Array Value) (a1 a2 b : Addr) (k1 : ClassId) (vs : List Value) (d1 : Value) (w : Int32) (sfv : Value) (f : Int32 → Int32) (h0 : Heap) (n0 : Nat) (v : Option Value) (h : Heap) (L : List Loc) : Prop := v = none ∧ Fr n0 L ∧ Keep h0 h [a1] ∧ Fld Z h a1 "com/example/vernum/vernum/VersionScanner" "input" "Ljava/lang/String;" (.ref a2) ∧ Fld Z h a1 "com/example/vernum/vernum/VersionScanner" "end" "I" (.int (3 : Int32)) ∧ Fld Z h a1 "com/example/vernum/vernum/VersionScanner" "position" "I" (.int (0 : Int32))
theorem rmtrim3_tft (hw : HW a0 Z) (a1 a2 b : Addr) (k1 : ClassId) (vs : List Value) (d1 : Value) (w : Int32) (sfv : Value) (f : Int32 → Int32) (h0 : Heap) (n0 : Nat) (Z0 : n0 ≤ h0.size) (E1 : Exa Z h0 a1 "com/example/vernum/vernum/VersionScanner") (g1 : n0 ≤ a1) (F1 : Fld Z h0 a1 "com/example/vernum/vernum/VersionScanner" "input" "Ljava/lang/String;" (.ref a2)) (F2 : Fld Z h0 a1 "com/example/vernum/vernum/VersionScanner" "end" "I" (.int (3 : Int32))) (F3 : Fld Z h0 a1 "com/example/vernum/vernum/VersionScanner" "position" "I" (.int (0 : Int32))) (F4 : Fld Z h0 a1 "com/example/vernum/vernum/VersionScanner" "peeked" "I" (.int (0 : Int32))) (n12 : a2 ≠ a1) (nb1 : b ≠ a1) (E_s : Exa Z h0 a2 "java/lang/String") (F_v : Fld Z h0 a2 "java/lang/String" "value" "[B" (.ref b)) (F_c : Fld Z h0 a2 "java/lang/String" "coder" "B" (.int (0 : Int32))) (V_s : Arv Z h0 b k1 .byte (3 : Int32) vs d1) (S1 : Sta Z h0 "java/lang/String" "COMPACT_STRINGS" "Z" (.int w)) (hw0 : ¬ w = (0 : Int32)) (hat : ∀ i : Int32, ¬ i < 0 → i < (3 : Int32) → vs.getD i.toNatClampNeg d1 = .int (((f i).toInt8.toInt32).toInt8.toInt32)) (hf : ∀ i : Int32, ¬ (255 : Int32) < f i ∧ ¬ f i < 0) (S2 : Sta Z h0 "jdk/internal/util/Preconditions" "SIOOBE_FORMATTER" "Ljava/util/function/BiFunction;" sfv) (hsf : sfv.isRef = true) (ht0 : (32 : Int32) < f (0 : Int32)) (ht1 : ¬ (32 : Int32) < f (1 : Int32)) (ht2 : (32 : Int32) < f (2 : Int32)) :
  own_Met l y0_ prog_24_method_4_code 1 none (R_ 4 0 0 53) #[(.ref a1)] Z h0 (Q_rmtrim3_tft Z a0 a1 a2 b k1 vs d1 w sfv f h0 n0) := by
 refine own_bd (own := "com/example/vernum/vernum/VersionScanner") rfl (plainFor_of_name pn_9) #[rv a1] ?_
 intro p e s m below meth c s₁ hx hby Hq hml hown hnm hlk hrt hZ X0 e0
 refine o_aloadN X0 Hq d20_0 rfl rfl (o_aloadN X0 Hq d20_1 rfl rfl ?_)
 obtain ⟨T_1, X_1, e_1, st_1⟩ := getF X0 hx hZ hown (host := "") (Or.inl (w_ hw 44 rfl)) Via.refl e0 F1 (g := (mkF m 2 #[rv a1] [(.ref a1), (.ref a1)])) rfl rfl (hb hby d20_2)
 refine own_st st_1 ?_
 show own_Go _ _ _ _ (T_1.setTop (mkF m 5 #[rv a1] [(.ref a2), (.ref a1)]))
 refine c_U0 X_1 Hq e_1 hZ hown hml (k20_13U1 hw) (rmlenN hw a2 b k1 (3 : Int32) vs d1 w h0 n0 Z0 E_s F_v F_c V_s S1 hw0) E_s d20_5 ?_ 1
 rintro T_2 L_2 _ X_2 ⟨⟨⟩, Nq_2, e_2⟩
 have N_2 := Fr.app (Fr.nil n0) Nq_2
 refine o_iconst X_2 Hq 1 d20_8 rfl (o_iadd X_2 Hq d20_9 ?_)
 show own_Go _ _ _ _ (T_2.setTop (mkF m 10 #[rv a1] [(.int 4), (.ref a1)]))
 obtain ⟨T_3, h_3, X_3, e_3, W_3, st_3⟩ := putF X_2 hx hZ hown (host := "") (Or.inl (w_ hw 103 rfl)) Via.refl e_2 F4 E1 (Or.inl (w_ hw 104 rfl)) (w_ hw 38 rfl) (ty := .int) (by decide) rfl rfl (g := (mkF m 10 #[rv a1] [(.int 4), (.ref a1)])) rfl rfl (hb hby d20_10)
 refine own_st st_3 ?_
 have N_3 := Fr.snoc X_3 N_2 g1
 show own_Go _ _ _ _ (T_3.setTop (mkF m 13 #[rv a1] []))
 refine o_aloadN X_3 Hq d20_13 rfl rfl ?_
 have Fa_4 := (F3.other W_3 (Or.inr (slot_ne (Or.inl (w_ hw 64 rfl)) (Or.inl (w_ hw 104 rfl)) (by decide) (t := .int) (t' := .int) (by decide) (by decide))))
 obtain ⟨T_5, X_5, e_5, st_5⟩ := getF X_3 hx hZ hown (host := "") (Or.inl (w_ hw 63 rfl)) Via.refl e_3 Fa_4 (g := (mkF m 14 #[rv a1] [(.ref a1)])) rfl rfl (hb hby d20_14)
 refine own_st st_5 ?_
 show own_Go _ _ _ _ (T_5.setTop (mkF m 17 #[rv a1] [(.int 0)]))
 refine o_aloadN X_5 Hq d20_17 rfl rfl ?_
 have Fa_6 := (F2.other W_3 (Or.inr (slot_ne (Or.inl (w_ hw 57 rfl)) (Or.inl (w_ hw 104 rfl)) (by decide) (t := .int) (t' := .int) (by decide) (by decide))))
 obtain ⟨T_7, X_7, e_7, st_7⟩ := getF X_5 hx hZ hown (host := "") (Or.inl (w_ hw 56 rfl)) Via.refl e_5 Fa_6 (g := (mkF m 18 #[rv a1] [(.ref a1), (.int 0)])) rfl rfl (hb hby d20_18)
 refine own_st st_7 ?_
 show own_Go _ _ _ _ (T_7.setTop (mkF m 21 #[rv a1] [(.int 3), (.int 0)]))
 refine o_icmpNo X_7 Hq d20_21 (by decide) (o_aloadN X_7 Hq d20_24 rfl rfl ?_)
 have Fa_8 := (F1.other W_3 (Or.inr (slot_ne (Or.inr (w_ hw 45 rfl)) (Or.inl (w_ hw 104 rfl)) (by decide) (t := (.object "java/lang/String")) (t' := .int) (by decide) (by decide))))
 obtain ⟨T_9, X_9, e_9, st_9⟩ := getF X_7 hx hZ hown (host := "") (Or.inl (w_ hw 44 rfl)) Via.refl e_7 Fa_8 (g := (mkF m 25 #[rv a1] [(.ref a1)])) rfl rfl (hb hby d20_25)
 refine own_st st_9 ?_
 show own_Go _ _ _ _ (T_9.setTop (mkF m 28 #[rv a1] [(.ref a2)]))
 refine o_aloadN X_9 Hq d20_28 rfl rfl ?_
 obtain ⟨T_10, X_10, e_10, st_10⟩ := getF X_9 hx hZ hown (host := "") (Or.inl (w_ hw 63 rfl)) Via.refl e_9 Fa_4 (g := (mkF m 29 #[rv a1] [(.ref a1), (.ref a2)])) rfl rfl (hb hby d20_29)
 refine own_st st_10 ?_
 show own_Go _ _ _ _ (T_10.setTop (mkF m 32 #[rv a1] [(.int 0), (.ref a2)]))
 have Fa_12 := (E_s.wr W_3)
 have Fa_13 := (F_v.other W_3 (Or.inl n12))
 have Fa_14 := (F_c.other W_3 (Or.inl n12))
 have Fa_15 := (V_s.other W_3 nb1)
 have Fa_16 := (S1.wr W_3)
 have Fa_17 := (S2.wr W_3)
 have Zs_18 : n0 ≤ h_3.size := (Nat.le_trans Z0 (Keep.of_wr W_3).1)
 refine c_U1 X_10 Hq e_10 hZ hown hml (k20_35U1 hw) (rm15 hw a2 (0 : Int32) b k1 (3 : Int32) vs d1 w sfv f h_3 n0 Zs_18 Fa_12 Fa_13 Fa_14 Fa_15 Fa_16 hw0 hat hf Fa_17 hsf (by decide) (by decide)) Fa_12 d20_32 ?_ 0
 rintro T_11 L_11 _ X_11 ⟨⟨⟩, Nq_11, e_11⟩
 have N_11 := Fr.app N_3 Nq_11
 refine o_bipush X_11 Hq 32 d20_35 rfl (o_icmpYes X_11 Hq (pc' := 53) d20_37 (tlt ht0).2.2.1 (o_aloadN X_11 Hq d20_53 rfl rfl ?_))
 obtain ⟨T_19, X_19, e_19, st_19⟩ := getF X_11 hx hZ hown (host := "") (Or.inl (w_ hw 56 rfl)) Via.refl e_11 Fa_6 (g := (mkF m 54 #[rv a1] [(.ref a1)])) rfl rfl (hb hby d20_54)
 refine own_st st_19 ?_
 show own_Go _ _ _ _ (T_19.setTop (mkF m 57 #[rv a1] [(.int 3)]))
 refine o_aloadN X_19 Hq d20_57 rfl rfl ?_
 obtain ⟨T_20, X_20, e_20, st_20⟩ := getF X_19 hx hZ hown (host := "") (Or.inl (w_ hw 63 rfl)) Via.refl e_19 Fa_4 (g := (mkF m 58 #[rv a1] [(.ref a1), (.int 3)])) rfl rfl (hb hby d20_58)
 refine own_st st_20 ?_
 show own_Go _ _ _ _ (T_20.setTop (mkF m 61 #[rv a1] [(.int 0), (.int 3)]))
 refine o_icmpNo X_20 Hq d20_61 (by decide) (o_aloadN X_20 Hq d20_64 rfl rfl ?_)
 obtain ⟨T_21, X_21, e_21, st_21⟩ := getF X_20 hx hZ hown (host := "") (Or.inl (w_ hw 44 rfl)) Via.refl e_20 Fa_8 (g := (mkF m 65 #[rv a1] [(.ref a1)])) rfl rfl (hb hby d20_65)
 refine own_st st_21 ?_
 show own_Go _ _ _ _ (T_21.setTop (mkF m 68 #[rv a1] [(.ref a2)]))
 refine o_aloadN X_21 Hq d20_68 rfl rfl ?_
 obtain ⟨T_22, X_22, e_22, st_22⟩ := getF X_21 hx hZ hown (host := "") (Or.inl (w_ hw 56 rfl)) Via.refl e_21 Fa_6 (g := (mkF m 69 #[rv a1] [(.ref a1), (.ref a2)])) rfl rfl (hb hby d20_69)
 refine own_st st_22 ?_
 show own_Go _ _ _ _ (T_22.setTop (mkF m 72 #[rv a1] [(.int 3), (.ref a2)]))
 refine o_iconst X_22 Hq 1 d20_72 rfl (o_isub X_22 Hq d20_73 ?_)
 show own_Go _ _ _ _ (T_22.setTop (mkF m 74 #[rv a1] [(.int 2), (.ref a2)]))
 refine c_U1 X_22 Hq e_22 hZ hown hml (k20_35U1 hw) (rm15 hw a2 (2 : Int32) b k1 (3 : Int32) vs d1 w sfv f h_3 n0 Zs_18 Fa_12 Fa_13 Fa_14 Fa_15 Fa_16 hw0 hat hf Fa_17 hsf (by decide) (by decide)) Fa_12 d20_74 ?_ 0
 rintro T_23 L_23 _ X_23 ⟨⟨⟩, Nq_23, e_23⟩
 have N_23 := Fr.app N_11 Nq_23
 refine o_bipush X_23 Hq 32 d20_77 rfl (o_icmpYes X_23 Hq (pc' := 95) d20_79 (tlt ht2).2.2.1 ?_)
 have Kp_24 : Keep h0 h_3 [a1] := ((Keep.refl h0 [a1]).wr W_3 (Or.inl (List.mem_of_getElem? (i := 0) rfl)))
 exact e_V X_23 e_23 Hq hlk hrt d20_95 ⟨rfl, N_23, Kp_24, Fa_8, Fa_6, Fa_4⟩
def Q_rmtrim3_tff (Z : State) (a0 : Array Value) (a1 a2 b : Addr) (k1 : ClassId) (vs : List Value) (d1 : Value) (w : Int32) (sfv : Value) (f : Int32 → Int32) (h0 : Heap) (n0 : Nat) (v : Option Value) (h : Heap) (L : List Loc) : Prop := v = none ∧ Fr n0 L ∧ Keep h0 h [a1] ∧ Fld Z h a1 "com/example/vernum/vernum/VersionScanner" "input" "Ljava/lang/String;" (.ref a2) ∧ Fld Z h a1 "com/example/vernum/vernum/VersionScanner" "end" "I" (.int (1 : Int32)) ∧ Fld Z h a1 "com/example/vernum/vernum/VersionScanner" "position" "I" (.int (0 : Int32))
theorem rmtrim3_tff (hw : HW a0 Z) (a1 a2 b : Addr) (k1 : ClassId) (vs : List Value) (d1 : Value) (w : Int32) (sfv : Value) (f : Int32 → Int32) (h0 : Heap) (n0 : Nat) (Z0 : n0 ≤ h0.size) (E1 : Exa Z h0 a1 "com/example/vernum/vernum/VersionScanner") (g1 : n0 ≤ a1) (F1 : Fld Z h0 a1 "com/example/vernum/vernum/VersionScanner" "input" "Ljava/lang/String;" (.ref a2)) (F2 : Fld Z h0 a1 "com/example/vernum/vernum/VersionScanner" "end" "I" (.int (3 : Int32))) (F3 : Fld Z h0 a1 "com/example/vernum/vernum/VersionScanner" "position" "I" (.int (0 : Int32))) (F4 : Fld Z h0 a1 "com/example/vernum/vernum/VersionScanner" "peeked" "I" (.int (0 : Int32))) (n12 : a2 ≠ a1) (nb1 : b ≠ a1) (E_s : Exa Z h0 a2 "java/lang/String") (F_v : Fld Z h0 a2 "java/lang/String" "value" "[B" (.ref b)) (F_c : Fld Z h0 a2 "java/lang/String" "coder" "B" (.int (0 : Int32))) (V_s : Arv Z h0 b k1 .byte (3 : Int32) vs d1) (S1 : Sta Z h0 "java/lang/String" "COMPACT_STRINGS" "Z" (.int w)) (hw0 : ¬ w = (0 : Int32)) (hat : ∀ i : Int32, ¬ i < 0 → i < (3 : Int32) → vs.getD i.toNatClampNeg d1 = .int (((f i).toInt8.toInt32).toInt8.toInt32)) (hf : ∀ i : Int32, ¬ (255 : Int32) < f i ∧ ¬ f i < 0) (S2 : Sta Z h0 "jdk/internal/util/Preconditions" "SIOOBE_FORMATTER" "Ljava/util/function/BiFunction;" sfv) (hsf : sfv.isRef = true) (ht0 : (32 : Int32) < f (0 : Int32)) (ht1 : ¬ (32 : Int32) < f (1 : Int32)) (ht2 : ¬ (32 : Int32) < f (2 : Int32)) :
  own_Met l y0_ prog_24_method_4_code 1 none (R_ 4 0 0 53) #[(.ref a1)] Z h0 (Q_rmtrim3_tff Z a0 a1 a2 b k1 vs d1 w sfv f h0 n0) := by
 refine own_bd (own := "com/example/vernum/vernum/VersionScanner") rfl (plainFor_of_name pn_9) #[rv a1] ?_
 intro p e s m below meth c s₁ hx hby Hq hml hown hnm hlk hrt hZ X0 e0
 refine o_aloadN X0 Hq d20_0 rfl rfl (o_aloadN X0 Hq d20_1 rfl rfl ?_)
 obtain ⟨T_1, X_1, e_1, st_1⟩ := getF X0 hx hZ hown (host := "") (Or.inl (w_ hw 44 rfl)) Via.refl e0 F1 (g := (mkF m 2 #[rv a1] [(.ref a1), (.ref a1)])) rfl rfl (hb hby d20_2)
 refine own_st st_1 ?_
 show own_Go _ _ _ _ (T_1.setTop (mkF m 5 #[rv a1] [(.ref a2), (.ref a1)]))
 refine c_U0 X_1 Hq e_1 hZ hown hml (k20_13U1 hw) (rmlenN hw a2 b k1 (3 : Int32) vs d1 w h0 n0 Z0 E_s F_v F_c V_s S1 hw0) E_s d20_5 ?_ 1
 rintro T_2 L_2 _ X_2 ⟨⟨⟩, Nq_2, e_2⟩
 have N_2 := Fr.app (Fr.nil n0) Nq_2
 refine o_iconst X_2 Hq 1 d20_8 rfl (o_iadd X_2 Hq d20_9 ?_)
 show own_Go _ _ _ _ (T_2.setTop (mkF m 10 #[rv a1] [(.int 4), (.ref a1)]))
 obtain ⟨T_3, h_3, X_3, e_3, W_3, st_3⟩ := putF X_2 hx hZ hown (host := "") (Or.inl (w_ hw 103 rfl)) Via.refl e_2 F4 E1 (Or.inl (w_ hw 104 rfl)) (w_ hw 38 rfl) (ty := .int) (by decide) rfl rfl (g := (mkF m 10 #[rv a1] [(.int 4), (.ref a1)])) rfl rfl (hb hby d20_10)
 refine own_st st_3 ?_
 have N_3 := Fr.snoc X_3 N_2 g1
 show own_Go _ _ _ _ (T_3.setTop (mkF m 13 #[rv a1] []))
 refine o_aloadN X_3 Hq d20_13 rfl rfl ?_
 have Fa_4 := (F3.other W_3 (Or.inr (slot_ne (Or.inl (w_ hw 64 rfl)) (Or.inl (w_ hw 104 rfl)) (by decide) (t := .int) (t' := .int) (by decide) (by decide))))
 obtain ⟨T_5, X_5, e_5, st_5⟩ := getF X_3 hx hZ hown (host := "") (Or.inl (w_ hw 63 rfl)) Via.refl e_3 Fa_4 (g := (mkF m 14 #[rv a1] [(.ref a1)])) rfl rfl (hb hby d20_14)
 refine own_st st_5 ?_
 show own_Go _ _ _ _ (T_5.setTop (mkF m 17 #[rv a1] [(.int 0)]))
 refine o_aloadN X_5 Hq d20_17 rfl rfl ?_
 have Fa_6 := (F2.other W_3 (Or.inr (slot_ne (Or.inl (w_ hw 57 rfl)) (Or.inl (w_ hw 104 rfl)) (by decide) (t := .int) (t' := .int) (by decide) (by decide))))
 obtain ⟨T_7, X_7, e_7, st_7⟩ := getF X_5 hx hZ hown (host := "") (Or.inl (w_ hw 56 rfl)) Via.refl e_5 Fa_6 (g := (mkF m 18 #[rv a1] [(.ref a1), (.int 0)])) rfl rfl (hb hby d20_18)
 refine own_st st_7 ?_
 show own_Go _ _ _ _ (T_7.setTop (mkF m 21 #[rv a1] [(.int 3), (.int 0)]))
 refine o_icmpNo X_7 Hq d20_21 (by decide) (o_aloadN X_7 Hq d20_24 rfl rfl ?_)
 have Fa_8 := (F1.other W_3 (Or.inr (slot_ne (Or.inr (w_ hw 45 rfl)) (Or.inl (w_ hw 104 rfl)) (by decide) (t := (.object "java/lang/String")) (t' := .int) (by decide) (by decide))))
 obtain ⟨T_9, X_9, e_9, st_9⟩ := getF X_7 hx hZ hown (host := "") (Or.inl (w_ hw 44 rfl)) Via.refl e_7 Fa_8 (g := (mkF m 25 #[rv a1] [(.ref a1)])) rfl rfl (hb hby d20_25)
 refine own_st st_9 ?_
 show own_Go _ _ _ _ (T_9.setTop (mkF m 28 #[rv a1] [(.ref a2)]))
 refine o_aloadN X_9 Hq d20_28 rfl rfl ?_
 obtain ⟨T_10, X_10, e_10, st_10⟩ := getF X_9 hx hZ hown (host := "") (Or.inl (w_ hw 63 rfl)) Via.refl e_9 Fa_4 (g := (mkF m 29 #[rv a1] [(.ref a1), (.ref a2)])) rfl rfl (hb hby d20_29)
 refine own_st st_10 ?_
 show own_Go _ _ _ _ (T_10.setTop (mkF m 32 #[rv a1] [(.int 0), (.ref a2)]))
 have Fa_12 := (E_s.wr W_3)
 have Fa_13 := (F_v.other W_3 (Or.inl n12))
 have Fa_14 := (F_c.other W_3 (Or.inl n12))
 have Fa_15 := (V_s.other W_3 nb1)
 have Fa_16 := (S1.wr W_3)
 have Fa_17 := (S2.wr W_3)
 have Zs_18 : n0 ≤ h_3.size := (Nat.le_trans Z0 (Keep.of_wr W_3).1)
 refine c_U1 X_10 Hq e_10 hZ hown hml (k20_35U1 hw) (rm15 hw a2 (0 : Int32) b k1 (3 : Int32) vs d1 w sfv f h_3 n0 Zs_18 Fa_12 Fa_13 Fa_14 Fa_15 Fa_16 hw0 hat hf Fa_17 hsf (by decide) (by decide)) Fa_12 d20_32 ?_ 0
 rintro T_11 L_11 _ X_11 ⟨⟨⟩, Nq_11, e_11⟩
 have N_11 := Fr.app N_3 Nq_11
 refine o_bipush X_11 Hq 32 d20_35 rfl (o_icmpYes X_11 Hq (pc' := 53) d20_37 (tlt ht0).2.2.1 (o_aloadN X_11 Hq d20_53 rfl rfl ?_))
 obtain ⟨T_19, X_19, e_19, st_19⟩ := getF X_11 hx hZ hown (host := "") (Or.inl (w_ hw 56 rfl)) Via.refl e_11 Fa_6 (g := (mkF m 54 #[rv a1] [(.ref a1)])) rfl rfl (hb hby d20_54)
 refine own_st st_19 ?_
 show own_Go _ _ _ _ (T_19.setTop (mkF m 57 #[rv a1] [(.int 3)]))
 refine o_aloadN X_19 Hq d20_57 rfl rfl ?_
 obtain ⟨T_20, X_20, e_20, st_20⟩ := getF X_19 hx hZ hown (host := "") (Or.inl (w_ hw 63 rfl)) Via.refl e_19 Fa_4 (g := (mkF m 58 #[rv a1] [(.ref a1), (.int 3)])) rfl rfl (hb hby d20_58)
 refine own_st st_20 ?_
 show own_Go _ _ _ _ (T_20.setTop (mkF m 61 #[rv a1] [(.int 0), (.int 3)]))
 refine o_icmpNo X_20 Hq d20_61 (by decide) (o_aloadN X_20 Hq d20_64 rfl rfl ?_)
 obtain ⟨T_21, X_21, e_21, st_21⟩ := getF X_20 hx hZ hown (host := "") (Or.inl (w_ hw 44 rfl)) Via.refl e_20 Fa_8 (g := (mkF m 65 #[rv a1] [(.ref a1)])) rfl rfl (hb hby d20_65)
 refine own_st st_21 ?_
 show own_Go _ _ _ _ (T_21.setTop (mkF m 68 #[rv a1] [(.ref a2)]))
 refine o_aloadN X_21 Hq d20_68 rfl rfl ?_
 obtain ⟨T_22, X_22, e_22, st_22⟩ := getF X_21 hx hZ hown (host := "") (Or.inl (w_ hw 56 rfl)) Via.refl e_21 Fa_6 (g := (mkF m 69 #[rv a1] [(.ref a1), (.ref a2)])) rfl rfl (hb hby d20_69)
 refine own_st st_22 ?_
 show own_Go _ _ _ _ (T_22.setTop (mkF m 72 #[rv a1] [(.int 3), (.ref a2)]))
 refine o_iconst X_22 Hq 1 d20_72 rfl (o_isub X_22 Hq d20_73 ?_)
 show own_Go _ _ _ _ (T_22.setTop (mkF m 74 #[rv a1] [(.int 2), (.ref a2)]))
 refine c_U1 X_22 Hq e_22 hZ hown hml (k20_35U1 hw) (rm15 hw a2 (2 : Int32) b k1 (3 : Int32) vs d1 w sfv f h_3 n0 Zs_18 Fa_12 Fa_13 Fa_14 Fa_15 Fa_16 hw0 hat hf Fa_17 hsf (by decide) (by decide)) Fa_12 d20_74 ?_ 0
 rintro T_23 L_23 _ X_23 ⟨⟨⟩, Nq_23, e_23⟩
 have N_23 := Fr.app N_11 Nq_23
 refine o_bipush X_23 Hq 32 d20_77 rfl (o_icmpNo X_23 Hq d20_79 (flt ht2).2.2.1 (o_aloadN X_23 Hq d20_82 rfl rfl (o_dup X_23 Hq d20_83 rfl ?_)))
 obtain ⟨T_24, X_24, e_24, st_24⟩ := getF X_23 hx hZ hown (host := "") (Or.inl (w_ hw 56 rfl)) Via.refl e_23 Fa_6 (g := (mkF m 84 #[rv a1] [(.ref a1), (.ref a1)])) rfl rfl (hb hby d20_84)
 refine own_st st_24 ?_
 show own_Go _ _ _ _ (T_24.setTop (mkF m 87 #[rv a1] [(.int 3), (.ref a1)]))
 refine o_iconst X_24 Hq 1 d20_87 rfl (o_isub X_24 Hq d20_88 ?_)
 show own_Go _ _ _ _ (T_24.setTop (mkF m 89 #[rv a1] [(.int 2), (.ref a1)]))
 have Fa_25 := (E1.wr W_3)
 obtain ⟨T_26, h_26, X_26, e_26, W_26, st_26⟩ := putF X_24 hx hZ hown (host := "") (Or.inl (w_ hw 56 rfl)) Via.refl e_24 Fa_6 Fa_25 (Or.inl (w_ hw 57 rfl)) (w_ hw 38 rfl) (ty := .int) (by decide) rfl rfl (g := (mkF m 89 #[rv a1] [(.int 2), (.ref a1)])) rfl rfl (hb hby d20_89)
 refine own_st st_26 ?_
 have N_26 := Fr.snoc X_26 N_23 g1
 show own_Go _ _ _ _ (T_26.setTop (mkF m 92 #[rv a1] []))
 refine o_goto X_26 Hq (pc' := 53) d20_92 (o_aloadN X_26 Hq d20_53 rfl rfl ?_)
 have Fa_27 := (Fa_6.same W_26)
 obtain ⟨T_28, X_28, e_28, st_28⟩ := getF X_26 hx hZ hown (host := "") (Or.inl (w_ hw 56 rfl)) Via.refl e_26 Fa_27 (g := (mkF m 54 #[rv a1] [(.ref a1)])) rfl rfl (hb hby d20_54)
 refine own_st st_28 ?_
 show own_Go _ _ _ _ (T_28.setTop (mkF m 57 #[rv a1] [(.int 2)]))
 refine o_aloadN X_28 Hq d20_57 rfl rfl ?_
 have Fa_29 := (Fa_4.other W_26 (Or.inr (slot_ne (Or.inl (w_ hw 64 rfl)) (Or.inl (w_ hw 57 rfl)) (by decide) (t := .int) (t' := .int) (by decide) (by decide))))
 obtain ⟨T_30, X_30, e_30, st_30⟩ := getF X_28 hx hZ hown (host := "") (Or.inl (w_ hw 63 rfl)) Via.refl e_28 Fa_29 (g := (mkF m 58 #[rv a1] [(.ref a1), (.int 2)])) rfl rfl (hb hby d20_58)
 refine own_st st_30 ?_
 show own_Go _ _ _ _ (T_30.setTop (mkF m 61 #[rv a1] [(.int 0), (.int 2)]))
 refine o_icmpNo X_30 Hq d20_61 (by decide) (o_aloadN X_30 Hq d20_64 rfl rfl ?_)
 have Fa_31 := (Fa_8.other W_26 (Or.inr (slot_ne (Or.inr (w_ hw 45 rfl)) (Or.inl (w_ hw 57 rfl)) (by decide) (t := (.object "java/lang/String")) (t' := .int) (by decide) (by decide))))
 obtain ⟨T_32, X_32, e_32, st_32⟩ := getF X_30 hx hZ hown (host := "") (Or.inl (w_ hw 44 rfl)) Via.refl e_30 Fa_31 (g := (mkF m 65 #[rv a1] [(.ref a1)])) rfl rfl (hb hby d20_65)
 refine own_st st_32 ?_
 show own_Go _ _ _ _ (T_32.setTop (mkF m 68 #[rv a1] [(.ref a2)]))
 refine o_aloadN X_32 Hq d20_68 rfl rfl ?_
 obtain ⟨T_33, X_33, e_33, st_33⟩ := getF X_32 hx hZ hown (host := "") (Or.inl (w_ hw 56 rfl)) Via.refl e_32 Fa_27 (g := (mkF m 69 #[rv a1] [(.ref a1), (.ref a2)])) rfl rfl (hb hby d20_69)
 refine own_st st_33 ?_
 show own_Go _ _ _ _ (T_33.setTop (mkF m 72 #[rv a1] [(.int 2), (.ref a2)]))
 refine o_iconst X_33 Hq 1 d20_72 rfl (o_isub X_33 Hq d20_73 ?_)
 show own_Go _ _ _ _ (T_33.setTop (mkF m 74 #[rv a1] [(.int 1), (.ref a2)]))
 have Fa_35 := (Fa_12.wr W_26)
 have Fa_36 := (Fa_13.other W_26 (Or.inl n12))
 have Fa_37 := (Fa_14.other W_26 (Or.inl n12))
 have Fa_38 := (Fa_15.other W_26 nb1)
 have Fa_39 := (Fa_16.wr W_26)
 have Fa_40 := (Fa_17.wr W_26)
 have Zs_41 : n0 ≤ h_26.size := (Nat.le_trans Zs_18 (Keep.of_wr W_26).1)
 refine c_U1 X_33 Hq e_33 hZ hown hml (k20_35U1 hw) (rm15 hw a2 (1 : Int32) b k1 (3 : Int32) vs d1 w sfv f h_26 n0 Zs_41 Fa_35 Fa_36 Fa_37 Fa_38 Fa_39 hw0 hat hf Fa_40 hsf (by decide) (by decide)) Fa_35 d20_74 ?_ 0
 rintro T_34 L_34 _ X_34 ⟨⟨⟩, Nq_34, e_34⟩
 have N_34 := Fr.app N_26 Nq_34
 refine o_bipush X_34 Hq 32 d20_77 rfl (o_icmpNo X_34 Hq d20_79 (flt ht1).2.2.1 (o_aloadN X_34 Hq d20_82 rfl rfl (o_dup X_34 Hq d20_83 rfl ?_)))
 obtain ⟨T_42, X_42, e_42, st_42⟩ := getF X_34 hx hZ hown (host := "") (Or.inl (w_ hw 56 rfl)) Via.refl e_34 Fa_27 (g := (mkF m 84 #[rv a1] [(.ref a1), (.ref a1)])) rfl rfl (hb hby d20_84)
 refine own_st st_42 ?_
 show own_Go _ _ _ _ (T_42.setTop (mkF m 87 #[rv a1] [(.int 2), (.ref a1)]))
 refine o_iconst X_42 Hq 1 d20_87 rfl (o_isub X_42 Hq d20_88 ?_)
 show own_Go _ _ _ _ (T_42.setTop (mkF m 89 #[rv a1] [(.int 1), (.ref a1)]))
 have Fa_43 := (Fa_25.wr W_26)
 obtain ⟨T_44, h_44, X_44, e_44, W_44, st_44⟩ := putF X_42 hx hZ hown (host := "") (Or.inl (w_ hw 56 rfl)) Via.refl e_42 Fa_27 Fa_43 (Or.inl (w_ hw 57 rfl)) (w_ hw 38 rfl) (ty := .int) (by decide) rfl rfl (g := (mkF m 89 #[rv a1] [(.int 1), (.ref a1)])) rfl rfl (hb hby d20_89)
 refine own_st st_44 ?_
 have N_44 := Fr.snoc X_44 N_34 g1
 show own_Go _ _ _ _ (T_44.setTop (mkF m 92 #[rv a1] []))
 refine o_goto X_44 Hq (pc' := 53) d20_92 (o_aloadN X_44 Hq d20_53 rfl rfl ?_)
 have Fa_45 := (Fa_27.same W_44)
 obtain ⟨T_46, X_46, e_46, st_46⟩ := getF X_44 hx hZ hown (host := "") (Or.inl (w_ hw 56 rfl)) Via.refl e_44 Fa_45 (g := (mkF m 54 #[rv a1] [(.ref a1)])) rfl rfl (hb hby d20_54)
 refine own_st st_46 ?_
 show own_Go _ _ _ _ (T_46.setTop (mkF m 57 #[rv a1] [(.int 1)]))
 refine o_aloadN X_46 Hq d20_57 rfl rfl ?_
 have Fa_47 := (Fa_29.other W_44 (Or.inr (slot_ne (Or.inl (w_ hw 64 rfl)) (Or.inl (w_ hw 57 rfl)) (by decide) (t := .int) (t' := .int) (by decide) (by decide))))
 obtain ⟨T_48, X_48, e_48, st_48⟩ := getF X_46 hx hZ hown (host := "") (Or.inl (w_ hw 63 rfl)) Via.refl e_46 Fa_47 (g := (mkF m 58 #[rv a1] [(.ref a1), (.int 1)])) rfl rfl (hb hby d20_58)
 refine own_st st_48 ?_
 show own_Go _ _ _ _ (T_48.setTop (mkF m 61 #[rv a1] [(.int 0), (.int 1)]))
 refine o_icmpNo X_48 Hq d20_61 (by decide) (o_aloadN X_48 Hq d20_64 rfl rfl ?_)
 have Fa_49 := (Fa_31.other W_44 (Or.inr (slot_ne (Or.inr (w_ hw 45 rfl)) (Or.inl (w_ hw 57 rfl)) (by decide) (t := (.object "java/lang/String")) (t' := .int) (by decide) (by decide))))
 obtain ⟨T_50, X_50, e_50, st_50⟩ := getF X_48 hx hZ hown (host := "") (Or.inl (w_ hw 44 rfl)) Via.refl e_48 Fa_49 (g := (mkF m 65 #[rv a1] [(.ref a1)])) rfl rfl (hb hby d20_65)
 refine own_st st_50 ?_
 show own_Go _ _ _ _ (T_50.setTop (mkF m 68 #[rv a1] [(.ref a2)]))
 refine o_aloadN X_50 Hq d20_68 rfl rfl ?_
 obtain ⟨T_51, X_51, e_51, st_51⟩ := getF X_50 hx hZ hown (host := "") (Or.inl (w_ hw 56 rfl)) Via.refl e_50 Fa_45 (g := (mkF m 69 #[rv a1] [(.ref a1), (.ref a2)])) rfl rfl (hb hby d20_69)
 refine own_st st_51 ?_
 show own_Go _ _ _ _ (T_51.setTop (mkF m 72 #[rv a1] [(.int 1), (.ref a2)]))
 refine o_iconst X_51 Hq 1 d20_72 rfl (o_isub X_51 Hq d20_73 ?_)
 show own_Go _ _ _ _ (T_51.setTop (mkF m 74 #[rv a1] [(.int 0), (.ref a2)]))
 have Fa_53 := (Fa_35.wr W_44)
 have Fa_54 := (Fa_36.other W_44 (Or.inl n12))
 have Fa_55 := (Fa_37.other W_44 (Or.inl n12))
 have Fa_56 := (Fa_38.other W_44 nb1)
 have Fa_57 := (Fa_39.wr W_44)
 have Fa_58 := (Fa_40.wr W_44)
 have Zs_59 : n0 ≤ h_44.size := (Nat.le_trans Zs_41 (Keep.of_wr W_44).1)
 refine c_U1 X_51 Hq e_51 hZ hown hml (k20_35U1 hw) (rm15 hw a2 (0 : Int32) b k1 (3 : Int32) vs d1 w sfv f h_44 n0 Zs_59 Fa_53 Fa_54 Fa_55 Fa_56 Fa_57 hw0 hat hf Fa_58 hsf (by decide) (by decide)) Fa_53 d20_74 ?_ 0
 rintro T_52 L_52 _ X_52 ⟨⟨⟩, Nq_52, e_52⟩
 have N_52 := Fr.app N_44 Nq_52
 refine o_bipush X_52 Hq 32 d20_77 rfl (o_icmpYes X_52 Hq (pc' := 95) d20_79 (tlt ht0).2.2.1 ?_)
 have Kp_60 : Keep h0 h_44 [a1] := ((((Keep.refl h0 [a1]).wr W_3 (Or.inl (List.mem_of_getElem? (i := 0) rfl))).wr W_26 (Or.inl (List.mem_of_getElem? (i := 0) rfl))).wr W_44 (Or.inl (List.mem_of_getElem? (i := 0) rfl)))
 exact e_V X_52 e_52 Hq hlk hrt d20_95 ⟨rfl, N_52, Kp_60, Fa_49, Fa_45, Fa_47⟩
def Q_rmtrim3_ftt (Z : State) (a0 : Array Value) (a1 a2 b : Addr) (k1 : ClassId) (vs : List Value) (d1 : Value) (w : Int32) (sfv : Value) (f : Int32 → Int32) (h0 : Heap) (n0 : Nat) (v : Option Value) (h : Heap) (L : List Loc) : Prop := v = none ∧ Fr n0 L ∧ Keep h0 h [a1] ∧ Fld Z h a1 "com/example/vernum/vernum/VersionScanner" "input" "Ljava/lang/String;" (.ref a2) ∧ Fld Z h a1 "com/example/vernum/vernum/VersionScanner" "end" "I" (.int (3 : Int32)) ∧ Fld Z h a1 "com/example/vernum/vernum/VersionScanner" "position" "I" (.int (1 : Int32))
theorem rmtrim3_ftt (hw : HW a0 Z) (a1 a2 b : Addr) (k1 : ClassId) (vs : List Value) (d1 : Value) (w : Int32) (sfv : Value) (f : Int32 → Int32) (h0 : Heap) (n0 : Nat) (Z0 : n0 ≤ h0.size) (E1 : Exa Z h0 a1 "com/example/vernum/vernum/VersionScanner") (g1 : n0 ≤ a1) (F1 : Fld Z h0 a1 "com/example/vernum/vernum/VersionScanner" "input" "Ljava/lang/String;" (.ref a2)) (F2 : Fld Z h0 a1 "com/example/vernum/vernum/VersionScanner" "end" "I" (.int (3 : Int32))) (F3 : Fld Z h0 a1 "com/example/vernum/vernum/VersionScanner" "position" "I" (.int (0 : Int32))) (F4 : Fld Z h0 a1 "com/example/vernum/vernum/VersionScanner" "peeked" "I" (.int (0 : Int32))) (n12 : a2 ≠ a1) (nb1 : b ≠ a1) (E_s : Exa Z h0 a2 "java/lang/String") (F_v : Fld Z h0 a2 "java/lang/String" "value" "[B" (.ref b)) (F_c : Fld Z h0 a2 "java/lang/String" "coder" "B" (.int (0 : Int32))) (V_s : Arv Z h0 b k1 .byte (3 : Int32) vs d1) (S1 : Sta Z h0 "java/lang/String" "COMPACT_STRINGS" "Z" (.int w)) (hw0 : ¬ w = (0 : Int32)) (hat : ∀ i : Int32, ¬ i < 0 → i < (3 : Int32) → vs.getD i.toNatClampNeg d1 = .int (((f i).toInt8.toInt32).toInt8.toInt32)) (hf : ∀ i : Int32, ¬ (255 : Int32) < f i ∧ ¬ f i < 0) (S2 : Sta Z h0 "jdk/internal/util/Preconditions" "SIOOBE_FORMATTER" "Ljava/util/function/BiFunction;" sfv) (hsf : sfv.isRef = true) (ht0 : ¬ (32 : Int32) < f (0 : Int32)) (ht1 : (32 : Int32) < f (1 : Int32)) (ht2 : (32 : Int32) < f (2 : Int32)) :
  own_Met l y0_ prog_24_method_4_code 1 none (R_ 4 0 0 53) #[(.ref a1)] Z h0 (Q_rmtrim3_ftt Z a0 a1 a2 b k1 vs d1 w sfv f h0 n0) := by
 refine own_bd (own := "com/example/vernum/vernum/VersionScanner") rfl (plainFor_of_name pn_9) #[rv a1] ?_
 intro p e s m below meth c s₁ hx hby Hq hml hown hnm hlk hrt hZ X0 e0
 refine o_aloadN X0 Hq d20_0 rfl rfl (o_aloadN X0 Hq d20_1 rfl rfl ?_)
 obtain ⟨T_1, X_1, e_1, st_1⟩ := getF X0 hx hZ hown (host := "") (Or.inl (w_ hw 44 rfl)) Via.refl e0 F1 (g := (mkF m 2 #[rv a1] [(.ref a1), (.ref a1)])) rfl rfl (hb hby d20_2)
 refine own_st st_1 ?_
 show own_Go _ _ _ _ (T_1.setTop (mkF m 5 #[rv a1] [(.ref a2), (.ref a1)]))
 refine c_U0 X_1 Hq e_1 hZ hown hml (k20_13U1 hw) (rmlenN hw a2 b k1 (3 : Int32) vs d1 w h0 n0 Z0 E_s F_v F_c V_s S1 hw0) E_s d20_5 ?_ 1
 rintro T_2 L_2 _ X_2 ⟨⟨⟩, Nq_2, e_2⟩
 have N_2 := Fr.app (Fr.nil n0) Nq_2
 refine o_iconst X_2 Hq 1 d20_8 rfl (o_iadd X_2 Hq d20_9 ?_)
 show own_Go _ _ _ _ (T_2.setTop (mkF m 10 #[rv a1] [(.int 4), (.ref a1)]))
 obtain ⟨T_3, h_3, X_3, e_3, W_3, st_3⟩ := putF X_2 hx hZ hown (host := "") (Or.inl (w_ hw 103 rfl)) Via.refl e_2 F4 E1 (Or.inl (w_ hw 104 rfl)) (w_ hw 38 rfl) (ty := .int) (by decide) rfl rfl (g := (mkF m 10 #[rv a1] [(.int 4), (.ref a1)])) rfl rfl (hb hby d20_10)
 refine own_st st_3 ?_
 have N_3 := Fr.snoc X_3 N_2 g1
 show own_Go _ _ _ _ (T_3.setTop (mkF m 13 #[rv a1] []))
 refine o_aloadN X_3 Hq d20_13 rfl rfl ?_
 have Fa_4 := (F3.other W_3 (Or.inr (slot_ne (Or.inl (w_ hw 64 rfl)) (Or.inl (w_ hw 104 rfl)) (by decide) (t := .int) (t' := .int) (by decide) (by decide))))
 obtain ⟨T_5, X_5, e_5, st_5⟩ := getF X_3 hx hZ hown (host := "") (Or.inl (w_ hw 63 rfl)) Via.refl e_3 Fa_4 (g := (mkF m 14 #[rv a1] [(.ref a1)])) rfl rfl (hb hby d20_14)
 refine own_st st_5 ?_
 show own_Go _ _ _ _ (T_5.setTop (mkF m 17 #[rv a1] [(.int 0)]))
 refine o_aloadN X_5 Hq d20_17 rfl rfl ?_
 have Fa_6 := (F2.other W_3 (Or.inr (slot_ne (Or.inl (w_ hw 57 rfl)) (Or.inl (w_ hw 104 rfl)) (by decide) (t := .int) (t' := .int) (by decide) (by decide))))
 obtain ⟨T_7, X_7, e_7, st_7⟩ := getF X_5 hx hZ hown (host := "") (Or.inl (w_ hw 56 rfl)) Via.refl e_5 Fa_6 (g := (mkF m 18 #[rv a1] [(.ref a1), (.int 0)])) rfl rfl (hb hby d20_18)
 refine own_st st_7 ?_
 show own_Go _ _ _ _ (T_7.setTop (mkF m 21 #[rv a1] [(.int 3), (.int 0)]))
 refine o_icmpNo X_7 Hq d20_21 (by decide) (o_aloadN X_7 Hq d20_24 rfl rfl ?_)
 have Fa_8 := (F1.other W_3 (Or.inr (slot_ne (Or.inr (w_ hw 45 rfl)) (Or.inl (w_ hw 104 rfl)) (by decide) (t := (.object "java/lang/String")) (t' := .int) (by decide) (by decide))))
 obtain ⟨T_9, X_9, e_9, st_9⟩ := getF X_7 hx hZ hown (host := "") (Or.inl (w_ hw 44 rfl)) Via.refl e_7 Fa_8 (g := (mkF m 25 #[rv a1] [(.ref a1)])) rfl rfl (hb hby d20_25)
 refine own_st st_9 ?_
 show own_Go _ _ _ _ (T_9.setTop (mkF m 28 #[rv a1] [(.ref a2)]))
 refine o_aloadN X_9 Hq d20_28 rfl rfl ?_
 obtain ⟨T_10, X_10, e_10, st_10⟩ := getF X_9 hx hZ hown (host := "") (Or.inl (w_ hw 63 rfl)) Via.refl e_9 Fa_4 (g := (mkF m 29 #[rv a1] [(.ref a1), (.ref a2)])) rfl rfl (hb hby d20_29)
 refine own_st st_10 ?_
 show own_Go _ _ _ _ (T_10.setTop (mkF m 32 #[rv a1] [(.int 0), (.ref a2)]))
 have Fa_12 := (E_s.wr W_3)
 have Fa_13 := (F_v.other W_3 (Or.inl n12))
 have Fa_14 := (F_c.other W_3 (Or.inl n12))
 have Fa_15 := (V_s.other W_3 nb1)
 have Fa_16 := (S1.wr W_3)
 have Fa_17 := (S2.wr W_3)
 have Zs_18 : n0 ≤ h_3.size := (Nat.le_trans Z0 (Keep.of_wr W_3).1)
 refine c_U1 X_10 Hq e_10 hZ hown hml (k20_35U1 hw) (rm15 hw a2 (0 : Int32) b k1 (3 : Int32) vs d1 w sfv f h_3 n0 Zs_18 Fa_12 Fa_13 Fa_14 Fa_15 Fa_16 hw0 hat hf Fa_17 hsf (by decide) (by decide)) Fa_12 d20_32 ?_ 0
 rintro T_11 L_11 _ X_11 ⟨⟨⟩, Nq_11, e_11⟩
 have N_11 := Fr.app N_3 Nq_11
 refine o_bipush X_11 Hq 32 d20_35 rfl (o_icmpNo X_11 Hq d20_37 (flt ht0).2.2.1 (o_aloadN X_11 Hq d20_40 rfl rfl (o_dup X_11 Hq d20_41 rfl ?_)))
 obtain ⟨T_19, X_19, e_19, st_19⟩ := getF X_11 hx hZ hown (host := "") (Or.inl (w_ hw 63 rfl)) Via.refl e_11 Fa_4 (g := (mkF m 42 #[rv a1] [(.ref a1), (.ref a1)])) rfl rfl (hb hby d20_42)
 refine own_st st_19 ?_
 show own_Go _ _ _ _ (T_19.setTop (mkF m 45 #[rv a1] [(.int 0), (.ref a1)]))
 refine o_iconst X_19 Hq 1 d20_45 rfl (o_iadd X_19 Hq d20_46 ?_)
 show own_Go _ _ _ _ (T_19.setTop (mkF m 47 #[rv a1] [(.int 1), (.ref a1)]))
 have Fa_20 := (E1.wr W_3)
 obtain ⟨T_21, h_21, X_21, e_21, W_21, st_21⟩ := putF X_19 hx hZ hown (host := "") (Or.inl (w_ hw 63 rfl)) Via.refl e_19 Fa_4 Fa_20 (Or.inl (w_ hw 64 rfl)) (w_ hw 38 rfl) (ty := .int) (by decide) rfl rfl (g := (mkF m 47 #[rv a1] [(.int 1), (.ref a1)])) rfl rfl (hb hby d20_47)
 refine own_st st_21 ?_
 have N_21 := Fr.snoc X_21 N_11 g1
 show own_Go _ _ _ _ (T_21.setTop (mkF m 50 #[rv a1] []))
 refine o_goto X_21 Hq (pc' := 13) d20_50 (o_aloadN X_21 Hq d20_13 rfl rfl ?_)
 have Fa_22 := (Fa_4.same W_21)
 obtain ⟨T_23, X_23, e_23, st_23⟩ := getF X_21 hx hZ hown (host := "") (Or.inl (w_ hw 63 rfl)) Via.refl e_21 Fa_22 (g := (mkF m 14 #[rv a1] [(.ref a1)])) rfl rfl (hb hby d20_14)
 refine own_st st_23 ?_
 show own_Go _ _ _ _ (T_23.setTop (mkF m 17 #[rv a1] [(.int 1)]))
 refine o_aloadN X_23 Hq d20_17 rfl rfl ?_
 have Fa_24 := (Fa_6.other W_21 (Or.inr (slot_ne (Or.inl (w_ hw 57 rfl)) (Or.inl (w_ hw 64 rfl)) (by decide) (t := .int) (t' := .int) (by decide) (by decide))))
 obtain ⟨T_25, X_25, e_25, st_25⟩ := getF X_23 hx hZ hown (host := "") (Or.inl (w_ hw 56 rfl)) Via.refl e_23 Fa_24 (g := (mkF m 18 #[rv a1] [(.ref a1), (.int 1)])) rfl rfl (hb hby d20_18)
 refine own_st st_25 ?_
 show own_Go _ _ _ _ (T_25.setTop (mkF m 21 #[rv a1] [(.int 3), (.int 1)]))
 refine o_icmpNo X_25 Hq d20_21 (by decide) (o_aloadN X_25 Hq d20_24 rfl rfl ?_)
 have Fa_26 := (Fa_8.other W_21 (Or.inr (slot_ne (Or.inr (w_ hw 45 rfl)) (Or.inl (w_ hw 64 rfl)) (by decide) (t := (.object "java/lang/String")) (t' := .int) (by decide) (by decide))))
 obtain ⟨T_27, X_27, e_27, st_27⟩ := getF X_25 hx hZ hown (host := "") (Or.inl (w_ hw 44 rfl)) Via.refl e_25 Fa_26 (g := (mkF m 25 #[rv a1] [(.ref a1)])) rfl rfl (hb hby d20_25)
 refine own_st st_27 ?_
 show own_Go _ _ _ _ (T_27.setTop (mkF m 28 #[rv a1] [(.ref a2)]))
 refine o_aloadN X_27 Hq d20_28 rfl rfl ?_
 obtain ⟨T_28, X_28, e_28, st_28⟩ := getF X_27 hx hZ hown (host := "") (Or.inl (w_ hw 63 rfl)) Via.refl e_27 Fa_22 (g := (mkF m 29 #[rv a1] [(.ref a1), (.ref a2)])) rfl rfl (hb hby d20_29)
 refine own_st st_28 ?_
 show own_Go _ _ _ _ (T_28.setTop (mkF m 32 #[rv a1] [(.int 1), (.ref a2)]))
 have Fa_30 := (Fa_12.wr W_21)
 have Fa_31 := (Fa_13.other W_21 (Or.inl n12))
 have Fa_32 := (Fa_14.other W_21 (Or.inl n12))
 have Fa_33 := (Fa_15.other W_21 nb1)
 have Fa_34 := (Fa_16.wr W_21)
 have Fa_35 := (Fa_17.wr W_21)
 have Zs_36 : n0 ≤ h_21.size := (Nat.le_trans Zs_18 (Keep.of_wr W_21).1)
 refine c_U1 X_28 Hq e_28 hZ hown hml (k20_35U1 hw) (rm15 hw a2 (1 : Int32) b k1 (3 : Int32) vs d1 w sfv f h_21 n0 Zs_36 Fa_30 Fa_31 Fa_32 Fa_33 Fa_34 hw0 hat hf Fa_35 hsf (by decide) (by decide)) Fa_30 d20_32 ?_ 0
 rintro T_29 L_29 _ X_29 ⟨⟨⟩, Nq_29, e_29⟩
 have N_29 := Fr.app N_21 Nq_29
 refine o_bipush X_29 Hq 32 d20_35 rfl (o_icmpYes X_29 Hq (pc' := 53) d20_37 (tlt ht1).2.2.1 (o_aloadN X_29 Hq d20_53 rfl rfl ?_))
 obtain ⟨T_37, X_37, e_37, st_37⟩ := getF X_29 hx hZ hown (host := "") (Or.inl (w_ hw 56 rfl)) Via.refl e_29 Fa_24 (g := (mkF m 54 #[rv a1] [(.ref a1)])) rfl rfl (hb hby d20_54)
 refine own_st st_37 ?_
 show own_Go _ _ _ _ (T_37.setTop (mkF m 57 #[rv a1] [(.int 3)]))
 refine o_aloadN X_37 Hq d20_57 rfl rfl ?_
 obtain ⟨T_38, X_38, e_38, st_38⟩ := getF X_37 hx hZ hown (host := "") (Or.inl (w_ hw 63 rfl)) Via.refl e_37 Fa_22 (g := (mkF m 58 #[rv a1] [(.ref a1), (.int 3)])) rfl rfl (hb hby d20_58)
 refine own_st st_38 ?_
 show own_Go _ _ _ _ (T_38.setTop (mkF m 61 #[rv a1] [(.int 1), (.int 3)]))
 refine o_icmpNo X_38 Hq d20_61 (by decide) (o_aloadN X_38 Hq d20_64 rfl rfl ?_)
 obtain ⟨T_39, X_39, e_39, st_39⟩ := getF X_38 hx hZ hown (host := "") (Or.inl (w_ hw 44 rfl)) Via.refl e_38 Fa_26 (g := (mkF m 65 #[rv a1] [(.ref a1)])) rfl rfl (hb hby d20_65)
 refine own_st st_39 ?_
 show own_Go _ _ _ _ (T_39.setTop (mkF m 68 #[rv a1] [(.ref a2)]))
 refine o_aloadN X_39 Hq d20_68 rfl rfl ?_
 obtain ⟨T_40, X_40, e_40, st_40⟩ := getF X_39 hx hZ hown (host := "") (Or.inl (w_ hw 56 rfl)) Via.refl e_39 Fa_24 (g := (mkF m 69 #[rv a1] [(.ref a1), (.ref a2)])) rfl rfl (hb hby d20_69)
 refine own_st st_40 ?_
 show own_Go _ _ _ _ (T_40.setTop (mkF m 72 #[rv a1] [(.int 3), (.ref a2)]))
 refine o_iconst X_40 Hq 1 d20_72 rfl (o_isub X_40 Hq d20_73 ?_)
 show own_Go _ _ _ _ (T_40.setTop (mkF m 74 #[rv a1] [(.int 2), (.ref a2)]))
 refine c_U1 X_40 Hq e_40 hZ hown hml (k20_35U1 hw) (rm15 hw a2 (2 : Int32) b k1 (3 : Int32) vs d1 w sfv f h_21 n0 Zs_36 Fa_30 Fa_31 Fa_32 Fa_33 Fa_34 hw0 hat hf Fa_35 hsf (by decide) (by decide)) Fa_30 d20_74 ?_ 0
 rintro T_41 L_41 _ X_41 ⟨⟨⟩, Nq_41, e_41⟩
 have N_41 := Fr.app N_29 Nq_41
 refine o_bipush X_41 Hq 32 d20_77 rfl (o_icmpYes X_41 Hq (pc' := 95) d20_79 (tlt ht2).2.2.1 ?_)
 have Kp_42 : Keep h0 h_21 [a1] := (((Keep.refl h0 [a1]).wr W_3 (Or.inl (List.mem_of_getElem? (i := 0) rfl))).wr W_21 (Or.inl (List.mem_of_getElem? (i := 0) rfl)))
 exact e_V X_41 e_41 Hq hlk hrt d20_95 ⟨rfl, N_41, Kp_42, Fa_26, Fa_24, Fa_22⟩
def Q_rmtrim3_ftf (Z : State) (a0 : Array Value) (a1 a2 b : Addr) (k1 : ClassId) (vs : List Value) (d1 : Value) (w : Int32) (sfv : Value) (f : Int32 → Int32) (h0 : Heap) (n0 : Nat) (v : Option Value) (h : Heap) (L : List Loc) : Prop := v = none ∧ Fr n0 L ∧ Keep h0 h [a1] ∧ Fld Z h a1 "com/example/vernum/vernum/VersionScanner" "input" "Ljava/lang/String;" (.ref a2) ∧ Fld Z h a1 "com/example/vernum/vernum/VersionScanner" "end" "I" (.int (2 : Int32)) ∧ Fld Z h a1 "com/example/vernum/vernum/VersionScanner" "position" "I" (.int (1 : Int32))
theorem rmtrim3_ftf (hw : HW a0 Z) (a1 a2 b : Addr) (k1 : ClassId) (vs : List Value) (d1 : Value) (w : Int32) (sfv : Value) (f : Int32 → Int32) (h0 : Heap) (n0 : Nat) (Z0 : n0 ≤ h0.size) (E1 : Exa Z h0 a1 "com/example/vernum/vernum/VersionScanner") (g1 : n0 ≤ a1) (F1 : Fld Z h0 a1 "com/example/vernum/vernum/VersionScanner" "input" "Ljava/lang/String;" (.ref a2)) (F2 : Fld Z h0 a1 "com/example/vernum/vernum/VersionScanner" "end" "I" (.int (3 : Int32))) (F3 : Fld Z h0 a1 "com/example/vernum/vernum/VersionScanner" "position" "I" (.int (0 : Int32))) (F4 : Fld Z h0 a1 "com/example/vernum/vernum/VersionScanner" "peeked" "I" (.int (0 : Int32))) (n12 : a2 ≠ a1) (nb1 : b ≠ a1) (E_s : Exa Z h0 a2 "java/lang/String") (F_v : Fld Z h0 a2 "java/lang/String" "value" "[B" (.ref b)) (F_c : Fld Z h0 a2 "java/lang/String" "coder" "B" (.int (0 : Int32))) (V_s : Arv Z h0 b k1 .byte (3 : Int32) vs d1) (S1 : Sta Z h0 "java/lang/String" "COMPACT_STRINGS" "Z" (.int w)) (hw0 : ¬ w = (0 : Int32)) (hat : ∀ i : Int32, ¬ i < 0 → i < (3 : Int32) → vs.getD i.toNatClampNeg d1 = .int (((f i).toInt8.toInt32).toInt8.toInt32)) (hf : ∀ i : Int32, ¬ (255 : Int32) < f i ∧ ¬ f i < 0) (S2 : Sta Z h0 "jdk/internal/util/Preconditions" "SIOOBE_FORMATTER" "Ljava/util/function/BiFunction;" sfv) (hsf : sfv.isRef = true) (ht0 : ¬ (32 : Int32) < f (0 : Int32)) (ht1 : (32 : Int32) < f (1 : Int32)) (ht2 : ¬ (32 : Int32) < f (2 : Int32)) :
  own_Met l y0_ prog_24_method_4_code 1 none (R_ 4 0 0 53) #[(.ref a1)] Z h0 (Q_rmtrim3_ftf Z a0 a1 a2 b k1 vs d1 w sfv f h0 n0) := by
 refine own_bd (own := "com/example/vernum/vernum/VersionScanner") rfl (plainFor_of_name pn_9) #[rv a1] ?_
 intro p e s m below meth c s₁ hx hby Hq hml hown hnm hlk hrt hZ X0 e0
 refine o_aloadN X0 Hq d20_0 rfl rfl (o_aloadN X0 Hq d20_1 rfl rfl ?_)
 obtain ⟨T_1, X_1, e_1, st_1⟩ := getF X0 hx hZ hown (host := "") (Or.inl (w_ hw 44 rfl)) Via.refl e0 F1 (g := (mkF m 2 #[rv a1] [(.ref a1), (.ref a1)])) rfl rfl (hb hby d20_2)
 refine own_st st_1 ?_
 show own_Go _ _ _ _ (T_1.setTop (mkF m 5 #[rv a1] [(.ref a2), (.ref a1)]))
 refine c_U0 X_1 Hq e_1 hZ hown hml (k20_13U1 hw) (rmlenN hw a2 b k1 (3 : Int32) vs d1 w h0 n0 Z0 E_s F_v F_c V_s S1 hw0) E_s d20_5 ?_ 1
 rintro T_2 L_2 _ X_2 ⟨⟨⟩, Nq_2, e_2⟩
 have N_2 := Fr.app (Fr.nil n0) Nq_2
 refine o_iconst X_2 Hq 1 d20_8 rfl (o_iadd X_2 Hq d20_9 ?_)
 show own_Go _ _ _ _ (T_2.setTop (mkF m 10 #[rv a1] [(.int 4), (.ref a1)]))
 obtain ⟨T_3, h_3, X_3, e_3, W_3, st_3⟩ := putF X_2 hx hZ hown (host := "") (Or.inl (w_ hw 103 rfl)) Via.refl e_2 F4 E1 (Or.inl (w_ hw 104 rfl)) (w_ hw 38 rfl) (ty := .int) (by decide) rfl rfl (g := (mkF m 10 #[rv a1] [(.int 4), (.ref a1)])) rfl rfl (hb hby d20_10)
 refine own_st st_3 ?_
 have N_3 := Fr.snoc X_3 N_2 g1
 show own_Go _ _ _ _ (T_3.setTop (mkF m 13 #[rv a1] []))
 refine o_aloadN X_3 Hq d20_13 rfl rfl ?_
 have Fa_4 := (F3.other W_3 (Or.inr (slot_ne (Or.inl (w_ hw 64 rfl)) (Or.inl (w_ hw 104 rfl)) (by decide) (t := .int) (t' := .int) (by decide) (by decide))))
 obtain ⟨T_5, X_5, e_5, st_5⟩ := getF X_3 hx hZ hown (host := "") (Or.inl (w_ hw 63 rfl)) Via.refl e_3 Fa_4 (g := (mkF m 14 #[rv a1] [(.ref a1)])) rfl rfl (hb hby d20_14)
 refine own_st st_5 ?_
 show own_Go _ _ _ _ (T_5.setTop (mkF m 17 #[rv a1] [(.int 0)]))
 refine o_aloadN X_5 Hq d20_17 rfl rfl ?_
 have Fa_6 := (F2.other W_3 (Or.inr (slot_ne (Or.inl (w_ hw 57 rfl)) (Or.inl (w_ hw 104 rfl)) (by decide) (t := .int) (t' := .int) (by decide) (by decide))))
 obtain ⟨T_7, X_7, e_7, st_7⟩ := getF X_5 hx hZ hown (host := "") (Or.inl (w_ hw 56 rfl)) Via.refl e_5 Fa_6 (g := (mkF m 18 #[rv a1] [(.ref a1), (.int 0)])) rfl rfl (hb hby d20_18)
 refine own_st st_7 ?_
 show own_Go _ _ _ _ (T_7.setTop (mkF m 21 #[rv a1] [(.int 3), (.int 0)]))
 refine o_icmpNo X_7 Hq d20_21 (by decide) (o_aloadN X_7 Hq d20_24 rfl rfl ?_)
 have Fa_8 := (F1.other W_3 (Or.inr (slot_ne (Or.inr (w_ hw 45 rfl)) (Or.inl (w_ hw 104 rfl)) (by decide) (t := (.object "java/lang/String")) (t' := .int) (by decide) (by decide))))
 obtain ⟨T_9, X_9, e_9, st_9⟩ := getF X_7 hx hZ hown (host := "") (Or.inl (w_ hw 44 rfl)) Via.refl e_7 Fa_8 (g := (mkF m 25 #[rv a1] [(.ref a1)])) rfl rfl (hb hby d20_25)
 refine own_st st_9 ?_
 show own_Go _ _ _ _ (T_9.setTop (mkF m 28 #[rv a1] [(.ref a2)]))
 refine o_aloadN X_9 Hq d20_28 rfl rfl ?_
 obtain ⟨T_10, X_10, e_10, st_10⟩ := getF X_9 hx hZ hown (host := "") (Or.inl (w_ hw 63 rfl)) Via.refl e_9 Fa_4 (g := (mkF m 29 #[rv a1] [(.ref a1), (.ref a2)])) rfl rfl (hb hby d20_29)
 refine own_st st_10 ?_
 show own_Go _ _ _ _ (T_10.setTop (mkF m 32 #[rv a1] [(.int 0), (.ref a2)]))
 have Fa_12 := (E_s.wr W_3)
 have Fa_13 := (F_v.other W_3 (Or.inl n12))
 have Fa_14 := (F_c.other W_3 (Or.inl n12))
 have Fa_15 := (V_s.other W_3 nb1)
 have Fa_16 := (S1.wr W_3)
 have Fa_17 := (S2.wr W_3)
 have Zs_18 : n0 ≤ h_3.size := (Nat.le_trans Z0 (Keep.of_wr W_3).1)
 refine c_U1 X_10 Hq e_10 hZ hown hml (k20_35U1 hw) (rm15 hw a2 (0 : Int32) b k1 (3 : Int32) vs d1 w sfv f h_3 n0 Zs_18 Fa_12 Fa_13 Fa_14 Fa_15 Fa_16 hw0 hat hf Fa_17 hsf (by decide) (by decide)) Fa_12 d20_32 ?_ 0
 rintro T_11 L_11 _ X_11 ⟨⟨⟩, Nq_11, e_11⟩
 have N_11 := Fr.app N_3 Nq_11
 refine o_bipush X_11 Hq 32 d20_35 rfl (o_icmpNo X_11 Hq d20_37 (flt ht0).2.2.1 (o_aloadN X_11 Hq d20_40 rfl rfl (o_dup X_11 Hq d20_41 rfl ?_)))
 obtain ⟨T_19, X_19, e_19, st_19⟩ := getF X_11 hx hZ hown (host := "") (Or.inl (w_ hw 63 rfl)) Via.refl e_11 Fa_4 (g := (mkF m 42 #[rv a1] [(.ref a1), (.ref a1)])) rfl rfl (hb hby d20_42)
 refine own_st st_19 ?_
 show own_Go _ _ _ _ (T_19.setTop (mkF m 45 #[rv a1] [(.int 0), (.ref a1)]))
 refine o_iconst X_19 Hq 1 d20_45 rfl (o_iadd X_19 Hq d20_46 ?_)
 show own_Go _ _ _ _ (T_19.setTop (mkF m 47 #[rv a1] [(.int 1), (.ref a1)]))
 have Fa_20 := (E1.wr W_3)
 obtain ⟨T_21, h_21, X_21, e_21, W_21, st_21⟩ := putF X_19 hx hZ hown (host := "") (Or.inl (w_ hw 63 rfl)) Via.refl e_19 Fa_4 Fa_20 (Or.inl (w_ hw 64 rfl)) (w_ hw 38 rfl) (ty := .int) (by decide) rfl rfl (g := (mkF m 47 #[rv a1] [(.int 1), (.ref a1)])) rfl rfl (hb hby d20_47)
 refine own_st st_21 ?_
 have N_21 := Fr.snoc X_21 N_11 g1
 show own_Go _ _ _ _ (T_21.setTop (mkF m 50 #[rv a1] []))
 refine o_goto X_21 Hq (pc' := 13) d20_50 (o_aloadN X_21 Hq d20_13 rfl rfl ?_)
 have Fa_22 := (Fa_4.same W_21)
 obtain ⟨T_23, X_23, e_23, st_23⟩ := getF X_21 hx hZ hown (host := "") (Or.inl (w_ hw 63 rfl)) Via.refl e_21 Fa_22 (g := (mkF m 14 #[rv a1] [(.ref a1)])) rfl rfl (hb hby d20_14)
 refine own_st st_23 ?_
 show own_Go _ _ _ _ (T_23.setTop (mkF m 17 #[rv a1] [(.int 1)]))
 refine o_aloadN X_23 Hq d20_17 rfl rfl ?_
 have Fa_24 := (Fa_6.other W_21 (Or.inr (slot_ne (Or.inl (w_ hw 57 rfl)) (Or.inl (w_ hw 64 rfl)) (by decide) (t := .int) (t' := .int) (by decide) (by decide))))
 obtain ⟨T_25, X_25, e_25, st_25⟩ := getF X_23 hx hZ hown (host := "") (Or.inl (w_ hw 56 rfl)) Via.refl e_23 Fa_24 (g := (mkF m 18 #[rv a1] [(.ref a1), (.int 1)])) rfl rfl (hb hby d20_18)
 refine own_st st_25 ?_
 show own_Go _ _ _ _ (T_25.setTop (mkF m 21 #[rv a1] [(.int 3), (.int 1)]))
 refine o_icmpNo X_25 Hq d20_21 (by decide) (o_aloadN X_25 Hq d20_24 rfl rfl ?_)
 have Fa_26 := (Fa_8.other W_21 (Or.inr (slot_ne (Or.inr (w_ hw 45 rfl)) (Or.inl (w_ hw 64 rfl)) (by decide) (t := (.object "java/lang/String")) (t' := .int) (by decide) (by decide))))
 obtain ⟨T_27, X_27, e_27, st_27⟩ := getF X_25 hx hZ hown (host := "") (Or.inl (w_ hw 44 rfl)) Via.refl e_25 Fa_26 (g := (mkF m 25 #[rv a1] [(.ref a1)])) rfl rfl (hb hby d20_25)
 refine own_st st_27 ?_
 show own_Go _ _ _ _ (T_27.setTop (mkF m 28 #[rv a1] [(.ref a2)]))
 refine o_aloadN X_27 Hq d20_28 rfl rfl ?_
 obtain ⟨T_28, X_28, e_28, st_28⟩ := getF X_27 hx hZ hown (host := "") (Or.inl (w_ hw 63 rfl)) Via.refl e_27 Fa_22 (g := (mkF m 29 #[rv a1] [(.ref a1), (.ref a2)])) rfl rfl (hb hby d20_29)
 refine own_st st_28 ?_
 show own_Go _ _ _ _ (T_28.setTop (mkF m 32 #[rv a1] [(.int 1), (.ref a2)]))
 have Fa_30 := (Fa_12.wr W_21)
 have Fa_31 := (Fa_13.other W_21 (Or.inl n12))
 have Fa_32 := (Fa_14.other W_21 (Or.inl n12))
 have Fa_33 := (Fa_15.other W_21 nb1)
 have Fa_34 := (Fa_16.wr W_21)
 have Fa_35 := (Fa_17.wr W_21)
 have Zs_36 : n0 ≤ h_21.size := (Nat.le_trans Zs_18 (Keep.of_wr W_21).1)
 refine c_U1 X_28 Hq e_28 hZ hown hml (k20_35U1 hw) (rm15 hw a2 (1 : Int32) b k1 (3 : Int32) vs d1 w sfv f h_21 n0 Zs_36 Fa_30 Fa_31 Fa_32 Fa_33 Fa_34 hw0 hat hf Fa_35 hsf (by decide) (by decide)) Fa_30 d20_32 ?_ 0
 rintro T_29 L_29 _ X_29 ⟨⟨⟩, Nq_29, e_29⟩
 have N_29 := Fr.app N_21 Nq_29
 refine o_bipush X_29 Hq 32 d20_35 rfl (o_icmpYes X_29 Hq (pc' := 53) d20_37 (tlt ht1).2.2.1 (o_aloadN X_29 Hq d20_53 rfl rfl ?_))
 obtain ⟨T_37, X_37, e_37, st_37⟩ := getF X_29 hx hZ hown (host := "") (Or.inl (w_ hw 56 rfl)) Via.refl e_29 Fa_24 (g := (mkF m 54 #[rv a1] [(.ref a1)])) rfl rfl (hb hby d20_54)
 refine own_st st_37 ?_
 show own_Go _ _ _ _ (T_37.setTop (mkF m 57 #[rv a1] [(.int 3)]))
 refine o_aloadN X_37 Hq d20_57 rfl rfl ?_
 obtain ⟨T_38, X_38, e_38, st_38⟩ := getF X_37 hx hZ hown (host := "") (Or.inl (w_ hw 63 rfl)) Via.refl e_37 Fa_22 (g := (mkF m 58 #[rv a1] [(.ref a1), (.int 3)])) rfl rfl (hb hby d20_58)
 refine own_st st_38 ?_
 show own_Go _ _ _ _ (T_38.setTop (mkF m 61 #[rv a1] [(.int 1), (.int 3)]))
 refine o_icmpNo X_38 Hq d20_61 (by decide) (o_aloadN X_38 Hq d20_64 rfl rfl ?_)
 obtain ⟨T_39, X_39, e_39, st_39⟩ := getF X_38 hx hZ hown (host := "") (Or.inl (w_ hw 44 rfl)) Via.refl e_38 Fa_26 (g := (mkF m 65 #[rv a1] [(.ref a1)])) rfl rfl (hb hby d20_65)
 refine own_st st_39 ?_
 show own_Go _ _ _ _ (T_39.setTop (mkF m 68 #[rv a1] [(.ref a2)]))
 refine o_aloadN X_39 Hq d20_68 rfl rfl ?_
 obtain ⟨T_40, X_40, e_40, st_40⟩ := getF X_39 hx hZ hown (host := "") (Or.inl (w_ hw 56 rfl)) Via.refl e_39 Fa_24 (g := (mkF m 69 #[rv a1] [(.ref a1), (.ref a2)])) rfl rfl (hb hby d20_69)
 refine own_st st_40 ?_
 show own_Go _ _ _ _ (T_40.setTop (mkF m 72 #[rv a1] [(.int 3), (.ref a2)]))
 refine o_iconst X_40 Hq 1 d20_72 rfl (o_isub X_40 Hq d20_73 ?_)
 show own_Go _ _ _ _ (T_40.setTop (mkF m 74 #[rv a1] [(.int 2), (.ref a2)]))
 refine c_U1 X_40 Hq e_40 hZ hown hml (k20_35U1 hw) (rm15 hw a2 (2 : Int32) b k1 (3 : Int32) vs d1 w sfv f h_21 n0 Zs_36 Fa_30 Fa_31 Fa_32 Fa_33 Fa_34 hw0 hat hf Fa_35 hsf (by decide) (by decide)) Fa_30 d20_74 ?_ 0
 rintro T_41 L_41 _ X_41 ⟨⟨⟩, Nq_41, e_41⟩
 have N_41 := Fr.app N_29 Nq_41
 refine o_bipush X_41 Hq 32 d20_77 rfl (o_icmpNo X_41 Hq d20_79 (flt ht2).2.2.1 (o_aloadN X_41 Hq d20_82 rfl rfl (o_dup X_41 Hq d20_83 rfl ?_)))
 obtain ⟨T_42, X_42, e_42, st_42⟩ := getF X_41 hx hZ hown (host := "") (Or.inl (w_ hw 56 rfl)) Via.refl e_41 Fa_24 (g := (mkF m 84 #[rv a1] [(.ref a1), (.ref a1)])) rfl rfl (hb hby d20_84)
 refine own_st st_42 ?_
 show own_Go _ _ _ _ (T_42.setTop (mkF m 87 #[rv a1] [(.int 3), (.ref a1)]))
 refine o_iconst X_42 Hq 1 d20_87 rfl (o_isub X_42 Hq d20_88 ?_)
 show own_Go _ _ _ _ (T_42.setTop (mkF m 89 #[rv a1] [(.int 2), (.ref a1)]))
 have Fa_43 := (Fa_20.wr W_21)
 obtain ⟨T_44, h_44, X_44, e_44, W_44, st_44⟩ := putF X_42 hx hZ hown (host := "") (Or.inl (w_ hw 56 rfl)) Via.refl e_42 Fa_24 Fa_43 (Or.inl (w_ hw 57 rfl)) (w_ hw 38 rfl) (ty := .int) (by decide) rfl rfl (g := (mkF m 89 #[rv a1] [(.int 2), (.ref a1)])) rfl rfl (hb hby d20_89)
 refine own_st st_44 ?_
 have N_44 := Fr.snoc X_44 N_41 g1
 show own_Go _ _ _ _ (T_44.setTop (mkF m 92 #[rv a1] []))
 refine o_goto X_44 Hq (pc' := 53) d20_92 (o_aloadN X_44 Hq d20_53 rfl rfl ?_)
 have Fa_45 := (Fa_24.same W_44)
 obtain ⟨T_46, X_46, e_46, st_46⟩ := getF X_44 hx hZ hown (host := "") (Or.inl (w_ hw 56 rfl)) Via.refl e_44 Fa_45 (g := (mkF m 54 #[rv a1] [(.ref a1)])) rfl rfl (hb hby d20_54)
 refine own_st st_46 ?_
 show own_Go _ _ _ _ (T_46.setTop (mkF m 57 #[rv a1] [(.int 2)]))
 refine o_aloadN X_46 Hq d20_57 rfl rfl ?_
 have Fa_47 := (Fa_22.other W_44 (Or.inr (slot_ne (Or.inl (w_ hw 64 rfl)) (Or.inl (w_ hw 57 rfl)) (by decide) (t := .int) (t' := .int) (by decide) (by decide))))
 obtain ⟨T_48, X_48, e_48, st_48⟩ := getF X_46 hx hZ hown (host := "") (Or.inl (w_ hw 63 rfl)) Via.refl e_46 Fa_47 (g := (mkF m 58 #[rv a1] [(.ref a1), (.int 2)])) rfl rfl (hb hby d20_58)
 refine own_st st_48 ?_
 show own_Go _ _ _ _ (T_48.setTop (mkF m 61 #[rv a1] [(.int 1), (.int 2)]))
 refine o_icmpNo X_48 Hq d20_61 (by decide) (o_aloadN X_48 Hq d20_64 rfl rfl ?_)
 have Fa_49 := (Fa_26.other W_44 (Or.inr (slot_ne (Or.inr (w_ hw 45 rfl)) (Or.inl (w_ hw 57 rfl)) (by decide) (t := (.object "java/lang/String")) (t' := .int) (by decide) (by decide))))
 obtain ⟨T_50, X_50, e_50, st_50⟩ := getF X_48 hx hZ hown (host := "") (Or.inl (w_ hw 44 rfl)) Via.refl e_48 Fa_49 (g := (mkF m 65 #[rv a1] [(.ref a1)])) rfl rfl (hb hby d20_65)
 refine own_st st_50 ?_
 show own_Go _ _ _ _ (T_50.setTop (mkF m 68 #[rv a1] [(.ref a2)]))
 refine o_aloadN X_50 Hq d20_68 rfl rfl ?_
 obtain ⟨T_51, X_51, e_51, st_51⟩ := getF X_50 hx hZ hown (host := "") (Or.inl (w_ hw 56 rfl)) Via.refl e_50 Fa_45 (g := (mkF m 69 #[rv a1] [(.ref a1), (.ref a2)])) rfl rfl (hb hby d20_69)
 refine own_st st_51 ?_
 show own_Go _ _ _ _ (T_51.setTop (mkF m 72 #[rv a1] [(.int 2), (.ref a2)]))
 refine o_iconst X_51 Hq 1 d20_72 rfl (o_isub X_51 Hq d20_73 ?_)
 show own_Go _ _ _ _ (T_51.setTop (mkF m 74 #[rv a1] [(.int 1), (.ref a2)]))
 have Fa_53 := (Fa_30.wr W_44)
 have Fa_54 := (Fa_31.other W_44 (Or.inl n12))
 have Fa_55 := (Fa_32.other W_44 (Or.inl n12))
 have Fa_56 := (Fa_33.other W_44 nb1)
 have Fa_57 := (Fa_34.wr W_44)
 have Fa_58 := (Fa_35.wr W_44)
 have Zs_59 : n0 ≤ h_44.size := (Nat.le_trans Zs_36 (Keep.of_wr W_44).1)
 refine c_U1 X_51 Hq e_51 hZ hown hml (k20_35U1 hw) (rm15 hw a2 (1 : Int32) b k1 (3 : Int32) vs d1 w sfv f h_44 n0 Zs_59 Fa_53 Fa_54 Fa_55 Fa_56 Fa_57 hw0 hat hf Fa_58 hsf (by decide) (by decide)) Fa_53 d20_74 ?_ 0
 rintro T_52 L_52 _ X_52 ⟨⟨⟩, Nq_52, e_52⟩
 have N_52 := Fr.app N_44 Nq_52
 refine o_bipush X_52 Hq 32 d20_77 rfl (o_icmpYes X_52 Hq (pc' := 95) d20_79 (tlt ht1).2.2.1 ?_)
 have Kp_60 : Keep h0 h_44 [a1] := ((((Keep.refl h0 [a1]).wr W_3 (Or.inl (List.mem_of_getElem? (i := 0) rfl))).wr W_21 (Or.inl (List.mem_of_getElem? (i := 0) rfl))).wr W_44 (Or.inl (List.mem_of_getElem? (i := 0) rfl)))
 exact e_V X_52 e_52 Hq hlk hrt d20_95 ⟨rfl, N_52, Kp_60, Fa_49, Fa_45, Fa_47⟩
def Q_rmtrim3_fft (Z : State) (a0 : Array Value) (a1 a2 b : Addr) (k1 : ClassId) (vs : List Value) (d1 : Value) (w : Int32) (sfv : Value) (f : Int32 → Int32) (h0 : Heap) (n0 : Nat) (v : Option Value) (h : Heap) (L : List Loc) : Prop := v = none ∧ Fr n0 L ∧ Keep h0 h [a1] ∧ Fld Z h a1 "com/example/vernum/vernum/VersionScanner" "input" "Ljava/lang/String;" (.ref a2) ∧ Fld Z h a1 "com/example/vernum/vernum/VersionScanner" "end" "I" (.int (3 : Int32)) ∧ Fld Z h a1 "com/example/vernum/vernum/VersionScanner" "position" "I" (.int (2 : Int32))
theorem rmtrim3_fft (hw : HW a0 Z) (a1 a2 b : Addr) (k1 : ClassId) (vs : List Value) (d1 : Value) (w : Int32) (sfv : Value) (f : Int32 → Int32) (h0 : Heap) (n0 : Nat) (Z0 : n0 ≤ h0.size) (E1 : Exa Z h0 a1 "com/example/vernum/vernum/VersionScanner") (g1 : n0 ≤ a1) (F1 : Fld Z h0 a1 "com/example/vernum/vernum/VersionScanner" "input" "Ljava/lang/String;" (.ref a2)) (F2 : Fld Z h0 a1 "com/example/vernum/vernum/VersionScanner" "end" "I" (.int (3 : Int32))) (F3 : Fld Z h0 a1 "com/example/vernum/vernum/VersionScanner" "position" "I" (.int (0 : Int32))) (F4 : Fld Z h0 a1 "com/example/vernum/vernum/VersionScanner" "peeked" "I" (.int (0 : Int32))) (n12 : a2 ≠ a1) (nb1 : b ≠ a1) (E_s : Exa Z h0 a2 "java/lang/String") (F_v : Fld Z h0 a2 "java/lang/String" "value" "[B" (.ref b)) (F_c : Fld Z h0 a2 "java/lang/String" "coder" "B" (.int (0 : Int32))) (V_s : Arv Z h0 b k1 .byte (3 : Int32) vs d1) (S1 : Sta Z h0 "java/lang/String" "COMPACT_STRINGS" "Z" (.int w)) (hw0 : ¬ w = (0 : Int32)) (hat : ∀ i : Int32, ¬ i < 0 → i < (3 : Int32) → vs.getD i.toNatClampNeg d1 = .int (((f i).toInt8.toInt32).toInt8.toInt32)) (hf : ∀ i : Int32, ¬ (255 : Int32) < f i ∧ ¬ f i < 0) (S2 : Sta Z h0 "jdk/internal/util/Preconditions" "SIOOBE_FORMATTER" "Ljava/util/function/BiFunction;" sfv) (hsf : sfv.isRef = true) (ht0 : ¬ (32 : Int32) < f (0 : Int32)) (ht1 : ¬ (32 : Int32) < f (1 : Int32)) (ht2 : (32 : Int32) < f (2 : Int32)) :
  own_Met l y0_ prog_24_method_4_code 1 none (R_ 4 0 0 53) #[(.ref a1)] Z h0 (Q_rmtrim3_fft Z a0 a1 a2 b k1 vs d1 w sfv f h0 n0) := by
 refine own_bd (own := "com/example/vernum/vernum/VersionScanner") rfl (plainFor_of_name pn_9) #[rv a1] ?_
 intro p e s m below meth c s₁ hx hby Hq hml hown hnm hlk hrt hZ X0 e0
 refine o_aloadN X0 Hq d20_0 rfl rfl (o_aloadN X0 Hq d20_1 rfl rfl ?_)
 obtain ⟨T_1, X_1, e_1, st_1⟩ := getF X0 hx hZ hown (host := "") (Or.inl (w_ hw 44 rfl)) Via.refl e0 F1 (g := (mkF m 2 #[rv a1] [(.ref a1), (.ref a1)])) rfl rfl (hb hby d20_2)
 refine own_st st_1 ?_
 show own_Go _ _ _ _ (T_1.setTop (mkF m 5 #[rv a1] [(.ref a2), (.ref a1)]))
 refine c_U0 X_1 Hq e_1 hZ hown hml (k20_13U1 hw) (rmlenN hw a2 b k1 (3 : Int32) vs d1 w h0 n0 Z0 E_s F_v F_c V_s S1 hw0) E_s d20_5 ?_ 1
 rintro T_2 L_2 _ X_2 ⟨⟨⟩, Nq_2, e_2⟩
 have N_2 := Fr.app (Fr.nil n0) Nq_2
 refine o_iconst X_2 Hq 1 d20_8 rfl (o_iadd X_2 Hq d20_9 ?_)
 show own_Go _ _ _ _ (T_2.setTop (mkF m 10 #[rv a1] [(.int 4), (.ref a1)]))
 obtain ⟨T_3, h_3, X_3, e_3, W_3, st_3⟩ := putF X_2 hx hZ hown (host := "") (Or.inl (w_ hw 103 rfl)) Via.refl e_2 F4 E1 (Or.inl (w_ hw 104 rfl)) (w_ hw 38 rfl) (ty := .int) (by decide) rfl rfl (g := (mkF m 10 #[rv a1] [(.int 4), (.ref a1)])) rfl rfl (hb hby d20_10)
 refine own_st st_3 ?_
 have N_3 := Fr.snoc X_3 N_2 g1
 show own_Go _ _ _ _ (T_3.setTop (mkF m 13 #[rv a1] []))
 refine o_aloadN X_3 Hq d20_13 rfl rfl ?_
 have Fa_4 := (F3.other W_3 (Or.inr (slot_ne (Or.inl (w_ hw 64 rfl)) (Or.inl (w_ hw 104 rfl)) (by decide) (t := .int) (t' := .int) (by decide) (by decide))))
 obtain ⟨T_5, X_5, e_5, st_5⟩ := getF X_3 hx hZ hown (host := "") (Or.inl (w_ hw 63 rfl)) Via.refl e_3 Fa_4 (g := (mkF m 14 #[rv a1] [(.ref a1)])) rfl rfl (hb hby d20_14)
 refine own_st st_5 ?_
 show own_Go _ _ _ _ (T_5.setTop (mkF m 17 #[rv a1] [(.int 0)]))
 refine o_aloadN X_5 Hq d20_17 rfl rfl ?_
 have Fa_6 := (F2.other W_3 (Or.inr (slot_ne (Or.inl (w_ hw 57 rfl)) (Or.inl (w_ hw 104 rfl)) (by decide) (t := .int) (t' := .int) (by decide) (by decide))))
 obtain ⟨T_7, X_7, e_7, st_7⟩ := getF X_5 hx hZ hown (host := "") (Or.inl (w_ hw 56 rfl)) Via.refl e_5 Fa_6 (g := (mkF m 18 #[rv a1] [(.ref a1), (.int 0)])) rfl rfl (hb hby d20_18)
 refine own_st st_7 ?_
 show own_Go _ _ _ _ (T_7.setTop (mkF m 21 #[rv a1] [(.int 3), (.int 0)]))
 refine o_icmpNo X_7 Hq d20_21 (by decide) (o_aloadN X_7 Hq d20_24 rfl rfl ?_)
 have Fa_8 := (F1.other W_3 (Or.inr (slot_ne (Or.inr (w_ hw 45 rfl)) (Or.inl (w_ hw 104 rfl)) (by decide) (t := (.object "java/lang/String")) (t' := .int) (by decide) (by decide))))
 obtain ⟨T_9, X_9, e_9, st_9⟩ := getF X_7 hx hZ hown (host := "") (Or.inl (w_ hw 44 rfl)) Via.refl e_7 Fa_8 (g := (mkF m 25 #[rv a1] [(.ref a1)])) rfl rfl (hb hby d20_25)
 refine own_st st_9 ?_
 show own_Go _ _ _ _ (T_9.setTop (mkF m 28 #[rv a1] [(.ref a2)]))
 refine o_aloadN X_9 Hq d20_28 rfl rfl ?_
 obtain ⟨T_10, X_10, e_10, st_10⟩ := getF X_9 hx hZ hown (host := "") (Or.inl (w_ hw 63 rfl)) Via.refl e_9 Fa_4 (g := (mkF m 29 #[rv a1] [(.ref a1), (.ref a2)])) rfl rfl (hb hby d20_29)
 refine own_st st_10 ?_
 show own_Go _ _ _ _ (T_10.setTop (mkF m 32 #[rv a1] [(.int 0), (.ref a2)]))
 have Fa_12 := (E_s.wr W_3)
 have Fa_13 := (F_v.other W_3 (Or.inl n12))
 have Fa_14 := (F_c.other W_3 (Or.inl n12))
 have Fa_15 := (V_s.other W_3 nb1)
 have Fa_16 := (S1.wr W_3)
 have Fa_17 := (S2.wr W_3)
 have Zs_18 : n0 ≤ h_3.size := (Nat.le_trans Z0 (Keep.of_wr W_3).1)
 refine c_U1 X_10 Hq e_10 hZ hown hml (k20_35U1 hw) (rm15 hw a2 (0 : Int32) b k1 (3 : Int32) vs d1 w sfv f h_3 n0 Zs_18 Fa_12 Fa_13 Fa_14 Fa_15 Fa_16 hw0 hat hf Fa_17 hsf (by decide) (by decide)) Fa_12 d20_32 ?_ 0
 rintro T_11 L_11 _ X_11 ⟨⟨⟩, Nq_11, e_11⟩
 have N_11 := Fr.app N_3 Nq_11
 refine o_bipush X_11 Hq 32 d20_35 rfl (o_icmpNo X_11 Hq d20_37 (flt ht0).2.2.1 (o_aloadN X_11 Hq d20_40 rfl rfl (o_dup X_11 Hq d20_41 rfl ?_)))
 obtain ⟨T_19, X_19, e_19, st_19⟩ := getF X_11 hx hZ hown (host := "") (Or.inl (w_ hw 63 rfl)) Via.refl e_11 Fa_4 (g := (mkF m 42 #[rv a1] [(.ref a1), (.ref a1)])) rfl rfl (hb hby d20_42)
 refine own_st st_19 ?_
 show own_Go _ _ _ _ (T_19.setTop (mkF m 45 #[rv a1] [(.int 0), (.ref a1)]))
 refine o_iconst X_19 Hq 1 d20_45 rfl (o_iadd X_19 Hq d20_46 ?_)
 show own_Go _ _ _ _ (T_19.setTop (mkF m 47 #[rv a1] [(.int 1), (.ref a1)]))
 have Fa_20 := (E1.wr W_3)
 obtain ⟨T_21, h_21, X_21, e_21, W_21, st_21⟩ := putF X_19 hx hZ hown (host := "") (Or.inl (w_ hw 63 rfl)) Via.refl e_19 Fa_4 Fa_20 (Or.inl (w_ hw 64 rfl)) (w_ hw 38 rfl) (ty := .int) (by decide) rfl rfl (g := (mkF m 47 #[rv a1] [(.int 1), (.ref a1)])) rfl rfl (hb hby d20_47)
 refine own_st st_21 ?_
 have N_21 := Fr.snoc X_21 N_11 g1
 show own_Go _ _ _ _ (T_21.setTop (mkF m 50 #[rv a1] []))
 refine o_goto X_21 Hq (pc' := 13) d20_50 (o_aloadN X_21 Hq d20_13 rfl rfl ?_)
 have Fa_22 := (Fa_4.same W_21)
 obtain ⟨T_23, X_23, e_23, st_23⟩ := getF X_21 hx hZ hown (host := "") (Or.inl (w_ hw 63 rfl)) Via.refl e_21 Fa_22 (g := (mkF m 14 #[rv a1] [(.ref a1)])) rfl rfl (hb hby d20_14)
 refine own_st st_23 ?_
 show own_Go _ _ _ _ (T_23.setTop (mkF m 17 #[rv a1] [(.int 1)]))
 refine o_aloadN X_23 Hq d20_17 rfl rfl ?_
 have Fa_24 := (Fa_6.other W_21 (Or.inr (slot_ne (Or.inl (w_ hw 57 rfl)) (Or.inl (w_ hw 64 rfl)) (by decide) (t := .int) (t' := .int) (by decide) (by decide))))
 obtain ⟨T_25, X_25, e_25, st_25⟩ := getF X_23 hx hZ hown (host := "") (Or.inl (w_ hw 56 rfl)) Via.refl e_23 Fa_24 (g := (mkF m 18 #[rv a1] [(.ref a1), (.int 1)])) rfl rfl (hb hby d20_18)
 refine own_st st_25 ?_
 show own_Go _ _ _ _ (T_25.setTop (mkF m 21 #[rv a1] [(.int 3), (.int 1)]))
 refine o_icmpNo X_25 Hq d20_21 (by decide) (o_aloadN X_25 Hq d20_24 rfl rfl ?_)
 have Fa_26 := (Fa_8.other W_21 (Or.inr (slot_ne (Or.inr (w_ hw 45 rfl)) (Or.inl (w_ hw 64 rfl)) (by decide) (t := (.object "java/lang/String")) (t' := .int) (by decide) (by decide))))
 obtain ⟨T_27, X_27, e_27, st_27⟩ := getF X_25 hx hZ hown (host := "") (Or.inl (w_ hw 44 rfl)) Via.refl e_25 Fa_26 (g := (mkF m 25 #[rv a1] [(.ref a1)])) rfl rfl (hb hby d20_25)
 refine own_st st_27 ?_
 show own_Go _ _ _ _ (T_27.setTop (mkF m 28 #[rv a1] [(.ref a2)]))
 refine o_aloadN X_27 Hq d20_28 rfl rfl ?_
 obtain ⟨T_28, X_28, e_28, st_28⟩ := getF X_27 hx hZ hown (host := "") (Or.inl (w_ hw 63 rfl)) Via.refl e_27 Fa_22 (g := (mkF m 29 #[rv a1] [(.ref a1), (.ref a2)])) rfl rfl (hb hby d20_29)
 refine own_st st_28 ?_
 show own_Go _ _ _ _ (T_28.setTop (mkF m 32 #[rv a1] [(.int 1), (.ref a2)]))
 have Fa_30 := (Fa_12.wr W_21)
 have Fa_31 := (Fa_13.other W_21 (Or.inl n12))
 have Fa_32 := (Fa_14.other W_21 (Or.inl n12))
 have Fa_33 := (Fa_15.other W_21 nb1)
 have Fa_34 := (Fa_16.wr W_21)
 have Fa_35 := (Fa_17.wr W_21)
 have Zs_36 : n0 ≤ h_21.size := (Nat.le_trans Zs_18 (Keep.of_wr W_21).1)
 refine c_U1 X_28 Hq e_28 hZ hown hml (k20_35U1 hw) (rm15 hw a2 (1 : Int32) b k1 (3 : Int32) vs d1 w sfv f h_21 n0 Zs_36 Fa_30 Fa_31 Fa_32 Fa_33 Fa_34 hw0 hat hf Fa_35 hsf (by decide) (by decide)) Fa_30 d20_32 ?_ 0
 rintro T_29 L_29 _ X_29 ⟨⟨⟩, Nq_29, e_29⟩
 have N_29 := Fr.app N_21 Nq_29
 refine o_bipush X_29 Hq 32 d20_35 rfl (o_icmpNo X_29 Hq d20_37 (flt ht1).2.2.1 (o_aloadN X_29 Hq d20_40 rfl rfl (o_dup X_29 Hq d20_41 rfl ?_)))
 obtain ⟨T_37, X_37, e_37, st_37⟩ := getF X_29 hx hZ hown (host := "") (Or.inl (w_ hw 63 rfl)) Via.refl e_29 Fa_22 (g := (mkF m 42 #[rv a1] [(.ref a1), (.ref a1)])) rfl rfl (hb hby d20_42)
 refine own_st st_37 ?_
 show own_Go _ _ _ _ (T_37.setTop (mkF m 45 #[rv a1] [(.int 1), (.ref a1)]))
 refine o_iconst X_37 Hq 1 d20_45 rfl (o_iadd X_37 Hq d20_46 ?_)
 show own_Go _ _ _ _ (T_37.setTop (mkF m 47 #[rv a1] [(.int 2), (.ref a1)]))
 have Fa_38 := (Fa_20.wr W_21)
 obtain ⟨T_39, h_39, X_39, e_39, W_39, st_39⟩ := putF X_37 hx hZ hown (host := "") (Or.inl (w_ hw 63 rfl)) Via.refl e_37 Fa_22 Fa_38 (Or.inl (w_ hw 64 rfl)) (w_ hw 38 rfl) (ty := .int) (by decide) rfl rfl (g := (mkF m 47 #[rv a1] [(.int 2), (.ref a1)])) rfl rfl (hb hby d20_47)
 refine own_st st_39 ?_
 have N_39 := Fr.snoc X_39 N_29 g1
 show own_Go _ _ _ _ (T_39.setTop (mkF m 50 #[rv a1] []))
 refine o_goto X_39 Hq (pc' := 13) d20_50 (o_aloadN X_39 Hq d20_13 rfl rfl ?_)
 have Fa_40 := (Fa_22.same W_39)
 obtain ⟨T_41, X_41, e_41, st_41⟩ := getF X_39 hx hZ hown (host := "") (Or.inl (w_ hw 63 rfl)) Via.refl e_39 Fa_40 (g := (mkF m 14 #[rv a1] [(.ref a1)])) rfl rfl (hb hby d20_14)
 refine own_st st_41 ?_
 show own_Go _ _ _ _ (T_41.setTop (mkF m 17 #[rv a1] [(.int 2)]))
 refine o_aloadN X_41 Hq d20_17 rfl rfl ?_
 have Fa_42 := (Fa_24.other W_39 (Or.inr (slot_ne (Or.inl (w_ hw 57 rfl)) (Or.inl (w_ hw 64 rfl)) (by decide) (t := .int) (t' := .int) (by decide) (by decide))))
 obtain ⟨T_43, X_43, e_43, st_43⟩ := getF X_41 hx hZ hown (host := "") (Or.inl (w_ hw 56 rfl)) Via.refl e_41 Fa_42 (g := (mkF m 18 #[rv a1] [(.ref a1), (.int 2)])) rfl rfl (hb hby d20_18)
 refine own_st st_43 ?_
 show own_Go _ _ _ _ (T_43.setTop (mkF m 21 #[rv a1] [(.int 3), (.int 2)]))
 refine o_icmpNo X_43 Hq d20_21 (by decide) (o_aloadN X_43 Hq d20_24 rfl rfl ?_)
 have Fa_44 := (Fa_26.other W_39 (Or.inr (slot_ne (Or.inr (w_ hw 45 rfl)) (Or.inl (w_ hw 64 rfl)) (by decide) (t := (.object "java/lang/String")) (t' := .int) (by decide) (by decide))))
 obtain ⟨T_45, X_45, e_45, st_45⟩ := getF X_43 hx hZ hown (host := "") (Or.inl (w_ hw 44 rfl)) Via.refl e_43 Fa_44 (g := (mkF m 25 #[rv a1] [(.ref a1)])) rfl rfl (hb hby d20_25)
 refine own_st st_45 ?_
 show own_Go _ _ _ _ (T_45.setTop (mkF m 28 #[rv a1] [(.ref a2)]))
 refine o_aloadN X_45 Hq d20_28 rfl rfl ?_
 obtain ⟨T_46, X_46, e_46, st_46⟩ := getF X_45 hx hZ hown (host := "") (Or.inl (w_ hw 63 rfl)) Via.refl e_45 Fa_40 (g := (mkF m 29 #[rv a1] [(.ref a1), (.ref a2)])) rfl rfl (hb hby d20_29)
 refine own_st st_46 ?_
 show own_Go _ _ _ _ (T_46.setTop (mkF m 32 #[rv a1] [(.int 2), (.ref a2)]))
 have Fa_48 := (Fa_30.wr W_39)
 have Fa_49 := (Fa_31.other W_39 (Or.inl n12))
 have Fa_50 := (Fa_32.other W_39 (Or.inl n12))
 have Fa_51 := (Fa_33.other W_39 nb1)
 have Fa_52 := (Fa_34.wr W_39)
 have Fa_53 := (Fa_35.wr W_39)
 have Zs_54 : n0 ≤ h_39.size := (Nat.le_trans Zs_36 (Keep.of_wr W_39).1)
 refine c_U1 X_46 Hq e_46 hZ hown hml (k20_35U1 hw) (rm15 hw a2 (2 : Int32) b k1 (3 : Int32) vs d1 w sfv f h_39 n0 Zs_54 Fa_48 Fa_49 Fa_50 Fa_51 Fa_52 hw0 hat hf Fa_53 hsf (by decide) (by decide)) Fa_48 d20_32 ?_ 0
 rintro T_47 L_47 _ X_47 ⟨⟨⟩, Nq_47, e_47⟩
 have N_47 := Fr.app N_39 Nq_47
 refine o_bipush X_47 Hq 32 d20_35 rfl (o_icmpYes X_47 Hq (pc' := 53) d20_37 (tlt ht2).2.2.1 (o_aloadN X_47 Hq d20_53 rfl rfl ?_))
 obtain ⟨T_55, X_55, e_55, st_55⟩ := getF X_47 hx hZ hown (host := "") (Or.inl (w_ hw 56 rfl)) Via.refl e_47 Fa_42 (g := (mkF m 54 #[rv a1] [(.ref a1)])) rfl rfl (hb hby d20_54)
 refine own_st st_55 ?_
 show own_Go _ _ _ _ (T_55.setTop (mkF m 57 #[rv a1] [(.int 3)]))
 refine o_aloadN X_55 Hq d20_57 rfl rfl ?_
 obtain ⟨T_56, X_56, e_56, st_56⟩ := getF X_55 hx hZ hown (host := "") (Or.inl (w_ hw 63 rfl)) Via.refl e_55 Fa_40 (g := (mkF m 58 #[rv a1] [(.ref a1), (.int 3)])) rfl rfl (hb hby d20_58)
 refine own_st st_56 ?_
 show own_Go _ _ _ _ (T_56.setTop (mkF m 61 #[rv a1] [(.int 2), (.int 3)]))
 refine o_icmpNo X_56 Hq d20_61 (by decide) (o_aloadN X_56 Hq d20_64 rfl rfl ?_)
 obtain ⟨T_57, X_57, e_57, st_57⟩ := getF X_56 hx hZ hown (host := "") (Or.inl (w_ hw 44 rfl)) Via.refl e_56 Fa_44 (g := (mkF m 65 #[rv a1] [(.ref a1)])) rfl rfl (hb hby d20_65)
 refine own_st st_57 ?_
 show own_Go _ _ _ _ (T_57.setTop (mkF m 68 #[rv a1] [(.ref a2)]))
 refine o_aloadN X_57 Hq d20_68 rfl rfl ?_
 obtain ⟨T_58, X_58, e_58, st_58⟩ := getF X_57 hx hZ hown (host := "") (Or.inl (w_ hw 56 rfl)) Via.refl e_57 Fa_42 (g := (mkF m 69 #[rv a1] [(.ref a1), (.ref a2)])) rfl rfl (hb hby d20_69)
 refine own_st st_58 ?_
 show own_Go _ _ _ _ (T_58.setTop (mkF m 72 #[rv a1] [(.int 3), (.ref a2)]))
 refine o_iconst X_58 Hq 1 d20_72 rfl (o_isub X_58 Hq d20_73 ?_)
 show own_Go _ _ _ _ (T_58.setTop (mkF m 74 #[rv a1] [(.int 2), (.ref a2)]))
 refine c_U1 X_58 Hq e_58 hZ hown hml (k20_35U1 hw) (rm15 hw a2 (2 : Int32) b k1 (3 : Int32) vs d1 w sfv f h_39 n0 Zs_54 Fa_48 Fa_49 Fa_50 Fa_51 Fa_52 hw0 hat hf Fa_53 hsf (by decide) (by decide)) Fa_48 d20_74 ?_ 0
 rintro T_59 L_59 _ X_59 ⟨⟨⟩, Nq_59, e_59⟩
 have N_59 := Fr.app N_47 Nq_59
 refine o_bipush X_59 Hq 32 d20_77 rfl (o_icmpYes X_59 Hq (pc' := 95) d20_79 (tlt ht2).2.2.1 ?_)
 have Kp_60 : Keep h0 h_39 [a1] := ((((Keep.refl h0 [a1]).wr W_3 (Or.inl (List.mem_of_getElem? (i := 0) rfl))).wr W_21 (Or.inl (List.mem_of_getElem? (i := 0) rfl))).wr W_39 (Or.inl (List.mem_of_getElem? (i := 0) rfl)))
 exact e_V X_59 e_59 Hq hlk hrt d20_95 ⟨rfl, N_59, Kp_60, Fa_44, Fa_42, Fa_40⟩
def Q_rmtrim3_fff (Z : State) (a0 : Array Value) (a1 a2 b : Addr) (k1 : ClassId) (vs : List Value) (d1 : Value) (w : Int32) (sfv : Value) (f : Int32 → Int32) (h0 : Heap) (n0 : Nat) (v : Option Value) (h : Heap) (L : List Loc) : Prop := v = none ∧ Fr n0 L ∧ Keep h0 h [a1] ∧ Fld Z h a1 "com/example/vernum/vernum/VersionScanner" "input" "Ljava/lang/String;" (.ref a2) ∧ Fld Z h a1 "com/example/vernum/vernum/VersionScanner" "end" "I" (.int (3 : Int32)) ∧ Fld Z h a1 "com/example/vernum/vernum/VersionScanner" "position" "I" (.int (3 : Int32))
theorem rmtrim3_fff (hw : HW a0 Z) (a1 a2 b : Addr) (k1 : ClassId) (vs : List Value) (d1 : Value) (w : Int32) (sfv : Value) (f : Int32 → Int32) (h0 : Heap) (n0 : Nat) (Z0 : n0 ≤ h0.size) (E1 : Exa Z h0 a1 "com/example/vernum/vernum/VersionScanner") (g1 : n0 ≤ a1) (F1 : Fld Z h0 a1 "com/example/vernum/vernum/VersionScanner" "input" "Ljava/lang/String;" (.ref a2)) (F2 : Fld Z h0 a1 "com/example/vernum/vernum/VersionScanner" "end" "I" (.int (3 : Int32))) (F3 : Fld Z h0 a1 "com/example/vernum/vernum/VersionScanner" "position" "I" (.int (0 : Int32))) (F4 : Fld Z h0 a1 "com/example/vernum/vernum/VersionScanner" "peeked" "I" (.int (0 : Int32))) (n12 : a2 ≠ a1) (nb1 : b ≠ a1) (E_s : Exa Z h0 a2 "java/lang/String") (F_v : Fld Z h0 a2 "java/lang/String" "value" "[B" (.ref b)) (F_c : Fld Z h0 a2 "java/lang/String" "coder" "B" (.int (0 : Int32))) (V_s : Arv Z h0 b k1 .byte (3 : Int32) vs d1) (S1 : Sta Z h0 "java/lang/String" "COMPACT_STRINGS" "Z" (.int w)) (hw0 : ¬ w = (0 : Int32)) (hat : ∀ i : Int32, ¬ i < 0 → i < (3 : Int32) → vs.getD i.toNatClampNeg d1 = .int (((f i).toInt8.toInt32).toInt8.toInt32)) (hf : ∀ i : Int32, ¬ (255 : Int32) < f i ∧ ¬ f i < 0) (S2 : Sta Z h0 "jdk/internal/util/Preconditions" "SIOOBE_FORMATTER" "Ljava/util/function/BiFunction;" sfv) (hsf : sfv.isRef = true) (ht0 : ¬ (32 : Int32) < f (0 : Int32)) (ht1 : ¬ (32 : Int32) < f (1 : Int32)) (ht2 : ¬ (32 : Int32) < f (2 : Int32)) :
  own_Met l y0_ prog_24_method_4_code 1 none (R_ 4 0 0 53) #[(.ref a1)] Z h0 (Q_rmtrim3_fff Z a0 a1 a2 b k1 vs d1 w sfv f h0 n0) := by
 refine own_bd (own := "com/example/vernum/vernum/VersionScanner") rfl (plainFor_of_name pn_9) #[rv a1] ?_
 intro p e s m below meth c s₁ hx hby Hq hml hown hnm hlk hrt hZ X0 e0
 refine o_aloadN X0 Hq d20_0 rfl rfl (o_aloadN X0 Hq d20_1 rfl rfl ?_)
 obtain ⟨T_1, X_1, e_1, st_1⟩ := getF X0 hx hZ hown (host := "") (Or.inl (w_ hw 44 rfl)) Via.refl e0 F1 (g := (mkF m 2 #[rv a1] [(.ref a1), (.ref a1)])) rfl rfl (hb hby d20_2)
 refine own_st st_1 ?_
 show own_Go _ _ _ _ (T_1.setTop (mkF m 5 #[rv a1] [(.ref a2), (.ref a1)]))
 refine c_U0 X_1 Hq e_1 hZ hown hml (k20_13U1 hw) (rmlenN hw a2 b k1 (3 : Int32) vs d1 w h0 n0 Z0 E_s F_v F_c V_s S1 hw0) E_s d20_5 ?_ 1
 rintro T_2 L_2 _ X_2 ⟨⟨⟩, Nq_2, e_2⟩
 have N_2 := Fr.app (Fr.nil n0) Nq_2
 refine o_iconst X_2 Hq 1 d20_8 rfl (o_iadd X_2 Hq d20_9 ?_)
 show own_Go _ _ _ _ (T_2.setTop (mkF m 10 #[rv a1] [(.int 4), (.ref a1)]))
 obtain ⟨T_3, h_3, X_3, e_3, W_3, st_3⟩ := putF X_2 hx hZ hown (host := "") (Or.inl (w_ hw 103 rfl)) Via.refl e_2 F4 E1 (Or.inl (w_ hw 104 rfl)) (w_ hw 38 rfl) (ty := .int) (by decide) rfl rfl (g := (mkF m 10 #[rv a1] [(.int 4), (.ref a1)])) rfl rfl (hb hby d20_10)
 refine own_st st_3 ?_
 have N_3 := Fr.snoc X_3 N_2 g1
 show own_Go _ _ _ _ (T_3.setTop (mkF m 13 #[rv a1] []))
 refine o_aloadN X_3 Hq d20_13 rfl rfl ?_
 have Fa_4 := (F3.other W_3 (Or.inr (slot_ne (Or.inl (w_ hw 64 rfl)) (Or.inl (w_ hw 104 rfl)) (by decide) (t := .int) (t' := .int) (by decide) (by decide))))
 obtain ⟨T_5, X_5, e_5, st_5⟩ := getF X_3 hx hZ hown (host := "") (Or.inl (w_ hw 63 rfl)) Via.refl e_3 Fa_4 (g := (mkF m 14 #[rv a1] [(.ref a1)])) rfl rfl (hb hby d20_14)
 refine own_st st_5 ?_
 show own_Go _ _ _ _ (T_5.setTop (mkF m 17 #[rv a1] [(.int 0)]))
 refine o_aloadN X_5 Hq d20_17 rfl rfl ?_
 have Fa_6 := (F2.other W_3 (Or.inr (slot_ne (Or.inl (w_ hw 57 rfl)) (Or.inl (w_ hw 104 rfl)) (by decide) (t := .int) (t' := .int) (by decide) (by decide))))
 obtain ⟨T_7, X_7, e_7, st_7⟩ := getF X_5 hx hZ hown (host := "") (Or.inl (w_ hw 56 rfl)) Via.refl e_5 Fa_6 (g := (mkF m 18 #[rv a1] [(.ref a1), (.int 0)])) rfl rfl (hb hby d20_18)
 refine own_st st_7 ?_
 show own_Go _ _ _ _ (T_7.setTop (mkF m 21 #[rv a1] [(.int 3), (.int 0)]))
 refine o_icmpNo X_7 Hq d20_21 (by decide) (o_aloadN X_7 Hq d20_24 rfl rfl ?_)
 have Fa_8 := (F1.other W_3 (Or.inr (slot_ne (Or.inr (w_ hw 45 rfl)) (Or.inl (w_ hw 104 rfl)) (by decide) (t := (.object "java/lang/String")) (t' := .int) (by decide) (by decide))))
 obtain ⟨T_9, X_9, e_9, st_9⟩ := getF X_7 hx hZ hown (host := "") (Or.inl (w_ hw 44 rfl)) Via.refl e_7 Fa_8 (g := (mkF m 25 #[rv a1] [(.ref a1)])) rfl rfl (hb hby d20_25)
 refine own_st st_9 ?_
 show own_Go _ _ _ _ (T_9.setTop (mkF m 28 #[rv a1] [(.ref a2)]))
 refine o_aloadN X_9 Hq d20_28 rfl rfl ?_
 obtain ⟨T_10, X_10, e_10, st_10⟩ := getF X_9 hx hZ hown (host := "") (Or.inl (w_ hw 63 rfl)) Via.refl e_9 Fa_4 (g := (mkF m 29 #[rv a1] [(.ref a1), (.ref a2)])) rfl rfl (hb hby d20_29)
 refine own_st st_10 ?_
 show own_Go _ _ _ _ (T_10.setTop (mkF m 32 #[rv a1] [(.int 0), (.ref a2)]))
 have Fa_12 := (E_s.wr W_3)
 have Fa_13 := (F_v.other W_3 (Or.inl n12))
 have Fa_14 := (F_c.other W_3 (Or.inl n12))
 have Fa_15 := (V_s.other W_3 nb1)
 have Fa_16 := (S1.wr W_3)
 have Fa_17 := (S2.wr W_3)
 have Zs_18 : n0 ≤ h_3.size := (Nat.le_trans Z0 (Keep.of_wr W_3).1)
 refine c_U1 X_10 Hq e_10 hZ hown hml (k20_35U1 hw) (rm15 hw a2 (0 : Int32) b k1 (3 : Int32) vs d1 w sfv f h_3 n0 Zs_18 Fa_12 Fa_13 Fa_14 Fa_15 Fa_16 hw0 hat hf Fa_17 hsf (by decide) (by decide)) Fa_12 d20_32 ?_ 0
 rintro T_11 L_11 _ X_11 ⟨⟨⟩, Nq_11, e_11⟩
 have N_11 := Fr.app N_3 Nq_11
 refine o_bipush X_11 Hq 32 d20_35 rfl (o_icmpNo X_11 Hq d20_37 (flt ht0).2.2.1 (o_aloadN X_11 Hq d20_40 rfl rfl (o_dup X_11 Hq d20_41 rfl ?_)))
 obtain ⟨T_19, X_19, e_19, st_19⟩ := getF X_11 hx hZ hown (host := "") (Or.inl (w_ hw 63 rfl)) Via.refl e_11 Fa_4 (g := (mkF m 42 #[rv a1] [(.ref a1), (.ref a1)])) rfl rfl (hb hby d20_42)
 refine own_st st_19 ?_
 show own_Go _ _ _ _ (T_19.setTop (mkF m 45 #[rv a1] [(.int 0), (.ref a1)]))
 refine o_iconst X_19 Hq 1 d20_45 rfl (o_iadd X_19 Hq d20_46 ?_)
 show own_Go _ _ _ _ (T_19.setTop (mkF m 47 #[rv a1] [(.int 1), (.ref a1)]))
 have Fa_20 := (E1.wr W_3)
 obtain ⟨T_21, h_21, X_21, e_21, W_21, st_21⟩ := putF X_19 hx hZ hown (host := "") (Or.inl (w_ hw 63 rfl)) Via.refl e_19 Fa_4 Fa_20 (Or.inl (w_ hw 64 rfl)) (w_ hw 38 rfl) (ty := .int) (by decide) rfl rfl (g := (mkF m 47 #[rv a1] [(.int 1), (.ref a1)])) rfl rfl (hb hby d20_47)
 refine own_st st_21 ?_
 have N_21 := Fr.snoc X_21 N_11 g1
 show own_Go _ _ _ _ (T_21.setTop (mkF m 50 #[rv a1] []))
 refine o_goto X_21 Hq (pc' := 13) d20_50 (o_aloadN X_21 Hq d20_13 rfl rfl ?_)
 have Fa_22 := (Fa_4.same W_21)
 obtain ⟨T_23, X_23, e_23, st_23⟩ := getF X_21 hx hZ hown (host := "") (Or.inl (w_ hw 63 rfl)) Via.refl e_21 Fa_22 (g := (mkF m 14 #[rv a1] [(.ref a1)])) rfl rfl (hb hby d20_14)
 refine own_st st_23 ?_
 show own_Go _ _ _ _ (T_23.setTop (mkF m 17 #[rv a1] [(.int 1)]))
 refine o_aloadN X_23 Hq d20_17 rfl rfl ?_
 have Fa_24 := (Fa_6.other W_21 (Or.inr (slot_ne (Or.inl (w_ hw 57 rfl)) (Or.inl (w_ hw 64 rfl)) (by decide) (t := .int) (t' := .int) (by decide) (by decide))))
 obtain ⟨T_25, X_25, e_25, st_25⟩ := getF X_23 hx hZ hown (host := "") (Or.inl (w_ hw 56 rfl)) Via.refl e_23 Fa_24 (g := (mkF m 18 #[rv a1] [(.ref a1), (.int 1)])) rfl rfl (hb hby d20_18)
 refine own_st st_25 ?_
 show own_Go _ _ _ _ (T_25.setTop (mkF m 21 #[rv a1] [(.int 3), (.int 1)]))
 refine o_icmpNo X_25 Hq d20_21 (by decide) (o_aloadN X_25 Hq d20_24 rfl rfl ?_)
 have Fa_26 := (Fa_8.other W_21 (Or.inr (slot_ne (Or.inr (w_ hw 45 rfl)) (Or.inl (w_ hw 64 rfl)) (by decide) (t := (.object "java/lang/String")) (t' := .int) (by decide) (by decide))))
 obtain ⟨T_27, X_27, e_27, st_27⟩ := getF X_25 hx hZ hown (host := "") (Or.inl (w_ hw 44 rfl)) Via.refl e_25 Fa_26 (g := (mkF m 25 #[rv a1] [(.ref a1)])) rfl rfl (hb hby d20_25)
 refine own_st st_27 ?_
 show own_Go _ _ _ _ (T_27.setTop (mkF m 28 #[rv a1] [(.ref a2)]))
 refine o_aloadN X_27 Hq d20_28 rfl rfl ?_
 obtain ⟨T_28, X_28, e_28, st_28⟩ := getF X_27 hx hZ hown (host := "") (Or.inl (w_ hw 63 rfl)) Via.refl e_27 Fa_22 (g := (mkF m 29 #[rv a1] [(.ref a1), (.ref a2)])) rfl rfl (hb hby d20_29)
 refine own_st st_28 ?_
 show own_Go _ _ _ _ (T_28.setTop (mkF m 32 #[rv a1] [(.int 1), (.ref a2)]))
 have Fa_30 := (Fa_12.wr W_21)
 have Fa_31 := (Fa_13.other W_21 (Or.inl n12))
 have Fa_32 := (Fa_14.other W_21 (Or.inl n12))
 have Fa_33 := (Fa_15.other W_21 nb1)
 have Fa_34 := (Fa_16.wr W_21)
 have Fa_35 := (Fa_17.wr W_21)
 have Zs_36 : n0 ≤ h_21.size := (Nat.le_trans Zs_18 (Keep.of_wr W_21).1)
 refine c_U1 X_28 Hq e_28 hZ hown hml (k20_35U1 hw) (rm15 hw a2 (1 : Int32) b k1 (3 : Int32) vs d1 w sfv f h_21 n0 Zs_36 Fa_30 Fa_31 Fa_32 Fa_33 Fa_34 hw0 hat hf Fa_35 hsf (by decide) (by decide)) Fa_30 d20_32 ?_ 0
 rintro T_29 L_29 _ X_29 ⟨⟨⟩, Nq_29, e_29⟩
 have N_29 := Fr.app N_21 Nq_29
 refine o_bipush X_29 Hq 32 d20_35 rfl (o_icmpNo X_29 Hq d20_37 (flt ht1).2.2.1 (o_aloadN X_29 Hq d20_40 rfl rfl (o_dup X_29 Hq d20_41 rfl ?_)))
 obtain ⟨T_37, X_37, e_37, st_37⟩ := getF X_29 hx hZ hown (host := "") (Or.inl (w_ hw 63 rfl)) Via.refl e_29 Fa_22 (g := (mkF m 42 #[rv a1] [(.ref a1), (.ref a1)])) rfl rfl (hb hby d20_42)
 refine own_st st_37 ?_
 show own_Go _ _ _ _ (T_37.setTop (mkF m 45 #[rv a1] [(.int 1), (.ref a1)]))
 refine o_iconst X_37 Hq 1 d20_45 rfl (o_iadd X_37 Hq d20_46 ?_)
 show own_Go _ _ _ _ (T_37.setTop (mkF m 47 #[rv a1] [(.int 2), (.ref a1)]))
 have Fa_38 := (Fa_20.wr W_21)
 obtain ⟨T_39, h_39, X_39, e_39, W_39, st_39⟩ := putF X_37 hx hZ hown (host := "") (Or.inl (w_ hw 63 rfl)) Via.refl e_37 Fa_22 Fa_38 (Or.inl (w_ hw 64 rfl)) (w_ hw 38 rfl) (ty := .int) (by decide) rfl rfl (g := (mkF m 47 #[rv a1] [(.int 2), (.ref a1)])) rfl rfl (hb hby d20_47)
 refine own_st st_39 ?_
 have N_39 := Fr.snoc X_39 N_29 g1
 show own_Go _ _ _ _ (T_39.setTop (mkF m 50 #[rv a1] []))
 refine o_goto X_39 Hq (pc' := 13) d20_50 (o_aloadN X_39 Hq d20_13 rfl rfl ?_)
 have Fa_40 := (Fa_22.same W_39)
 obtain ⟨T_41, X_41, e_41, st_41⟩ := getF X_39 hx hZ hown (host := "") (Or.inl (w_ hw 63 rfl)) Via.refl e_39 Fa_40 (g := (mkF m 14 #[rv a1] [(.ref a1)])) rfl rfl (hb hby d20_14)
 refine own_st st_41 ?_
 show own_Go _ _ _ _ (T_41.setTop (mkF m 17 #[rv a1] [(.int 2)]))
 refine o_aloadN X_41 Hq d20_17 rfl rfl ?_
 have Fa_42 := (Fa_24.other W_39 (Or.inr (slot_ne (Or.inl (w_ hw 57 rfl)) (Or.inl (w_ hw 64 rfl)) (by decide) (t := .int) (t' := .int) (by decide) (by decide))))
 obtain ⟨T_43, X_43, e_43, st_43⟩ := getF X_41 hx hZ hown (host := "") (Or.inl (w_ hw 56 rfl)) Via.refl e_41 Fa_42 (g := (mkF m 18 #[rv a1] [(.ref a1), (.int 2)])) rfl rfl (hb hby d20_18)
 refine own_st st_43 ?_
 show own_Go _ _ _ _ (T_43.setTop (mkF m 21 #[rv a1] [(.int 3), (.int 2)]))
 refine o_icmpNo X_43 Hq d20_21 (by decide) (o_aloadN X_43 Hq d20_24 rfl rfl ?_)
 have Fa_44 := (Fa_26.other W_39 (Or.inr (slot_ne (Or.inr (w_ hw 45 rfl)) (Or.inl (w_ hw 64 rfl)) (by decide) (t := (.object "java/lang/String")) (t' := .int) (by decide) (by decide))))
 obtain ⟨T_45, X_45, e_45, st_45⟩ := getF X_43 hx hZ hown (host := "") (Or.inl (w_ hw 44 rfl)) Via.refl e_43 Fa_44 (g := (mkF m 25 #[rv a1] [(.ref a1)])) rfl rfl (hb hby d20_25)
 refine own_st st_45 ?_
 show own_Go _ _ _ _ (T_45.setTop (mkF m 28 #[rv a1] [(.ref a2)]))
 refine o_aloadN X_45 Hq d20_28 rfl rfl ?_
 obtain ⟨T_46, X_46, e_46, st_46⟩ := getF X_45 hx hZ hown (host := "") (Or.inl (w_ hw 63 rfl)) Via.refl e_45 Fa_40 (g := (mkF m 29 #[rv a1] [(.ref a1), (.ref a2)])) rfl rfl (hb hby d20_29)
 refine own_st st_46 ?_
 show own_Go _ _ _ _ (T_46.setTop (mkF m 32 #[rv a1] [(.int 2), (.ref a2)]))
 have Fa_48 := (Fa_30.wr W_39)
 have Fa_49 := (Fa_31.other W_39 (Or.inl n12))
 have Fa_50 := (Fa_32.other W_39 (Or.inl n12))
 have Fa_51 := (Fa_33.other W_39 nb1)
 have Fa_52 := (Fa_34.wr W_39)
 have Fa_53 := (Fa_35.wr W_39)
 have Zs_54 : n0 ≤ h_39.size := (Nat.le_trans Zs_36 (Keep.of_wr W_39).1)
 refine c_U1 X_46 Hq e_46 hZ hown hml (k20_35U1 hw) (rm15 hw a2 (2 : Int32) b k1 (3 : Int32) vs d1 w sfv f h_39 n0 Zs_54 Fa_48 Fa_49 Fa_50 Fa_51 Fa_52 hw0 hat hf Fa_53 hsf (by decide) (by decide)) Fa_48 d20_32 ?_ 0
 rintro T_47 L_47 _ X_47 ⟨⟨⟩, Nq_47, e_47⟩
 have N_47 := Fr.app N_39 Nq_47
 refine o_bipush X_47 Hq 32 d20_35 rfl (o_icmpNo X_47 Hq d20_37 (flt ht2).2.2.1 (o_aloadN X_47 Hq d20_40 rfl rfl (o_dup X_47 Hq d20_41 rfl ?_)))
 obtain ⟨T_55, X_55, e_55, st_55⟩ := getF X_47 hx hZ hown (host := "") (Or.inl (w_ hw 63 rfl)) Via.refl e_47 Fa_40 (g := (mkF m 42 #[rv a1] [(.ref a1), (.ref a1)])) rfl rfl (hb hby d20_42)
 refine own_st st_55 ?_
 show own_Go _ _ _ _ (T_55.setTop (mkF m 45 #[rv a1] [(.int 2), (.ref a1)]))
 refine o_iconst X_55 Hq 1 d20_45 rfl (o_iadd X_55 Hq d20_46 ?_)
 show own_Go _ _ _ _ (T_55.setTop (mkF m 47 #[rv a1] [(.int 3), (.ref a1)]))
 have Fa_56 := (Fa_38.wr W_39)
 obtain ⟨T_57, h_57, X_57, e_57, W_57, st_57⟩ := putF X_55 hx hZ hown (host := "") (Or.inl (w_ hw 63 rfl)) Via.refl e_55 Fa_40 Fa_56 (Or.inl (w_ hw 64 rfl)) (w_ hw 38 rfl) (ty := .int) (by decide) rfl rfl (g := (mkF m 47 #[rv a1] [(.int 3), (.ref a1)])) rfl rfl (hb hby d20_47)
 refine own_st st_57 ?_
 have N_57 := Fr.snoc X_57 N_47 g1
 show own_Go _ _ _ _ (T_57.setTop (mkF m 50 #[rv a1] []))
 refine o_goto X_57 Hq (pc' := 13) d20_50 (o_aloadN X_57 Hq d20_13 rfl rfl ?_)
 have Fa_58 := (Fa_40.same W_57)
 obtain ⟨T_59, X_59, e_59, st_59⟩ := getF X_57 hx hZ hown (host := "") (Or.inl (w_ hw 63 rfl)) Via.refl e_57 Fa_58 (g := (mkF m 14 #[rv a1] [(.ref a1)])) rfl rfl (hb hby d20_14)
 refine own_st st_59 ?_
 show own_Go _ _ _ _ (T_59.setTop (mkF m 17 #[rv a1] [(.int 3)]))
 refine o_aloadN X_59 Hq d20_17 rfl rfl ?_
 have Fa_60 := (Fa_42.other W_57 (Or.inr (slot_ne (Or.inl (w_ hw 57 rfl)) (Or.inl (w_ hw 64 rfl)) (by decide) (t := .int) (t' := .int) (by decide) (by decide))))
 obtain ⟨T_61, X_61, e_61, st_61⟩ := getF X_59 hx hZ hown (host := "") (Or.inl (w_ hw 56 rfl)) Via.refl e_59 Fa_60 (g := (mkF m 18 #[rv a1] [(.ref a1), (.int 3)])) rfl rfl (hb hby d20_18)
 refine own_st st_61 ?_
 show own_Go _ _ _ _ (T_61.setTop (mkF m 21 #[rv a1] [(.int 3), (.int 3)]))
 refine o_icmpYes X_61 Hq (pc' := 53) d20_21 (by decide) (o_aloadN X_61 Hq d20_53 rfl rfl ?_)
 obtain ⟨T_62, X_62, e_62, st_62⟩ := getF X_61 hx hZ hown (host := "") (Or.inl (w_ hw 56 rfl)) Via.refl e_61 Fa_60 (g := (mkF m 54 #[rv a1] [(.ref a1)])) rfl rfl (hb hby d20_54)
 refine own_st st_62 ?_
 show own_Go _ _ _ _ (T_62.setTop (mkF m 57 #[rv a1] [(.int 3)]))
 refine o_aloadN X_62 Hq d20_57 rfl rfl ?_
 obtain ⟨T_63, X_63, e_63, st_63⟩ := getF X_62 hx hZ hown (host := "") (Or.inl (w_ hw 63 rfl)) Via.refl e_62 Fa_58 (g := (mkF m 58 #[rv a1] [(.ref a1), (.int 3)])) rfl rfl (hb hby d20_58)
 refine own_st st_63 ?_
 show own_Go _ _ _ _ (T_63.setTop (mkF m 61 #[rv a1] [(.int 3), (.int 3)]))
 refine o_icmpYes X_63 Hq (pc' := 95) d20_61 (by decide) ?_
 have Kp_64 : Keep h0 h_57 [a1] := (((((Keep.refl h0 [a1]).wr W_3 (Or.inl (List.mem_of_getElem? (i := 0) rfl))).wr W_21 (Or.inl (List.mem_of_getElem? (i := 0) rfl))).wr W_39 (Or.inl (List.mem_of_getElem? (i := 0) rfl))).wr W_57 (Or.inl (List.mem_of_getElem? (i := 0) rfl)))
 have Fa_65 := (Fa_44.other W_57 (Or.inr (slot_ne (Or.inr (w_ hw 45 rfl)) (Or.inl (w_ hw 64 rfl)) (by decide) (t := (.object "java/lang/String")) (t' := .int) (by decide) (by decide))))
 exact e_V X_63 e_63 Hq hlk hrt d20_95 ⟨rfl, N_57, Kp_64, Fa_65, Fa_60, Fa_58⟩
abbrev D14 := decode prog_24_method_7_code
theorem d14_0 : D14 0 = .ok (.aload_n 0, 1) := by decide +kernel
theorem d14_1 : D14 1 = .ok (.getfield 23, 3) := by decide +kernel
theorem d14_4 : D14 4 = .ok (.aload_n 0, 1) := by decide +kernel
theorem d14_5 : D14 5 = .ok (.getfield 19, 3) := by decide +kernel
theorem d14_8 : D14 8 = .ok (.if_icmp .ge 30, 3) := by decide +kernel
theorem d14_11 : D14 11 = .ok (.aload_n 0, 1) := by decide +kernel
theorem d14_12 : D14 12 = .ok (.getfield 7, 3) := by decide +kernel
theorem d14_15 : D14 15 = .ok (.aload_n 0, 1) := by decide +kernel
theorem d14_16 : D14 16 = .ok (.getfield 23, 3) := by decide +kernel
theorem d14_19 : D14 19 = .ok (.invokevirtual 35, 3) := by decide +kernel
theorem k14_35U1 {a0 : Array Value} {Z : State} (hw : HW a0 Z) : own_KU a0 Z "com/example/vernum/vernum/VersionScanner" "java/lang/String" 35 y8_ y8_ jdk_42_method_56_code 2 (some .char) 1 := ⟨⟨(w_ hw 73 rfl), ⟨_, _, pd_12, rfl⟩, by decide⟩, (w_ hw 74 rfl), (w_ hw 76 rfl), (w_ hw 75 rfl), (w_ hw 10 rfl), (w_ hw 77 rfl)⟩
theorem d14_22 : D14 22 = .ok (.iload_n 1, 1) := by decide +kernel
theorem d14_23 : D14 23 = .ok (.if_icmp .ne 15, 3) := by decide +kernel
theorem d14_26 : D14 26 = .ok (.aload_n 0, 1) := by decide +kernel
theorem d14_27 : D14 27 = .ok (.dup, 1) := by decide +kernel
theorem d14_28 : D14 28 = .ok (.getfield 23, 3) := by decide +kernel
theorem d14_31 : D14 31 = .ok (.iconst 1, 1) := by decide +kernel
theorem d14_32 : D14 32 = .ok (.iadd, 1) := by decide +kernel
theorem d14_33 : D14 33 = .ok (.putfield 23, 3) := by decide +kernel
theorem d14_36 : D14 36 = .ok (.iconst 1, 1) := by decide +kernel
theorem d14_37 : D14 37 = .ok (.ireturn, 1) := by decide +kernel
def Q_rmskip_yes (Z : State) (a0 : Array Value) (a1 : Addr) (p2 : Int32) (a2 : Addr) (wp we : Int32) (b : Addr) (k1 : ClassId) (N : Int32) (vs : List Value) (d1 : Value) (w : Int32) (sfv : Value) (f : Int32 → Int32) (h0 : Heap) (n0 : Nat) (v : Option Value) (h : Heap) (L : List Loc) : Prop := v = some (.int (1 : Int32)) ∧ Fr n0 L ∧ Keep h0 h [a1] ∧ Fld Z h a1 "com/example/vernum/vernum/VersionScanner" "input" "Ljava/lang/String;" (.ref a2) ∧ Fld Z h a1 "com/example/vernum/vernum/VersionScanner" "end" "I" (.int we) ∧ Fld Z h a1 "com/example/vernum/vernum/VersionScanner" "position" "I" (.int (wp + (1 : Int32)))
theorem rmskip_yes (hw : HW a0 Z) (a1 : Addr) (p2 : Int32) (a2 : Addr) (wp we : Int32) (b : Addr) (k1 : ClassId) (N : Int32) (vs : List Value) (d1 : Value) (w : Int32) (sfv : Value) (f : Int32 → Int32) (h0 : Heap) (n0 : Nat) (Z0 : n0 ≤ h0.size) (E1 : Exa Z h0 a1 "com/example/vernum/vernum/VersionScanner") (g1 : n0 ≤ a1) (F1 : Fld Z h0 a1 "com/example/vernum/vernum/VersionScanner" "input" "Ljava/lang/String;" (.ref a2)) (F2 : Fld Z h0 a1 "com/example/vernum/vernum/VersionScanner" "end" "I" (.int we)) (F3 : Fld Z h0 a1 "com/example/vernum/vernum/VersionScanner" "position" "I" (.int wp)) (n12 : a2 ≠ a1) (nb1 : b ≠ a1) (E_s : Exa Z h0 a2 "java/lang/String") (F_v : Fld Z h0 a2 "java/lang/String" "value" "[B" (.ref b)) (F_c : Fld Z h0 a2 "java/lang/String" "coder" "B" (.int (0 : Int32))) (V_s : Arv Z h0 b k1 .byte N vs d1) (S1 : Sta Z h0 "java/lang/String" "COMPACT_STRINGS" "Z" (.int w)) (hw0 : ¬ w = (0 : Int32)) (hat : ∀ i : Int32, ¬ i < 0 → i < N → vs.getD i.toNatClampNeg d1 = .int (((f i).toInt8.toInt32).toInt8.toInt32)) (hf : ∀ i : Int32, ¬ (255 : Int32) < f i ∧ ¬ f i < 0) (S2 : Sta Z h0 "jdk/internal/util/Preconditions" "SIOOBE_FORMATTER" "Ljava/util/function/BiFunction;" sfv) (hsf : sfv.isRef = true) (hp0 : ¬ wp < 0) (hp1 : wp < N) (hl : wp < we) (hq : f wp = p2) :
  own_Met l y10_ prog_24_method_7_code 2 (some .boolean) (R_ 4 0 0 53) #[(.ref a1), (.int p2)] Z h0 (Q_rmskip_yes Z a0 a1 p2 a2 wp we b k1 N vs d1 w sfv f h0 n0) := by
 refine own_bd (own := "com/example/vernum/vernum/VersionScanner") rfl (plainFor_of_name pn_9) #[rv a1, iv p2] ?_
 intro p e s m below meth c s₁ hx hby Hq hml hown hnm hlk hrt hZ X0 e0
 refine o_aloadN X0 Hq d14_0 rfl rfl ?_
 obtain ⟨T_1, X_1, e_1, st_1⟩ := getF X0 hx hZ hown (host := "") (Or.inl (w_ hw 63 rfl)) Via.refl e0 F3 (g := (mkF m 1 #[rv a1, iv p2] [(.ref a1)])) rfl rfl (hb hby d14_1)
 refine own_st st_1 ?_
 show own_Go _ _ _ _ (T_1.setTop (mkF m 4 #[rv a1, iv p2] [(.int wp)]))
 refine o_aloadN X_1 Hq d14_4 rfl rfl ?_
 obtain ⟨T_2, X_2, e_2, st_2⟩ := getF X_1 hx hZ hown (host := "") (Or.inl (w_ hw 56 rfl)) Via.refl e_1 F2 (g := (mkF m 5 #[rv a1, iv p2] [(.ref a1), (.int wp)])) rfl rfl (hb hby d14_5)
 refine own_st st_2 ?_
 show own_Go _ _ _ _ (T_2.setTop (mkF m 8 #[rv a1, iv p2] [(.int we), (.int wp)]))
 refine o_icmpNo X_2 Hq d14_8 (tlt hl).2.1 (o_aloadN X_2 Hq d14_11 rfl rfl ?_)
 obtain ⟨T_3, X_3, e_3, st_3⟩ := getF X_2 hx hZ hown (host := "") (Or.inl (w_ hw 44 rfl)) Via.refl e_2 F1 (g := (mkF m 12 #[rv a1, iv p2] [(.ref a1)])) rfl rfl (hb hby d14_12)
 refine own_st st_3 ?_
 show own_Go _ _ _ _ (T_3.setTop (mkF m 15 #[rv a1, iv p2] [(.ref a2)]))
 refine o_aloadN X_3 Hq d14_15 rfl rfl ?_
 obtain ⟨T_4, X_4, e_4, st_4⟩ := getF X_3 hx hZ hown (host := "") (Or.inl (w_ hw 63 rfl)) Via.refl e_3 F3 (g := (mkF m 16 #[rv a1, iv p2] [(.ref a1), (.ref a2)])) rfl rfl (hb hby d14_16)
 refine own_st st_4 ?_
 show own_Go _ _ _ _ (T_4.setTop (mkF m 19 #[rv a1, iv p2] [(.int wp), (.ref a2)]))
 refine c_U1 X_4 Hq e_4 hZ hown hml (k14_35U1 hw) (rm15 hw a2 wp b k1 N vs d1 w sfv f h0 n0 Z0 E_s F_v F_c V_s S1 hw0 hat hf S2 hsf hp0 hp1) E_s d14_19 ?_ 0
 rintro T_5 L_5 _ X_5 ⟨⟨⟩, Nq_5, e_5⟩
 have N_5 := Fr.app (Fr.nil n0) Nq_5
 refine o_iloadN X_5 Hq d14_22 rfl (o_icmpNo X_5 Hq d14_23 (teq hq).2 (o_aloadN X_5 Hq d14_26 rfl rfl (o_dup X_5 Hq d14_27 rfl ?_)))
 obtain ⟨T_6, X_6, e_6, st_6⟩ := getF X_5 hx hZ hown (host := "") (Or.inl (w_ hw 63 rfl)) Via.refl e_5 F3 (g := (mkF m 28 #[rv a1, iv p2] [(.ref a1), (.ref a1)])) rfl rfl (hb hby d14_28)
 refine own_st st_6 ?_
 show own_Go _ _ _ _ (T_6.setTop (mkF m 31 #[rv a1, iv p2] [(.int wp), (.ref a1)]))
 refine o_iconst X_6 Hq 1 d14_31 rfl (o_iadd X_6 Hq d14_32 ?_)
 obtain ⟨T_7, h_7, X_7, e_7, W_7, st_7⟩ := putF X_6 hx hZ hown (host := "") (Or.inl (w_ hw 63 rfl)) Via.refl e_6 F3 E1 (Or.inl (w_ hw 64 rfl)) (w_ hw 38 rfl) (ty := .int) (by decide) rfl rfl (g := (mkF m 33 #[rv a1, iv p2] [(.int (wp + (1 : Int32))), (.ref a1)])) rfl rfl (hb hby d14_33)
 refine own_st st_7 ?_
 have N_7 := Fr.snoc X_7 N_5 g1
 show own_Go _ _ _ _ (T_7.setTop (mkF m 36 #[rv a1, iv p2] []))
 refine o_iconst X_7 Hq 1 d14_36 rfl ?_
 have Kp_8 : Keep h0 h_7 [a1] := ((Keep.refl h0 [a1]).wr W_7 (Or.inl (List.mem_of_getElem? (i := 0) rfl)))
 have Fa_9 := (F1.other W_7 (Or.inr (slot_ne (Or.inr (w_ hw 45 rfl)) (Or.inl (w_ hw 64 rfl)) (by decide) (t := (.object "java/lang/String")) (t' := .int) (by decide) (by decide))))
 have Fa_10 := (F2.other W_7 (Or.inr (slot_ne (Or.inl (w_ hw 57 rfl)) (Or.inl (w_ hw 64 rfl)) (by decide) (t := .int) (t' := .int) (by decide) (by decide))))
 have Fa_11 := (F3.same W_7)
 exact e_Z X_7 e_7 Hq hlk hrt d14_37 ⟨rfl, N_7, Kp_8, Fa_9, Fa_10, Fa_11⟩
theorem d14_38 : D14 38 = .ok (.iconst 0, 1) := by decide +kernel
theorem d14_39 : D14 39 = .ok (.ireturn, 1) := by decide +kernel
def Q_rmskip_end (Z : State) (a0 : Array Value) (a1 : Addr) (p2 : Int32) (a2 : Addr) (wp we : Int32) (b : Addr) (k1 : ClassId) (N : Int32) (vs : List Value) (d1 : Value) (w : Int32) (sfv : Value) (f : Int32 → Int32) (h0 : Heap) (n0 : Nat) (v : Option Value) (h : Heap) (L : List Loc) : Prop := v = some (.int (0 : Int32)) ∧ Fr n0 L ∧ Keep h0 h [a1] ∧ Fld Z h a1 "com/example/vernum/vernum/VersionScanner" "input" "Ljava/lang/String;" (.ref a2) ∧ Fld Z h a1 "com/example/vernum/vernum/VersionScanner" "end" "I" (.int we) ∧ Fld Z h a1 "com/example/vernum/vernum/VersionScanner" "position" "I" (.int wp)
theorem rmskip_end (hw : HW a0 Z) (a1 : Addr) (p2 : Int32) (a2 : Addr) (wp we : Int32) (b : Addr) (k1 : ClassId) (N : Int32) (vs : List Value) (d1 : Value) (w : Int32) (sfv : Value) (f : Int32 → Int32) (h0 : Heap) (n0 : Nat) (Z0 : n0 ≤ h0.size) (E1 : Exa Z h0 a1 "com/example/vernum/vernum/VersionScanner") (g1 : n0 ≤ a1) (F1 : Fld Z h0 a1 "com/example/vernum/vernum/VersionScanner" "input" "Ljava/lang/String;" (.ref a2)) (F2 : Fld Z h0 a1 "com/example/vernum/vernum/VersionScanner" "end" "I" (.int we)) (F3 : Fld Z h0 a1 "com/example/vernum/vernum/VersionScanner" "position" "I" (.int wp)) (n12 : a2 ≠ a1) (nb1 : b ≠ a1) (E_s : Exa Z h0 a2 "java/lang/String") (F_v : Fld Z h0 a2 "java/lang/String" "value" "[B" (.ref b)) (F_c : Fld Z h0 a2 "java/lang/String" "coder" "B" (.int (0 : Int32))) (V_s : Arv Z h0 b k1 .byte N vs d1) (S1 : Sta Z h0 "java/lang/String" "COMPACT_STRINGS" "Z" (.int w)) (hw0 : ¬ w = (0 : Int32)) (hat : ∀ i : Int32, ¬ i < 0 → i < N → vs.getD i.toNatClampNeg d1 = .int (((f i).toInt8.toInt32).toInt8.toInt32)) (hf : ∀ i : Int32, ¬ (255 : Int32) < f i ∧ ¬ f i < 0) (S2 : Sta Z h0 "jdk/internal/util/Preconditions" "SIOOBE_FORMATTER" "Ljava/util/function/BiFunction;" sfv) (hsf : sfv.isRef = true) (hl : ¬ wp < we) :
  own_Met l y10_ prog_24_method_7_code 2 (some .boolean) (R_ 0 0 0 0) #[(.ref a1), (.int p2)] Z h0 (Q_rmskip_end Z a0 a1 p2 a2 wp we b k1 N vs d1 w sfv f h0 n0) := by
 refine own_bd (own := "com/example/vernum/vernum/VersionScanner") rfl (plainFor_of_name pn_9) #[rv a1, iv p2] ?_
 intro p e s m below meth c s₁ hx hby Hq hml hown hnm hlk hrt hZ X0 e0
 refine o_aloadN X0 Hq d14_0 rfl rfl ?_
 obtain ⟨T_1, X_1, e_1, st_1⟩ := getF X0 hx hZ hown (host := "") (Or.inl (w_ hw 63 rfl)) Via.refl e0 F3 (g := (mkF m 1 #[rv a1, iv p2] [(.ref a1)])) rfl rfl (hb hby d14_1)
 refine own_st st_1 ?_
 show own_Go _ _ _ _ (T_1.setTop (mkF m 4 #[rv a1, iv p2] [(.int wp)]))
 refine o_aloadN X_1 Hq d14_4 rfl rfl ?_
 obtain ⟨T_2, X_2, e_2, st_2⟩ := getF X_1 hx hZ hown (host := "") (Or.inl (w_ hw 56 rfl)) Via.refl e_1 F2 (g := (mkF m 5 #[rv a1, iv p2] [(.ref a1), (.int wp)])) rfl rfl (hb hby d14_5)
 refine own_st st_2 ?_
 show own_Go _ _ _ _ (T_2.setTop (mkF m 8 #[rv a1, iv p2] [(.int we), (.int wp)]))
 refine o_icmpYes X_2 Hq (pc' := 38) d14_8 (flt hl).2.1 (o_iconst X_2 Hq 0 d14_38 rfl ?_)
 exact e_Z X_2 e_2 Hq hlk hrt d14_39 ⟨rfl, (Fr.nil n0), (Keep.refl h0 [a1]), F1, F2, F3⟩
def Q_rmskip_no (Z : State) (a0 : Array Value) (a1 : Addr) (p2 : Int32) (a2 : Addr) (wp we : Int32) (b : Addr) (k1 : ClassId) (N : Int32) (vs : List Value) (d1 : Value) (w : Int32) (sfv : Value) (f : Int32 → Int32) (h0 : Heap) (n0 : Nat) (v : Option Value) (h : Heap) (L : List Loc) : Prop := v = some (.int (0 : Int32)) ∧ Fr n0 L ∧ Keep h0 h [a1] ∧ Fld Z h a1 "com/example/vernum/vernum/VersionScanner" "input" "Ljava/lang/String;" (.ref a2) ∧ Fld Z h a1 "com/example/vernum/vernum/VersionScanner" "end" "I" (.int we) ∧ Fld Z h a1 "com/example/vernum/vernum/VersionScanner" "position" "I" (.int wp)
theorem rmskip_no (hw : HW a0 Z) (a1 : Addr) (p2 : Int32) (a2 : Addr) (wp we : Int32) (b : Addr) (k1 : ClassId) (N : Int32) (vs : List Value) (d1 : Value) (w : Int32) (sfv : Value) (f : Int32 → Int32) (h0 : Heap) (n0 : Nat) (Z0 : n0 ≤ h0.size) (E1 : Exa Z h0 a1 "com/example/vernum/vernum/VersionScanner") (g1 : n0 ≤ a1) (F1 : Fld Z h0 a1 "com/example/vernum/vernum/VersionScanner" "input" "Ljava/lang/String;" (.ref a2)) (F2 : Fld Z h0 a1 "com/example/vernum/vernum/VersionScanner" "end" "I" (.int we)) (F3 : Fld Z h0 a1 "com/example/vernum/vernum/VersionScanner" "position" "I" (.int wp)) (n12 : a2 ≠ a1) (nb1 : b ≠ a1) (E_s : Exa Z h0 a2 "java/lang/String") (F_v : Fld Z h0 a2 "java/lang/String" "value" "[B" (.ref b)) (F_c : Fld Z h0 a2 "java/lang/String" "coder" "B" (.int (0 : Int32))) (V_s : Arv Z h0 b k1 .byte N vs d1) (S1 : Sta Z h0 "java/lang/String" "COMPACT_STRINGS" "Z" (.int w)) (hw0 : ¬ w = (0 : Int32)) (hat : ∀ i : Int32, ¬ i < 0 → i < N → vs.getD i.toNatClampNeg d1 = .int (((f i).toInt8.toInt32).toInt8.toInt32)) (hf : ∀ i : Int32, ¬ (255 : Int32) < f i ∧ ¬ f i < 0) (S2 : Sta Z h0 "jdk/internal/util/Preconditions" "SIOOBE_FORMATTER" "Ljava/util/function/BiFunction;" sfv) (hsf : sfv.isRef = true) (hp0 : ¬ wp < 0) (hp1 : wp < N) (hl : wp < we) (hq : ¬ f wp = p2) :
  own_Met l y10_ prog_24_method_7_code 2 (some .boolean) (R_ 4 0 0 53) #[(.ref a1), (.int p2)] Z h0 (Q_rmskip_no Z a0 a1 p2 a2 wp we b k1 N vs d1 w sfv f h0 n0) := by
 refine own_bd (own := "com/example/vernum/vernum/VersionScanner") rfl (plainFor_of_name pn_9) #[rv a1, iv p2] ?_
 intro p e s m below meth c s₁ hx hby Hq hml hown hnm hlk hrt hZ X0 e0
 refine o_aloadN X0 Hq d14_0 rfl rfl ?_
 obtain ⟨T_1, X_1, e_1, st_1⟩ := getF X0 hx hZ hown (host := "") (Or.inl (w_ hw 63 rfl)) Via.refl e0 F3 (g := (mkF m 1 #[rv a1, iv p2] [(.ref a1)])) rfl rfl (hb hby d14_1)
 refine own_st st_1 ?_
 show own_Go _ _ _ _ (T_1.setTop (mkF m 4 #[rv a1, iv p2] [(.int wp)]))
 refine o_aloadN X_1 Hq d14_4 rfl rfl ?_
 obtain ⟨T_2, X_2, e_2, st_2⟩ := getF X_1 hx hZ hown (host := "") (Or.inl (w_ hw 56 rfl)) Via.refl e_1 F2 (g := (mkF m 5 #[rv a1, iv p2] [(.ref a1), (.int wp)])) rfl rfl (hb hby d14_5)
 refine own_st st_2 ?_
 show own_Go _ _ _ _ (T_2.setTop (mkF m 8 #[rv a1, iv p2] [(.int we), (.int wp)]))
 refine o_icmpNo X_2 Hq d14_8 (tlt hl).2.1 (o_aloadN X_2 Hq d14_11 rfl rfl ?_)
 obtain ⟨T_3, X_3, e_3, st_3⟩ := getF X_2 hx hZ hown (host := "") (Or.inl (w_ hw 44 rfl)) Via.refl e_2 F1 (g := (mkF m 12 #[rv a1, iv p2] [(.ref a1)])) rfl rfl (hb hby d14_12)
 refine own_st st_3 ?_
 show own_Go _ _ _ _ (T_3.setTop (mkF m 15 #[rv a1, iv p2] [(.ref a2)]))
 refine o_aloadN X_3 Hq d14_15 rfl rfl ?_
 obtain ⟨T_4, X_4, e_4, st_4⟩ := getF X_3 hx hZ hown (host := "") (Or.inl (w_ hw 63 rfl)) Via.refl e_3 F3 (g := (mkF m 16 #[rv a1, iv p2] [(.ref a1), (.ref a2)])) rfl rfl (hb hby d14_16)
 refine own_st st_4 ?_
 show own_Go _ _ _ _ (T_4.setTop (mkF m 19 #[rv a1, iv p2] [(.int wp), (.ref a2)]))
 refine c_U1 X_4 Hq e_4 hZ hown hml (k14_35U1 hw) (rm15 hw a2 wp b k1 N vs d1 w sfv f h0 n0 Z0 E_s F_v F_c V_s S1 hw0 hat hf S2 hsf hp0 hp1) E_s d14_19 ?_ 0
 rintro T_5 L_5 _ X_5 ⟨⟨⟩, Nq_5, e_5⟩
 have N_5 := Fr.app (Fr.nil n0) Nq_5
 refine o_iloadN X_5 Hq d14_22 rfl (o_icmpYes X_5 Hq (pc' := 38) d14_23 (feq hq).2 (o_iconst X_5 Hq 0 d14_38 rfl ?_))
 exact e_Z X_5 e_5 Hq hlk hrt d14_39 ⟨rfl, N_5, (Keep.refl h0 [a1]), F1, F2, F3⟩
abbrev D13 := decode method_4_code
theorem d13_0 : D13 0 = .ok (.iload 4, 2) := by decide +kernel
theorem d13_2 : D13 2 = .ok (.ifCond .eq 16, 3) := by decide +kernel
theorem d13_18 : D13 18 = .ok (.iload 5, 2) := by decide +kernel
theorem d13_20 : D13 20 = .ok (.invokestatic 12, 3) := by decide +kernel
section Sm
variable {p : Program} {l : Launch} {e : Env} {R : Room} {s : State} {m : MethodId} {args : Array Value} {below : List Frame} {meth : Method} {c : Code} {T : State} {locs : List Loc} {cells slots : Nat} {P : Outcome → State → Prop} {pc : Nat} {Ls : Array Slot} {st : List Value}
theorem c_S1 (X : Stand p l e R s m args below meth c T locs cells slots) {cb : ByteArray} (hq : p.tables.exec = Jvm.exec ∧ c.code = cb) {Z : State} {a0 : Array Value} {h : Heap} {own C : String} {index : Nat} {y z : MethodName} {bytes : ByteArray} {maxL ML : Nat} {ret : Option FieldType} {rm : Room} {Q : Option Value → Heap → List Loc → Prop} {v1 : Value}
  (eT : T.heap = h) (hZ : Z.Warmed39 s.vm) (hown : s.vm.findClass own = some m.cls) (hml : c.maxLocals = ML) (hK : own_KS a0 Z own C index y z bytes maxL ret 1) (hM : own_Met l y bytes maxL ret rm #[v1] Z h Q)
  (hd : decode cb pc = .ok (.invokestatic index, 3)) 
  (k : ∀ (T' : State) (L : List Loc) (w : Value), Stand p l e R s m args below meth c T' (locs ++ L) (cells + rm.cells) (slots + rm.slots) → Q (some w) T'.heap L → own_Go p.tables e below P (T'.setTop (mkF m (pc + 3) Ls (w :: st)))) (W : Nat) (hsz : Ls.size = ML := by rfl) (hW : (st.map fun v => v.category).sum = W := by rfl) (sd : rm.frames + 1 ≤ R.frames ∧ W + (maxL + 11) + rm.locals ≤ R.locals ∧ cells + rm.cells ≤ R.cells ∧ slots + rm.slots ≤ R.slots := by decide) (hv : ∀ v h L, Q v h L → ∃ w, v = some w := by intro v h L q; first | exact Exists.intro _ q.1 | (obtain ⟨_, q⟩ := q; exact Exists.intro _ q.1) | (obtain ⟨_, _, q⟩ := q; exact Exists.intro _ q.1) | (obtain ⟨_, _, _, q⟩ := q; exact Exists.intro _ q.1)) : own_Go p.tables e below P (T.setTop (mkF m pc Ls (v1 :: st))) := by
 obtain ⟨⟨w1, ⟨ps, r, hp, hlen⟩, hy⟩, w2, w3, w4⟩ := hK
 obtain ⟨v, vm1, ⟨T', L0, k0, n0⟩, -, X', ⟨L, hQ, e1, e2, e3⟩, hst⟩ := Jvm.LawKit.callS X hq.1 (y := y) hown (mvT hZ w1) (mvT hZ w2) (mvT hZ w3) (mvT hZ w4) hy (backOf (W := W) (Q := Q) hM hZ w4 w3 sd.1 sd.2.1) (g := mkF m pc Ls (v1 :: st)) rfl (by rw [hml]; exact hsz) (argsL := [v1]) (rest := st) (lenOf hp hlen) rfl (by show 2 * 0 + _ ≤ _; rw [Nat.mul_zero, Nat.zero_add]; exact Nat.le_of_eq hW) (hb hq.2 hd) (fun _ _ => ⟨rfl, eT, sd.2.2.1, sd.2.2.2⟩)
 dsimp only [Pt.U, Pt.locs, Pt.cells, Pt.slots] at X' e1 e2 e3 hst hQ
 subst e1 e2 e3
 obtain ⟨w, rfl⟩ := hv _ _ _ hQ
 exact own_st hst (k _ _ _ X' hQ)
end Sm
theorem k13_12 {a0 : Array Value} {Z : State} (hw : HW a0 Z) : own_KS a0 Z "com/example/vernum/vernum/VersionScannerAtEndPinLaw" "" 12 y9_ y9_ method_2_code 2 (some .char) 1 := ⟨⟨(w_ hw 0 rfl), ⟨_, _, pd_12, rfl⟩, by decide⟩, (w_ hw 1 rfl), (w_ hw 2 rfl), (w_ hw 3 rfl)⟩
theorem d13_23 : D13 23 = .ok (.istore 6, 2) := by decide +kernel
theorem d13_25 : D13 25 = .ok (.iload_n 2, 1) := by decide +kernel
theorem d13_26 : D13 26 = .ok (.iload_n 3, 1) := by decide +kernel
theorem d13_27 : D13 27 = .ok (.if_icmp .ge 15, 3) := by decide +kernel
theorem d13_30 : D13 30 = .ok (.aload_n 1, 1) := by decide +kernel
theorem d13_31 : D13 31 = .ok (.iload_n 2, 1) := by decide +kernel
theorem d13_32 : D13 32 = .ok (.caload, 1) := by decide +kernel
theorem d13_33 : D13 33 = .ok (.iload 6, 2) := by decide +kernel
theorem d13_35 : D13 35 = .ok (.if_icmp .ne 7, 3) := by decide +kernel
theorem d13_38 : D13 38 = .ok (.iconst 1, 1) := by decide +kernel
theorem d13_39 : D13 39 = .ok (.goto 4, 3) := by decide +kernel
theorem d13_43 : D13 43 = .ok (.istore 7, 2) := by decide +kernel
theorem d13_45 : D13 45 = .ok (.aload_n 0, 1) := by decide +kernel
theorem d13_46 : D13 46 = .ok (.iload 6, 2) := by decide +kernel
theorem d13_48 : D13 48 = .ok (.invokevirtual 18, 3) := by decide +kernel
theorem pd_13 : parseMethodDescriptor "(C)Z" = some ⟨[.char], some .boolean⟩ := by decide +kernel
theorem k13_18U1 {a0 : Array Value} {Z : State} (hw : HW a0 Z) : own_KU a0 Z "com/example/vernum/vernum/VersionScannerAtEndPinLaw" "com/example/vernum/vernum/VersionScanner" 18 y10_ y10_ prog_24_method_7_code 2 (some .boolean) 1 := ⟨⟨(w_ hw 68 rfl), ⟨_, _, pd_13, rfl⟩, by decide⟩, (w_ hw 69 rfl), (w_ hw 71 rfl), (w_ hw 70 rfl), (w_ hw 39 rfl), (w_ hw 72 rfl)⟩
theorem d13_51 : D13 51 = .ok (.istore 8, 2) := by decide +kernel
theorem d13_53 : D13 53 = .ok (.iload 8, 2) := by decide +kernel
theorem d13_55 : D13 55 = .ok (.iload 7, 2) := by decide +kernel
theorem d13_57 : D13 57 = .ok (.if_icmp .eq 5, 3) := by decide +kernel
theorem d13_62 : D13 62 = .ok (.iload 7, 2) := by decide +kernel
theorem d13_64 : D13 64 = .ok (.ifCond .eq 7, 3) := by decide +kernel
theorem d13_67 : D13 67 = .ok (.iload_n 2, 1) := by decide +kernel
theorem d13_68 : D13 68 = .ok (.iconst 1, 1) := by decide +kernel
theorem d13_69 : D13 69 = .ok (.iadd, 1) := by decide +kernel
theorem d13_70 : D13 70 = .ok (.ireturn, 1) := by decide +kernel
theorem d13_42 : D13 42 = .ok (.iconst 0, 1) := by decide +kernel
theorem d13_71 : D13 71 = .ok (.iload_n 2, 1) := by decide +kernel
theorem d13_72 : D13 72 = .ok (.ireturn, 1) := by decide +kernel
theorem d13_5 : D13 5 = .ok (.iload_n 2, 1) := by decide +kernel
theorem d13_6 : D13 6 = .ok (.iload_n 3, 1) := by decide +kernel
theorem d13_7 : D13 7 = .ok (.if_icmp .ge 11, 3) := by decide +kernel
theorem d13_10 : D13 10 = .ok (.aload_n 1, 1) := by decide +kernel
theorem d13_11 : D13 11 = .ok (.iload_n 2, 1) := by decide +kernel
theorem d13_12 : D13 12 = .ok (.caload, 1) := by decide +kernel
theorem d13_13 : D13 13 = .ok (.istore 6, 2) := by decide +kernel
theorem d13_15 : D13 15 = .ok (.goto 10, 3) := by decide +kernel
def Q_rmstep (Z : State) (a0 : Array Value) (a1 a2 : Addr) (p3 p4 p5 p6 : Int32) (a3 : Addr) (kc : ClassId) (vc : List Value) (dc : Value) (b : Addr) (k1 : ClassId) (N : Int32) (vs : List Value) (d1 : Value) (w : Int32) (sfv : Value) (f : Int32 → Int32) (h0 : Heap) (n0 : Nat) (v : Option Value) (h : Heap) (L : List Loc) : Prop := ∃ r : Int32, v = some (.int r) ∧ Fr n0 L ∧ Keep h0 h [a1] ∧ Fld Z h a1 "com/example/vernum/vernum/VersionScanner" "input" "Ljava/lang/String;" (.ref a3) ∧ Fld Z h a1 "com/example/vernum/vernum/VersionScanner" "end" "I" (.int p4) ∧ Fld Z h a1 "com/example/vernum/vernum/VersionScanner" "position" "I" (.int r) ∧ ¬ r < 0 ∧ ¬ p4 < r
theorem rmstep (hw : HW a0 Z) (a1 a2 : Addr) (p3 p4 p5 p6 : Int32) (a3 : Addr) (kc : ClassId) (vc : List Value) (dc : Value) (b : Addr) (k1 : ClassId) (N : Int32) (vs : List Value) (d1 : Value) (w : Int32) (sfv : Value) (f : Int32 → Int32) (h0 : Heap) (n0 : Nat) (Z0 : n0 ≤ h0.size) (E1 : Exa Z h0 a1 "com/example/vernum/vernum/VersionScanner") (g1 : n0 ≤ a1) (F1 : Fld Z h0 a1 "com/example/vernum/vernum/VersionScanner" "input" "Ljava/lang/String;" (.ref a3)) (F2 : Fld Z h0 a1 "com/example/vernum/vernum/VersionScanner" "end" "I" (.int p4)) (F3 : Fld Z h0 a1 "com/example/vernum/vernum/VersionScanner" "position" "I" (.int p3)) (n31 : a3 ≠ a1) (nb1 : b ≠ a1) (V3 : Arv Z h0 a2 kc .char (3 : Int32) vc dc) (hcs : ∀ i : Int32, ¬ i < 0 → i < (3 : Int32) → vc.getD i.toNatClampNeg dc = .int (f i)) (E_s : Exa Z h0 a3 "java/lang/String") (F_v : Fld Z h0 a3 "java/lang/String" "value" "[B" (.ref b)) (F_c : Fld Z h0 a3 "java/lang/String" "coder" "B" (.int (0 : Int32))) (V_s : Arv Z h0 b k1 .byte N vs d1) (S1 : Sta Z h0 "java/lang/String" "COMPACT_STRINGS" "Z" (.int w)) (hw0 : ¬ w = (0 : Int32)) (hat : ∀ i : Int32, ¬ i < 0 → i < N → vs.getD i.toNatClampNeg d1 = .int (((f i).toInt8.toInt32).toInt8.toInt32)) (hf : ∀ i : Int32, ¬ (255 : Int32) < f i ∧ ¬ f i < 0) (S2 : Sta Z h0 "jdk/internal/util/Preconditions" "SIOOBE_FORMATTER" "Ljava/util/function/BiFunction;" sfv) (hsf : sfv.isRef = true) (hp0 : ¬ p3 < 0) (hp1 : ¬ p4 < p3) (hN1 : ¬ N < p4) (hN3 : ¬ (3 : Int32) < N) :
  own_Met l y18_ method_4_code 9 (some .int) (R_ 5 0 0 66) #[(.ref a1), (.ref a2), (.int p3), (.int p4), (.int p5), (.int p6)] Z h0 (Q_rmstep Z a0 a1 a2 p3 p4 p5 p6 a3 kc vc dc b k1 N vs d1 w sfv f h0 n0) := by
 refine own_bd (own := "com/example/vernum/vernum/VersionScannerAtEndPinLaw") rfl (plainFor_of_name pn_1) #[rv a1, rv a2, iv p3, iv p4, iv p5, iv p6, .unset, .unset, .unset] ?_
 intro p e s m below meth c s₁ hx hby Hq hml hown hnm hlk hrt hZ X0 e0
 refine o_iload X0 Hq d13_0 rfl ?_
 by_cases hc2__1 : p5 = (0 : Int32)
 ·refine o_ifYes X0 Hq (pc' := 18) d13_2 (teq hc2__1).1 (o_iload X0 Hq d13_18 rfl ?_)
  refine c_S1 X0 Hq e0 hZ hown hml (k13_12 hw) (rm1 hw p6  h0 n0 Z0) d13_20 ?_ 0
  rintro T_2 L_2 _ X_2 ⟨⟨⟩, Nq_2, e_2⟩
  have N_2 := Fr.app (Fr.nil n0) Nq_2
  refine o_istore X_2 Hq d13_23 (l' := #[rv a1, rv a2, iv p3, iv p4, iv p5, iv p6, iv (own_draw p6), .unset, .unset]) rfl (o_iloadN X_2 Hq d13_25 rfl (o_iloadN X_2 Hq d13_26 rfl ?_))
  by_cases hc27__3 : p3 < p4
  ·refine o_icmpNo X_2 Hq d13_27 (tlt hc27__3).2.1 (o_aloadN X_2 Hq d13_30 rfl rfl (o_iloadN X_2 Hq d13_31 rfl ?_))
   obtain ⟨cl_4, Ar_4, qk_4, Sz_4, Ng_4, Hs_4, Gs_4⟩ := id V3
   refine own_st (X_2.caload hx (j := p3) (v := (.int (f p3))) (by rw [e_2]; exact Ar_4.1) (State.isArrayOf_alike hZ.alike Ar_4.2.1) Ar_4.2.2 (inb_of Sz_4 ⟨hp0, own_lt3 hc27__3 hN1 hN3⟩) (Hs_4.at (j := p3) (inb_of Sz_4 ⟨hp0, own_lt3 hc27__3 hN1 hN3⟩) (hcs p3 hp0 (own_lt3 hc27__3 hN1 hN3))) (g := (mkF m 32 #[rv a1, rv a2, iv p3, iv p4, iv p5, iv p6, iv (own_draw p6), .unset, .unset] [(.int p3), (.ref a2)])) rfl rfl (hb hby d13_32)) ?_
   show own_Go _ _ _ _ (T_2.setTop (mkF m 33 #[rv a1, rv a2, iv p3, iv p4, iv p5, iv p6, iv (own_draw p6), .unset, .unset] [(.int (f p3))]))
   refine o_iload X_2 Hq d13_33 rfl ?_
   by_cases hc35__5 : (f p3) = (own_draw p6)
   ·refine o_icmpNo X_2 Hq d13_35 (teq hc35__5).2 (o_iconst X_2 Hq 1 d13_38 rfl (o_goto X_2 Hq (pc' := 43) d13_39 (o_istore X_2 Hq d13_43 (l' := #[rv a1, rv a2, iv p3, iv p4, iv p5, iv p6, iv (own_draw p6), iv 1, .unset]) rfl (o_aloadN X_2 Hq d13_45 rfl rfl (o_iload X_2 Hq d13_46 rfl ?_)))))
    refine c_U1 X_2 Hq e_2 hZ hown hml (k13_18U1 hw) (rmskip_yes hw a1 (own_draw p6) a3 p3 p4 b k1 N vs d1 w sfv f h0 n0 Z0 E1 g1 F1 F2 F3 n31 nb1 E_s F_v F_c V_s S1 hw0 hat hf S2 hsf hp0 (own_ltN hc27__3 hN1) hc27__3 hc35__5) E1 d13_48 ?_ 0
    rintro T_6 L_6 _ X_6 ⟨⟨⟩, Nq_6, K_6, Fq_6_0, Fq_6_1, Fq_6_2⟩
    have N_6 := Fr.app N_2 Nq_6
    refine o_istore X_6 Hq d13_51 (l' := #[rv a1, rv a2, iv p3, iv p4, iv p5, iv p6, iv (own_draw p6), iv 1, iv 1]) rfl (o_iload X_6 Hq d13_53 rfl (o_iload X_6 Hq d13_55 rfl (o_icmpYes X_6 Hq (pc' := 62) d13_57 (by decide) (o_iload X_6 Hq d13_62 rfl (o_ifNo X_6 Hq d13_64 (by decide) (o_iloadN X_6 Hq d13_67 rfl (o_iconst X_6 Hq 1 d13_68 rfl (o_iadd X_6 Hq d13_69 ?_))))))))
    have Kp_7 : Keep h0 T_6.heap [a1] := ((Keep.refl h0 [a1]).trans K_6 (allS (Or.inl (List.mem_of_getElem? (i := 0) rfl)) all0))
    exact e_I X_6 rfl Hq hlk hrt d13_70 ⟨(p3 + (1 : Int32)), rfl, N_6, Kp_7, Fq_6_0, Fq_6_1, Fq_6_2, (own_incL hp0 hc27__3 hN1 hN3).1, (own_incL hp0 hc27__3 hN1 hN3).2⟩
   ·refine o_icmpYes X_2 Hq (pc' := 42) d13_35 (feq hc35__5).2 (o_iconst X_2 Hq 0 d13_42 rfl (o_istore X_2 Hq d13_43 (l' := #[rv a1, rv a2, iv p3, iv p4, iv p5, iv p6, iv (own_draw p6), iv 0, .unset]) rfl (o_aloadN X_2 Hq d13_45 rfl rfl (o_iload X_2 Hq d13_46 rfl ?_))))
    refine c_U1 X_2 Hq e_2 hZ hown hml (k13_18U1 hw) (rmskip_no hw a1 (own_draw p6) a3 p3 p4 b k1 N vs d1 w sfv f h0 n0 Z0 E1 g1 F1 F2 F3 n31 nb1 E_s F_v F_c V_s S1 hw0 hat hf S2 hsf hp0 (own_ltN hc27__3 hN1) hc27__3 hc35__5) E1 d13_48 ?_ 0
    rintro T_8 L_8 _ X_8 ⟨⟨⟩, Nq_8, K_8, Fq_8_0, Fq_8_1, Fq_8_2⟩
    have N_8 := Fr.app N_2 Nq_8
    refine o_istore X_8 Hq d13_51 (l' := #[rv a1, rv a2, iv p3, iv p4, iv p5, iv p6, iv (own_draw p6), iv 0, iv 0]) rfl (o_iload X_8 Hq d13_53 rfl (o_iload X_8 Hq d13_55 rfl (o_icmpYes X_8 Hq (pc' := 62) d13_57 (by decide) (o_iload X_8 Hq d13_62 rfl (o_ifYes X_8 Hq (pc' := 71) d13_64 (by decide) (o_iloadN X_8 Hq d13_71 rfl ?_))))))
    have Kp_9 : Keep h0 T_8.heap [a1] := ((Keep.refl h0 [a1]).trans K_8 (allS (Or.inl (List.mem_of_getElem? (i := 0) rfl)) all0))
    exact e_I X_8 rfl Hq hlk hrt d13_72 ⟨p3, rfl, N_8, Kp_9, Fq_8_0, Fq_8_1, Fq_8_2, hp0, hp1⟩
  ·refine o_icmpYes X_2 Hq (pc' := 42) d13_27 (flt hc27__3).2.1 (o_iconst X_2 Hq 0 d13_42 rfl (o_istore X_2 Hq d13_43 (l' := #[rv a1, rv a2, iv p3, iv p4, iv p5, iv p6, iv (own_draw p6), iv 0, .unset]) rfl (o_aloadN X_2 Hq d13_45 rfl rfl (o_iload X_2 Hq d13_46 rfl ?_))))
   refine c_U1 X_2 Hq e_2 hZ hown hml (k13_18U1 hw) (rmskip_end hw a1 (own_draw p6) a3 p3 p4 b k1 N vs d1 w sfv f h0 n0 Z0 E1 g1 F1 F2 F3 n31 nb1 E_s F_v F_c V_s S1 hw0 hat hf S2 hsf hc27__3) E1 d13_48 ?_ 0
   rintro T_10 L_10 _ X_10 ⟨⟨⟩, Nq_10, K_10, Fq_10_0, Fq_10_1, Fq_10_2⟩
   have N_10 := Fr.app N_2 Nq_10
   refine o_istore X_10 Hq d13_51 (l' := #[rv a1, rv a2, iv p3, iv p4, iv p5, iv p6, iv (own_draw p6), iv 0, iv 0]) rfl (o_iload X_10 Hq d13_53 rfl (o_iload X_10 Hq d13_55 rfl (o_icmpYes X_10 Hq (pc' := 62) d13_57 (by decide) (o_iload X_10 Hq d13_62 rfl (o_ifYes X_10 Hq (pc' := 71) d13_64 (by decide) (o_iloadN X_10 Hq d13_71 rfl ?_))))))
   have Kp_11 : Keep h0 T_10.heap [a1] := ((Keep.refl h0 [a1]).trans K_10 (allS (Or.inl (List.mem_of_getElem? (i := 0) rfl)) all0))
   exact e_I X_10 rfl Hq hlk hrt d13_72 ⟨p3, rfl, N_10, Kp_11, Fq_10_0, Fq_10_1, Fq_10_2, hp0, hp1⟩
 ·refine o_ifNo X0 Hq d13_2 (feq hc2__1).1 (o_iloadN X0 Hq d13_5 rfl (o_iloadN X0 Hq d13_6 rfl ?_))
  by_cases hc7__12 : p3 < p4
  ·refine o_icmpNo X0 Hq d13_7 (tlt hc7__12).2.1 (o_aloadN X0 Hq d13_10 rfl rfl (o_iloadN X0 Hq d13_11 rfl ?_))
   obtain ⟨cl_13, Ar_13, qk_13, Sz_13, Ng_13, Hs_13, Gs_13⟩ := id V3
   refine own_st (X0.caload hx (j := p3) (v := (.int (f p3))) (by rw [e0]; exact Ar_13.1) (State.isArrayOf_alike hZ.alike Ar_13.2.1) Ar_13.2.2 (inb_of Sz_13 ⟨hp0, own_lt3 hc7__12 hN1 hN3⟩) (Hs_13.at (j := p3) (inb_of Sz_13 ⟨hp0, own_lt3 hc7__12 hN1 hN3⟩) (hcs p3 hp0 (own_lt3 hc7__12 hN1 hN3))) (g := (mkF m 12 #[rv a1, rv a2, iv p3, iv p4, iv p5, iv p6, .unset, .unset, .unset] [(.int p3), (.ref a2)])) rfl rfl (hb hby d13_12)) ?_
   show own_Go _ _ _ _ (s₁.setTop (mkF m 13 #[rv a1, rv a2, iv p3, iv p4, iv p5, iv p6, .unset, .unset, .unset] [(.int (f p3))]))
   refine o_istore X0 Hq d13_13 (l' := #[rv a1, rv a2, iv p3, iv p4, iv p5, iv p6, iv (f p3), .unset, .unset]) rfl (o_goto X0 Hq (pc' := 25) d13_15 (o_iloadN X0 Hq d13_25 rfl (o_iloadN X0 Hq d13_26 rfl (o_icmpNo X0 Hq d13_27 (tlt hc7__12).2.1 (o_aloadN X0 Hq d13_30 rfl rfl (o_iloadN X0 Hq d13_31 rfl ?_))))))
   obtain ⟨cl_14, Ar_14, qk_14, Sz_14, Ng_14, Hs_14, Gs_14⟩ := id V3
   refine own_st (X0.caload hx (j := p3) (v := (.int (f p3))) (by rw [e0]; exact Ar_14.1) (State.isArrayOf_alike hZ.alike Ar_14.2.1) Ar_14.2.2 (inb_of Sz_14 ⟨hp0, own_lt3 hc7__12 hN1 hN3⟩) (Hs_14.at (j := p3) (inb_of Sz_14 ⟨hp0, own_lt3 hc7__12 hN1 hN3⟩) (hcs p3 hp0 (own_lt3 hc7__12 hN1 hN3))) (g := (mkF m 32 #[rv a1, rv a2, iv p3, iv p4, iv p5, iv p6, iv (f p3), .unset, .unset] [(.int p3), (.ref a2)])) rfl rfl (hb hby d13_32)) ?_
   show own_Go _ _ _ _ (s₁.setTop (mkF m 33 #[rv a1, rv a2, iv p3, iv p4, iv p5, iv p6, iv (f p3), .unset, .unset] [(.int (f p3))]))
   refine o_iload X0 Hq d13_33 rfl (o_icmpNo X0 Hq d13_35 (teq (rfl : (f p3) = (f p3))).2 (o_iconst X0 Hq 1 d13_38 rfl (o_goto X0 Hq (pc' := 43) d13_39 (o_istore X0 Hq d13_43 (l' := #[rv a1, rv a2, iv p3, iv p4, iv p5, iv p6, iv (f p3), iv 1, .unset]) rfl (o_aloadN X0 Hq d13_45 rfl rfl (o_iload X0 Hq d13_46 rfl ?_))))))
   refine c_U1 X0 Hq e0 hZ hown hml (k13_18U1 hw) (rmskip_yes hw a1 (f p3) a3 p3 p4 b k1 N vs d1 w sfv f h0 n0 Z0 E1 g1 F1 F2 F3 n31 nb1 E_s F_v F_c V_s S1 hw0 hat hf S2 hsf hp0 (own_ltN hc7__12 hN1) hc7__12 rfl) E1 d13_48 ?_ 0
   rintro T_15 L_15 _ X_15 ⟨⟨⟩, Nq_15, K_15, Fq_15_0, Fq_15_1, Fq_15_2⟩
   have N_15 := Fr.app (Fr.nil n0) Nq_15
   refine o_istore X_15 Hq d13_51 (l' := #[rv a1, rv a2, iv p3, iv p4, iv p5, iv p6, iv (f p3), iv 1, iv 1]) rfl (o_iload X_15 Hq d13_53 rfl (o_iload X_15 Hq d13_55 rfl (o_icmpYes X_15 Hq (pc' := 62) d13_57 (by decide) (o_iload X_15 Hq d13_62 rfl (o_ifNo X_15 Hq d13_64 (by decide) (o_iloadN X_15 Hq d13_67 rfl (o_iconst X_15 Hq 1 d13_68 rfl (o_iadd X_15 Hq d13_69 ?_))))))))
   have Kp_16 : Keep h0 T_15.heap [a1] := ((Keep.refl h0 [a1]).trans K_15 (allS (Or.inl (List.mem_of_getElem? (i := 0) rfl)) all0))
   exact e_I X_15 rfl Hq hlk hrt d13_70 ⟨(p3 + (1 : Int32)), rfl, N_15, Kp_16, Fq_15_0, Fq_15_1, Fq_15_2, (own_incL hp0 hc7__12 hN1 hN3).1, (own_incL hp0 hc7__12 hN1 hN3).2⟩
  ·refine o_icmpYes X0 Hq (pc' := 18) d13_7 (flt hc7__12).2.1 (o_iload X0 Hq d13_18 rfl ?_)
   refine c_S1 X0 Hq e0 hZ hown hml (k13_12 hw) (rm1 hw p6  h0 n0 Z0) d13_20 ?_ 0
   rintro T_17 L_17 _ X_17 ⟨⟨⟩, Nq_17, e_17⟩
   have N_17 := Fr.app (Fr.nil n0) Nq_17
   refine o_istore X_17 Hq d13_23 (l' := #[rv a1, rv a2, iv p3, iv p4, iv p5, iv p6, iv (own_draw p6), .unset, .unset]) rfl (o_iloadN X_17 Hq d13_25 rfl (o_iloadN X_17 Hq d13_26 rfl (o_icmpYes X_17 Hq (pc' := 42) d13_27 (flt hc7__12).2.1 (o_iconst X_17 Hq 0 d13_42 rfl (o_istore X_17 Hq d13_43 (l' := #[rv a1, rv a2, iv p3, iv p4, iv p5, iv p6, iv (own_draw p6), iv 0, .unset]) rfl (o_aloadN X_17 Hq d13_45 rfl rfl (o_iload X_17 Hq d13_46 rfl ?_)))))))
   refine c_U1 X_17 Hq e_17 hZ hown hml (k13_18U1 hw) (rmskip_end hw a1 (own_draw p6) a3 p3 p4 b k1 N vs d1 w sfv f h0 n0 Z0 E1 g1 F1 F2 F3 n31 nb1 E_s F_v F_c V_s S1 hw0 hat hf S2 hsf hc7__12) E1 d13_48 ?_ 0
   rintro T_18 L_18 _ X_18 ⟨⟨⟩, Nq_18, K_18, Fq_18_0, Fq_18_1, Fq_18_2⟩
   have N_18 := Fr.app N_17 Nq_18
   refine o_istore X_18 Hq d13_51 (l' := #[rv a1, rv a2, iv p3, iv p4, iv p5, iv p6, iv (own_draw p6), iv 0, iv 0]) rfl (o_iload X_18 Hq d13_53 rfl (o_iload X_18 Hq d13_55 rfl (o_icmpYes X_18 Hq (pc' := 62) d13_57 (by decide) (o_iload X_18 Hq d13_62 rfl (o_ifYes X_18 Hq (pc' := 71) d13_64 (by decide) (o_iloadN X_18 Hq d13_71 rfl ?_))))))
   have Kp_19 : Keep h0 T_18.heap [a1] := ((Keep.refl h0 [a1]).trans K_18 (allS (Or.inl (List.mem_of_getElem? (i := 0) rfl)) all0))
   exact e_I X_18 rfl Hq hlk hrt d13_72 ⟨p3, rfl, N_18, Kp_19, Fq_18_0, Fq_18_1, Fq_18_2, hp0, hp1⟩
def Q_rm0 (Z : State) (a0 : Array Value) (p1 p2 p3 p4 p5 p6 w : Int32) (sfv : Value) (h0 : Heap) (n0 : Nat) (v : Option Value) (h : Heap) (L : List Loc) : Prop := v = some (.int (1 : Int32)) ∧ Fr n0 L ∧ Keep h0 h []
theorem k0_34U1 {a0 : Array Value} {Z : State} (hw : HW a0 Z) : own_KU a0 Z "com/example/vernum/vernum/VersionScannerAtEndPinLaw" "com/example/vernum/vernum/VersionScanner" 34 y17_ y17_ prog_24_method_6_code 1 (some .boolean) 0 := ⟨⟨(w_ hw 58 rfl), ⟨_, _, pd_8, rfl⟩, by decide⟩, (w_ hw 59 rfl), (w_ hw 61 rfl), (w_ hw 60 rfl), (w_ hw 39 rfl), (w_ hw 62 rfl)⟩
section Sm
variable {p : Program} {l : Launch} {e : Env} {R : Room} {s : State} {m : MethodId} {args : Array Value} {below : List Frame} {meth : Method} {c : Code} {T : State} {locs : List Loc} {cells slots : Nat} {P : Outcome → State → Prop} {pc : Nat} {Ls : Array Slot} {st : List Value}
theorem e_ZW {vm₁ : Vm} (X : Stand p l e R (s.setVm vm₁) m args below meth c T locs cells slots) {n : Nat} (hS : s.Since vm₁ n) {h : Heap} (eT : T.heap = h) (hn : n ≤ h.size) {cb : ByteArray} (hq : p.tables.exec = Jvm.exec ∧ c.code = cb) (hlk : meth.locks = false) {z : Int32} {rest : List Value} (hrt : meth.sig.returnType = some .boolean) (hd : decode cb pc = .ok (.ireturn, 1)) {Q : Option Value → Heap → List Loc → Prop} (hQ : Q (some (.int (nar .boolean z))) h locs) (hcs : cells ≤ R.cells ∧ slots ≤ R.slots := by decide) :
  own_Go p.tables e below (own_PW s Q R) (T.setTop (mkF m pc Ls (.int z :: rest))) := own_endW X hS eT hn (v := (some (.int (nar .boolean z)))) (fun h => by rw [hrt] at h; cases h) hlk (fun fs hr => retN X hq.1 (z := z) (t := .boolean) hrt (by simp) (hb hq.2 hd) hr) (Q := Q) hQ hcs.1 hcs.2
end Sm
theorem pd_14 : parseMethodDescriptor "(Lcom/example/vernum/vernum/VersionScanner;[CIIZI)I" = some ⟨[(.object "com/example/vernum/vernum/VersionScanner"), (.array .char), .int, .int, .boolean, .int], some .int⟩ := by decide +kernel
section Sm
variable {p : Program} {l : Launch} {e : Env} {R : Room} {s : State} {m : MethodId} {args : Array Value} {below : List Frame} {meth : Method} {c : Code} {T : State} {locs : List Loc} {cells slots : Nat} {P : Outcome → State → Prop} {pc : Nat} {Ls : Array Slot} {st : List Value}
theorem c_S6 (X : Stand p l e R s m args below meth c T locs cells slots) {cb : ByteArray} (hq : p.tables.exec = Jvm.exec ∧ c.code = cb) {Z : State} {a0 : Array Value} {h : Heap} {own C : String} {index : Nat} {y z : MethodName} {bytes : ByteArray} {maxL ML : Nat} {ret : Option FieldType} {rm : Room} {Q : Option Value → Heap → List Loc → Prop} {v1 v2 v3 v4 v5 v6 : Value}
  (eT : T.heap = h) (hZ : Z.Warmed39 s.vm) (hown : s.vm.findClass own = some m.cls) (hml : c.maxLocals = ML) (hK : own_KS a0 Z own C index y z bytes maxL ret 6) (hM : own_Met l y bytes maxL ret rm #[v1, v2, v3, v4, v5, v6] Z h Q)
  (hd : decode cb pc = .ok (.invokestatic index, 3)) 
  (k : ∀ (T' : State) (L : List Loc) (w : Value), Stand p l e R s m args below meth c T' (locs ++ L) (cells + rm.cells) (slots + rm.slots) → Q (some w) T'.heap L → own_Go p.tables e below P (T'.setTop (mkF m (pc + 3) Ls (w :: st)))) (W : Nat) (hsz : Ls.size = ML := by rfl) (hW : (st.map fun v => v.category).sum = W := by rfl) (sd : rm.frames + 1 ≤ R.frames ∧ W + (maxL + 11) + rm.locals ≤ R.locals ∧ cells + rm.cells ≤ R.cells ∧ slots + rm.slots ≤ R.slots := by decide) (hv : ∀ v h L, Q v h L → ∃ w, v = some w := by intro v h L q; first | exact Exists.intro _ q.1 | (obtain ⟨_, q⟩ := q; exact Exists.intro _ q.1) | (obtain ⟨_, _, q⟩ := q; exact Exists.intro _ q.1) | (obtain ⟨_, _, _, q⟩ := q; exact Exists.intro _ q.1)) : own_Go p.tables e below P (T.setTop (mkF m pc Ls (v6 :: v5 :: v4 :: v3 :: v2 :: v1 :: st))) := by
 obtain ⟨⟨w1, ⟨ps, r, hp, hlen⟩, hy⟩, w2, w3, w4⟩ := hK
 obtain ⟨v, vm1, ⟨T', L0, k0, n0⟩, -, X', ⟨L, hQ, e1, e2, e3⟩, hst⟩ := Jvm.LawKit.callS X hq.1 (y := y) hown (mvT hZ w1) (mvT hZ w2) (mvT hZ w3) (mvT hZ w4) hy (backOf (W := W) (Q := Q) hM hZ w4 w3 sd.1 sd.2.1) (g := mkF m pc Ls (v6 :: v5 :: v4 :: v3 :: v2 :: v1 :: st)) rfl (by rw [hml]; exact hsz) (argsL := [v1, v2, v3, v4, v5, v6]) (rest := st) (lenOf hp hlen) rfl (by show 2 * 0 + _ ≤ _; rw [Nat.mul_zero, Nat.zero_add]; exact Nat.le_of_eq hW) (hb hq.2 hd) (fun _ _ => ⟨rfl, eT, sd.2.2.1, sd.2.2.2⟩)
 dsimp only [Pt.U, Pt.locs, Pt.cells, Pt.slots] at X' e1 e2 e3 hst hQ
 subst e1 e2 e3
 obtain ⟨w, rfl⟩ := hv _ _ _ hQ
 exact own_st hst (k _ _ _ X' hQ)
end Sm
theorem k0_38 {a0 : Array Value} {Z : State} (hw : HW a0 Z) : own_KS a0 Z "com/example/vernum/vernum/VersionScannerAtEndPinLaw" "" 38 y18_ y18_ method_4_code 9 (some .int) 6 := ⟨⟨(w_ hw 65 rfl), ⟨_, _, pd_14, rfl⟩, by decide⟩, (w_ hw 66 rfl), (w_ hw 2 rfl), (w_ hw 67 rfl)⟩
theorem own_tail {p : Program} {l : Launch} {e : Env} {s : State} {m : MethodId} {below : List Frame} {meth : Method} {c : Code} {T : State} {locs : List Loc} {cells slots : Nat} {Z : State} {a0 : Array Value} {h h0 : Heap} {n0 : Nat} {vm : Vm} {kS : Nat} (p1 p2 p3 p4 p5 p6 w : Int32) (sfv : Value) (c0 c1 c2 nn tr kk ps en Ln : Int32) (a1 a2 a3 b : Addr) (kc : ClassId) (vc : List Value) (dc : Value) (k1 : ClassId) (vs : List Value) (d1 : Value) (f : Int32 → Int32) (l17 l18 : Slot)
  (X : Stand p l e room_1 (s.setVm vm) m #[(.int p1), (.int p2), (.int p3), (.int p4), (.int p5), (.int p6)] below meth c T locs cells slots) (hx : p.tables.exec = Jvm.exec) (hZ : Z.Warmed39 (s.setVm vm).vm) (hw : HW a0 Z) (hby : c.code = code) (hml : c.maxLocals = 19) (hown : (s.setVm vm).vm.findClass "com/example/vernum/vernum/VersionScannerAtEndPinLaw" = some m.cls) (hret : meth.sig.returnType = some .boolean) (hlk : meth.locks = false) (eT : T.heap = h) (N : Fr n0 locs) (Zh : n0 ≤ h.size) (Kh : Keep h0 h []) (hS : s.Since vm kS) (hk : kS ≤ h.size) (hcl : cells ≤ room_1.cells) (hsl : slots ≤ room_1.slots) (E1 : Exa Z h a1 "com/example/vernum/vernum/VersionScanner") (g1 : n0 ≤ a1) (sz1 : h0.size ≤ a1) (F1 : Fld Z h a1 "com/example/vernum/vernum/VersionScanner" "input" "Ljava/lang/String;" (.ref a3)) (F2 : Fld Z h a1 "com/example/vernum/vernum/VersionScanner" "end" "I" (.int en)) (F3 : Fld Z h a1 "com/example/vernum/vernum/VersionScanner" "position" "I" (.int ps)) (V3 : Arv Z h a2 kc .char (3 : Int32) vc dc) (E_s : Exa Z h a3 "java/lang/String") (F_v : Fld Z h a3 "java/lang/String" "value" "[B" (.ref b)) (F_c : Fld Z h a3 "java/lang/String" "coder" "B" (.int (0 : Int32))) (V_s : Arv Z h b k1 .byte Ln vs d1) (S1 : Sta Z h "java/lang/String" "COMPACT_STRINGS" "Z" (.int w)) (S2 : Sta Z h "jdk/internal/util/Preconditions" "SIOOBE_FORMATTER" "Ljava/util/function/BiFunction;" sfv) (n31 : a3 ≠ a1) (nb1 : b ≠ a1) (n21 : a2 ≠ a1) (hw0 : ¬ w = (0 : Int32)) (hsf : sfv.isRef = true) (hcs : ∀ i : Int32, ¬ i < 0 → i < (3 : Int32) → vc.getD i.toNatClampNeg dc = .int (f i)) (hat : ∀ i : Int32, ¬ i < 0 → i < Ln → vs.getD i.toNatClampNeg d1 = .int (((f i).toInt8.toInt32).toInt8.toInt32)) (hf : ∀ i : Int32, ¬ (255 : Int32) < f i ∧ ¬ f i < 0) (hp0 : ¬ ps < 0) (hp1 : ¬ en < ps) (hN1 : ¬ Ln < en) (hN3 : ¬ (3 : Int32) < Ln) :
  own_Go p.tables e below (own_PW s (Q_rm0 Z a0 p1 p2 p3 p4 p5 p6 w sfv h0 n0) room_1) (T.setTop (mkF m 239 #[iv p1, iv p2, iv p3, iv p4, iv p5, iv p6, iv c0, iv c1, iv c2, rv a2, iv nn, iv tr, iv kk, rv a3, rv a1, iv ps, iv en, l17, l18] [])) := by
 have Hq := And.intro hx hby
 have hrt := hret
 refine o_aload X Hq at_239 rfl rfl ?_
 refine c_U0 X Hq eT hZ hown hml (k0_34U1 hw) (rm12 hw a1 ps en h n0 Zh F3 F2) E1 at_241 ?_ 0 (sd := ⟨by decide, by decide, hcl, hsl⟩)
 rintro T_1 L_1 _ X_1 ⟨⟨⟩, Nq_1, e_1⟩
 have N_1 := Fr.app N Nq_1
 refine o_iload X_1 Hq at_244 rfl (o_iload X_1 Hq at_246 rfl ?_)
 by_cases hc248__2 : ps = en
 ·refine o_icmpNo X_1 Hq at_248 (teq hc248__2).2 (o_iconst X_1 Hq 1 at_251 rfl (o_goto X_1 Hq (pc' := 256) at_252 (o_icmpYes X_1 Hq (pc' := 261) at_256 (teq (if_pos hc248__2)).1 (o_iload X_1 Hq at_261 rfl (o_iconst X_1 Hq 1 at_263 rfl ?_)))))
  by_cases hc264__3 : kk < (1 : Int32)
  ·refine o_icmpYes X_1 Hq (pc' := 299) at_264 (tlt hc264__3).1 (o_iload X_1 Hq at_299 rfl (o_iconst X_1 Hq 2 at_301 rfl ?_))
   by_cases hc302__4 : kk < (2 : Int32)
   ·refine o_icmpYes X_1 Hq (pc' := 338) at_302 (tlt hc302__4).1 (o_iload X_1 Hq at_338 rfl (o_iconst X_1 Hq 3 at_340 rfl ?_))
    by_cases hc341__5 : kk < (3 : Int32)
    ·refine o_icmpYes X_1 Hq (pc' := 377) at_341 (tlt hc341__5).1 (o_aload X_1 Hq at_377 rfl rfl ?_)
     refine c_U0 X_1 Hq e_1 hZ hown hml (k0_34U1 hw) (rm12 hw a1 ps en h n0 Zh F3 F2) E1 at_379 ?_ 0 (sd := ⟨by decide, by decide, hcl, hsl⟩)
     rintro T_6 L_6 _ X_6 ⟨⟨⟩, Nq_6, e_6⟩
     have N_6 := Fr.app N_1 Nq_6
     refine o_iload X_6 Hq at_382 rfl (o_iload X_6 Hq at_384 rfl (o_icmpNo X_6 Hq at_386 (teq hc248__2).2 (o_iconst X_6 Hq 1 at_389 rfl (o_goto X_6 Hq (pc' := 394) at_390 (o_icmpNo X_6 Hq at_394 (teq (if_pos hc248__2)).2 (o_iconst X_6 Hq 1 at_397 rfl (o_goto X_6 Hq (pc' := 402) at_398 ?_)))))))
     have Ks_7 := hk
     exact e_ZW X_6 hS e_6 Ks_7 Hq hlk hrt at_402 ⟨rfl, N_6, Kh⟩ ⟨hcl, hsl⟩
    ·refine o_icmpNo X_1 Hq at_341 (flt hc341__5).1 (o_aload X_1 Hq at_344 rfl rfl (o_aload X_1 Hq at_346 rfl rfl (o_iload X_1 Hq at_348 rfl (o_iload X_1 Hq at_350 rfl (o_iloadN X_1 Hq at_352 rfl (o_iconst X_1 Hq 4 at_353 rfl (o_iand X_1 Hq at_354 ?_)))))))
     by_cases hc355__8 : (p4 &&& (4 : Int32)) = (0 : Int32)
     ·refine o_ifYes X_1 Hq (pc' := 362) at_355 (teq hc355__8).1 (o_iconst X_1 Hq 0 at_362 rfl (o_iload X_1 Hq at_363 rfl ?_))
      refine c_S6 X_1 Hq e_1 hZ hown hml (k0_38 hw) (rmstep hw a1 a2 ps en (0 : Int32) p6 a3 kc vc dc b k1 Ln vs d1 w sfv f h n0 Zh E1 g1 F1 F2 F3 n31 nb1 V3 hcs E_s F_v F_c V_s S1 hw0 hat hf S2 hsf hp0 hp1 hN1 hN3) at_365 ?_ 0 (sd := ⟨by decide, by decide, hcl, hsl⟩)
      rintro T_9 L_9 _ X_9 ⟨r__9, ⟨⟩, Nq_9, K_9, Fq_9_0, Fq_9_1, Fq_9_2, Pq_9_0, Pq_9_1⟩
      have N_9 := Fr.app N_1 Nq_9
      refine o_istore X_9 Hq at_368 (l' := #[iv p1, iv p2, iv p3, iv p4, iv p5, iv p6, iv c0, iv c1, iv c2, rv a2, iv nn, iv tr, iv kk, rv a3, rv a1, iv r__9, iv en, l17, l18]) rfl (o_iload X_9 Hq at_370 rfl (o_ifYes X_9 Hq (pc' := 377) at_372 (flt Pq_9_0).2.1 (o_aload X_9 Hq at_377 rfl rfl ?_)))
      have Zs_11 : n0 ≤ T_9.heap.size := (Nat.le_trans Zh K_9.1)
      have Fa_12 := (E1.keep K_9)
      refine c_U0 X_9 Hq rfl hZ hown hml (k0_34U1 hw) (rm12 hw a1 r__9 en T_9.heap n0 Zs_11 Fq_9_2 Fq_9_1) Fa_12 at_379 ?_ 0 (sd := ⟨by decide, by decide, hcl, hsl⟩)
      rintro T_10 L_10 _ X_10 ⟨⟨⟩, Nq_10, e_10⟩
      have N_10 := Fr.app N_9 Nq_10
      refine o_iload X_10 Hq at_382 rfl (o_iload X_10 Hq at_384 rfl ?_)
      by_cases hc386__13 : r__9 = en
      ·refine o_icmpNo X_10 Hq at_386 (teq hc386__13).2 (o_iconst X_10 Hq 1 at_389 rfl (o_goto X_10 Hq (pc' := 394) at_390 (o_icmpNo X_10 Hq at_394 (teq (if_pos hc386__13)).2 (o_iconst X_10 Hq 1 at_397 rfl (o_goto X_10 Hq (pc' := 402) at_398 ?_)))))
       have Kp_14 : Keep h0 T_9.heap [] := (Kh.trans K_9 (allS (Or.inr sz1) all0))
       have Ks_15 := (Nat.le_trans hk K_9.1)
       exact e_ZW X_10 hS e_10 Ks_15 Hq hlk hrt at_402 ⟨rfl, N_10, Kp_14⟩ ⟨hcl, hsl⟩
      ·refine o_icmpYes X_10 Hq (pc' := 393) at_386 (feq hc386__13).2 (o_iconst X_10 Hq 0 at_393 rfl (o_icmpNo X_10 Hq at_394 (teq (if_neg hc386__13)).2 (o_iconst X_10 Hq 1 at_397 rfl (o_goto X_10 Hq (pc' := 402) at_398 ?_))))
       have Kp_16 : Keep h0 T_9.heap [] := (Kh.trans K_9 (allS (Or.inr sz1) all0))
       have Ks_17 := (Nat.le_trans hk K_9.1)
       exact e_ZW X_10 hS e_10 Ks_17 Hq hlk hrt at_402 ⟨rfl, N_10, Kp_16⟩ ⟨hcl, hsl⟩
     ·refine o_ifNo X_1 Hq at_355 (feq hc355__8).1 (o_iconst X_1 Hq 1 at_358 rfl (o_goto X_1 Hq (pc' := 363) at_359 (o_iload X_1 Hq at_363 rfl ?_)))
      refine c_S6 X_1 Hq e_1 hZ hown hml (k0_38 hw) (rmstep hw a1 a2 ps en (1 : Int32) p6 a3 kc vc dc b k1 Ln vs d1 w sfv f h n0 Zh E1 g1 F1 F2 F3 n31 nb1 V3 hcs E_s F_v F_c V_s S1 hw0 hat hf S2 hsf hp0 hp1 hN1 hN3) at_365 ?_ 0 (sd := ⟨by decide, by decide, hcl, hsl⟩)
      rintro T_18 L_18 _ X_18 ⟨r__18, ⟨⟩, Nq_18, K_18, Fq_18_0, Fq_18_1, Fq_18_2, Pq_18_0, Pq_18_1⟩
      have N_18 := Fr.app N_1 Nq_18
      refine o_istore X_18 Hq at_368 (l' := #[iv p1, iv p2, iv p3, iv p4, iv p5, iv p6, iv c0, iv c1, iv c2, rv a2, iv nn, iv tr, iv kk, rv a3, rv a1, iv r__18, iv en, l17, l18]) rfl (o_iload X_18 Hq at_370 rfl (o_ifYes X_18 Hq (pc' := 377) at_372 (flt Pq_18_0).2.1 (o_aload X_18 Hq at_377 rfl rfl ?_)))
      have Zs_20 : n0 ≤ T_18.heap.size := (Nat.le_trans Zh K_18.1)
      have Fa_21 := (E1.keep K_18)
      refine c_U0 X_18 Hq rfl hZ hown hml (k0_34U1 hw) (rm12 hw a1 r__18 en T_18.heap n0 Zs_20 Fq_18_2 Fq_18_1) Fa_21 at_379 ?_ 0 (sd := ⟨by decide, by decide, hcl, hsl⟩)
      rintro T_19 L_19 _ X_19 ⟨⟨⟩, Nq_19, e_19⟩
      have N_19 := Fr.app N_18 Nq_19
      refine o_iload X_19 Hq at_382 rfl (o_iload X_19 Hq at_384 rfl ?_)
      by_cases hc386__22 : r__18 = en
      ·refine o_icmpNo X_19 Hq at_386 (teq hc386__22).2 (o_iconst X_19 Hq 1 at_389 rfl (o_goto X_19 Hq (pc' := 394) at_390 (o_icmpNo X_19 Hq at_394 (teq (if_pos hc386__22)).2 (o_iconst X_19 Hq 1 at_397 rfl (o_goto X_19 Hq (pc' := 402) at_398 ?_)))))
       have Kp_23 : Keep h0 T_18.heap [] := (Kh.trans K_18 (allS (Or.inr sz1) all0))
       have Ks_24 := (Nat.le_trans hk K_18.1)
       exact e_ZW X_19 hS e_19 Ks_24 Hq hlk hrt at_402 ⟨rfl, N_19, Kp_23⟩ ⟨hcl, hsl⟩
      ·refine o_icmpYes X_19 Hq (pc' := 393) at_386 (feq hc386__22).2 (o_iconst X_19 Hq 0 at_393 rfl (o_icmpNo X_19 Hq at_394 (teq (if_neg hc386__22)).2 (o_iconst X_19 Hq 1 at_397 rfl (o_goto X_19 Hq (pc' := 402) at_398 ?_))))
       have Kp_25 : Keep h0 T_18.heap [] := (Kh.trans K_18 (allS (Or.inr sz1) all0))
       have Ks_26 := (Nat.le_trans hk K_18.1)
       exact e_ZW X_19 hS e_19 Ks_26 Hq hlk hrt at_402 ⟨rfl, N_19, Kp_25⟩ ⟨hcl, hsl⟩
   ·refine o_icmpNo X_1 Hq at_302 (flt hc302__4).1 (o_aload X_1 Hq at_305 rfl rfl (o_aload X_1 Hq at_307 rfl rfl (o_iload X_1 Hq at_309 rfl (o_iload X_1 Hq at_311 rfl (o_iloadN X_1 Hq at_313 rfl (o_iconst X_1 Hq 2 at_314 rfl (o_iand X_1 Hq at_315 ?_)))))))
    by_cases hc316__27 : (p4 &&& (2 : Int32)) = (0 : Int32)
    ·refine o_ifYes X_1 Hq (pc' := 323) at_316 (teq hc316__27).1 (o_iconst X_1 Hq 0 at_323 rfl (o_iload X_1 Hq at_324 rfl ?_))
     refine c_S6 X_1 Hq e_1 hZ hown hml (k0_38 hw) (rmstep hw a1 a2 ps en (0 : Int32) p5 a3 kc vc dc b k1 Ln vs d1 w sfv f h n0 Zh E1 g1 F1 F2 F3 n31 nb1 V3 hcs E_s F_v F_c V_s S1 hw0 hat hf S2 hsf hp0 hp1 hN1 hN3) at_326 ?_ 0 (sd := ⟨by decide, by decide, hcl, hsl⟩)
     rintro T_28 L_28 _ X_28 ⟨r__28, ⟨⟩, Nq_28, K_28, Fq_28_0, Fq_28_1, Fq_28_2, Pq_28_0, Pq_28_1⟩
     have N_28 := Fr.app N_1 Nq_28
     refine o_istore X_28 Hq at_329 (l' := #[iv p1, iv p2, iv p3, iv p4, iv p5, iv p6, iv c0, iv c1, iv c2, rv a2, iv nn, iv tr, iv kk, rv a3, rv a1, iv r__28, iv en, l17, l18]) rfl (o_iload X_28 Hq at_331 rfl (o_ifYes X_28 Hq (pc' := 338) at_333 (flt Pq_28_0).2.1 (o_iload X_28 Hq at_338 rfl (o_iconst X_28 Hq 3 at_340 rfl ?_))))
     by_cases hc341__29 : kk < (3 : Int32)
     ·refine o_icmpYes X_28 Hq (pc' := 377) at_341 (tlt hc341__29).1 (o_aload X_28 Hq at_377 rfl rfl ?_)
      have Zs_31 : n0 ≤ T_28.heap.size := (Nat.le_trans Zh K_28.1)
      have Fa_32 := (E1.keep K_28)
      refine c_U0 X_28 Hq rfl hZ hown hml (k0_34U1 hw) (rm12 hw a1 r__28 en T_28.heap n0 Zs_31 Fq_28_2 Fq_28_1) Fa_32 at_379 ?_ 0 (sd := ⟨by decide, by decide, hcl, hsl⟩)
      rintro T_30 L_30 _ X_30 ⟨⟨⟩, Nq_30, e_30⟩
      have N_30 := Fr.app N_28 Nq_30
      refine o_iload X_30 Hq at_382 rfl (o_iload X_30 Hq at_384 rfl ?_)
      by_cases hc386__33 : r__28 = en
      ·refine o_icmpNo X_30 Hq at_386 (teq hc386__33).2 (o_iconst X_30 Hq 1 at_389 rfl (o_goto X_30 Hq (pc' := 394) at_390 (o_icmpNo X_30 Hq at_394 (teq (if_pos hc386__33)).2 (o_iconst X_30 Hq 1 at_397 rfl (o_goto X_30 Hq (pc' := 402) at_398 ?_)))))
       have Kp_34 : Keep h0 T_28.heap [] := (Kh.trans K_28 (allS (Or.inr sz1) all0))
       have Ks_35 := (Nat.le_trans hk K_28.1)
       exact e_ZW X_30 hS e_30 Ks_35 Hq hlk hrt at_402 ⟨rfl, N_30, Kp_34⟩ ⟨hcl, hsl⟩
      ·refine o_icmpYes X_30 Hq (pc' := 393) at_386 (feq hc386__33).2 (o_iconst X_30 Hq 0 at_393 rfl (o_icmpNo X_30 Hq at_394 (teq (if_neg hc386__33)).2 (o_iconst X_30 Hq 1 at_397 rfl (o_goto X_30 Hq (pc' := 402) at_398 ?_))))
       have Kp_36 : Keep h0 T_28.heap [] := (Kh.trans K_28 (allS (Or.inr sz1) all0))
       have Ks_37 := (Nat.le_trans hk K_28.1)
       exact e_ZW X_30 hS e_30 Ks_37 Hq hlk hrt at_402 ⟨rfl, N_30, Kp_36⟩ ⟨hcl, hsl⟩
     ·refine o_icmpNo X_28 Hq at_341 (flt hc341__29).1 (o_aload X_28 Hq at_344 rfl rfl (o_aload X_28 Hq at_346 rfl rfl (o_iload X_28 Hq at_348 rfl (o_iload X_28 Hq at_350 rfl (o_iloadN X_28 Hq at_352 rfl (o_iconst X_28 Hq 4 at_353 rfl (o_iand X_28 Hq at_354 ?_)))))))
      by_cases hc355__38 : (p4 &&& (4 : Int32)) = (0 : Int32)
      ·refine o_ifYes X_28 Hq (pc' := 362) at_355 (teq hc355__38).1 (o_iconst X_28 Hq 0 at_362 rfl (o_iload X_28 Hq at_363 rfl ?_))
       have Fa_40 := (E1.keep K_28)
       have Fa_41 := (V3.keep K_28 (ninS n21 nin0))
       have Fa_42 := (E_s.keep K_28)
       have Fa_43 := (F_v.keep K_28 (ninS n31 nin0))
       have Fa_44 := (F_c.keep K_28 (ninS n31 nin0))
       have Fa_45 := (V_s.keep K_28 (ninS nb1 nin0))
       have Fa_46 := (own_Sta_keep S1 K_28 (nsS (E1.nostat) ns0))
       have Fa_47 := (own_Sta_keep S2 K_28 (nsS (E1.nostat) ns0))
       have Zs_48 : n0 ≤ T_28.heap.size := (Nat.le_trans Zh K_28.1)
       refine c_S6 X_28 Hq rfl hZ hown hml (k0_38 hw) (rmstep hw a1 a2 r__28 en (0 : Int32) p6 a3 kc vc dc b k1 Ln vs d1 w sfv f T_28.heap n0 Zs_48 Fa_40 g1 Fq_28_0 Fq_28_1 Fq_28_2 n31 nb1 Fa_41 hcs Fa_42 Fa_43 Fa_44 Fa_45 Fa_46 hw0 hat hf Fa_47 hsf Pq_28_0 Pq_28_1 hN1 hN3) at_365 ?_ 0 (sd := ⟨by decide, by decide, hcl, hsl⟩)
       rintro T_39 L_39 _ X_39 ⟨r__39, ⟨⟩, Nq_39, K_39, Fq_39_0, Fq_39_1, Fq_39_2, Pq_39_0, Pq_39_1⟩
       have N_39 := Fr.app N_28 Nq_39
       refine o_istore X_39 Hq at_368 (l' := #[iv p1, iv p2, iv p3, iv p4, iv p5, iv p6, iv c0, iv c1, iv c2, rv a2, iv nn, iv tr, iv kk, rv a3, rv a1, iv r__39, iv en, l17, l18]) rfl (o_iload X_39 Hq at_370 rfl (o_ifYes X_39 Hq (pc' := 377) at_372 (flt Pq_39_0).2.1 (o_aload X_39 Hq at_377 rfl rfl ?_)))
       have Zs_50 : n0 ≤ T_39.heap.size := (Nat.le_trans Zs_48 K_39.1)
       have Fa_51 := (Fa_40.keep K_39)
       refine c_U0 X_39 Hq rfl hZ hown hml (k0_34U1 hw) (rm12 hw a1 r__39 en T_39.heap n0 Zs_50 Fq_39_2 Fq_39_1) Fa_51 at_379 ?_ 0 (sd := ⟨by decide, by decide, hcl, hsl⟩)
       rintro T_49 L_49 _ X_49 ⟨⟨⟩, Nq_49, e_49⟩
       have N_49 := Fr.app N_39 Nq_49
       refine o_iload X_49 Hq at_382 rfl (o_iload X_49 Hq at_384 rfl ?_)
       by_cases hc386__52 : r__39 = en
       ·refine o_icmpNo X_49 Hq at_386 (teq hc386__52).2 (o_iconst X_49 Hq 1 at_389 rfl (o_goto X_49 Hq (pc' := 394) at_390 (o_icmpNo X_49 Hq at_394 (teq (if_pos hc386__52)).2 (o_iconst X_49 Hq 1 at_397 rfl (o_goto X_49 Hq (pc' := 402) at_398 ?_)))))
        have Kp_53 : Keep h0 T_39.heap [] := ((Kh.trans K_28 (allS (Or.inr sz1) all0)).trans K_39 (allS (Or.inr sz1) all0))
        have Ks_54 := (Nat.le_trans (Nat.le_trans hk K_28.1) K_39.1)
        exact e_ZW X_49 hS e_49 Ks_54 Hq hlk hrt at_402 ⟨rfl, N_49, Kp_53⟩ ⟨hcl, hsl⟩
       ·refine o_icmpYes X_49 Hq (pc' := 393) at_386 (feq hc386__52).2 (o_iconst X_49 Hq 0 at_393 rfl (o_icmpNo X_49 Hq at_394 (teq (if_neg hc386__52)).2 (o_iconst X_49 Hq 1 at_397 rfl (o_goto X_49 Hq (pc' := 402) at_398 ?_))))
        have Kp_55 : Keep h0 T_39.heap [] := ((Kh.trans K_28 (allS (Or.inr sz1) all0)).trans K_39 (allS (Or.inr sz1) all0))
        have Ks_56 := (Nat.le_trans (Nat.le_trans hk K_28.1) K_39.1)
        exact e_ZW X_49 hS e_49 Ks_56 Hq hlk hrt at_402 ⟨rfl, N_49, Kp_55⟩ ⟨hcl, hsl⟩
      ·refine o_ifNo X_28 Hq at_355 (feq hc355__38).1 (o_iconst X_28 Hq 1 at_358 rfl (o_goto X_28 Hq (pc' := 363) at_359 (o_iload X_28 Hq at_363 rfl ?_)))
       have Fa_58 := (E1.keep K_28)
       have Fa_59 := (V3.keep K_28 (ninS n21 nin0))
       have Fa_60 := (E_s.keep K_28)
       have Fa_61 := (F_v.keep K_28 (ninS n31 nin0))
       have Fa_62 := (F_c.keep K_28 (ninS n31 nin0))
       have Fa_63 := (V_s.keep K_28 (ninS nb1 nin0))
       have Fa_64 := (own_Sta_keep S1 K_28 (nsS (E1.nostat) ns0))
       have Fa_65 := (own_Sta_keep S2 K_28 (nsS (E1.nostat) ns0))
       have Zs_66 : n0 ≤ T_28.heap.size := (Nat.le_trans Zh K_28.1)
       refine c_S6 X_28 Hq rfl hZ hown hml (k0_38 hw) (rmstep hw a1 a2 r__28 en (1 : Int32) p6 a3 kc vc dc b k1 Ln vs d1 w sfv f T_28.heap n0 Zs_66 Fa_58 g1 Fq_28_0 Fq_28_1 Fq_28_2 n31 nb1 Fa_59 hcs Fa_60 Fa_61 Fa_62 Fa_63 Fa_64 hw0 hat hf Fa_65 hsf Pq_28_0 Pq_28_1 hN1 hN3) at_365 ?_ 0 (sd := ⟨by decide, by decide, hcl, hsl⟩)
       rintro T_57 L_57 _ X_57 ⟨r__57, ⟨⟩, Nq_57, K_57, Fq_57_0, Fq_57_1, Fq_57_2, Pq_57_0, Pq_57_1⟩
       have N_57 := Fr.app N_28 Nq_57
       refine o_istore X_57 Hq at_368 (l' := #[iv p1, iv p2, iv p3, iv p4, iv p5, iv p6, iv c0, iv c1, iv c2, rv a2, iv nn, iv tr, iv kk, rv a3, rv a1, iv r__57, iv en, l17, l18]) rfl (o_iload X_57 Hq at_370 rfl (o_ifYes X_57 Hq (pc' := 377) at_372 (flt Pq_57_0).2.1 (o_aload X_57 Hq at_377 rfl rfl ?_)))
       have Zs_68 : n0 ≤ T_57.heap.size := (Nat.le_trans Zs_66 K_57.1)
       have Fa_69 := (Fa_58.keep K_57)
       refine c_U0 X_57 Hq rfl hZ hown hml (k0_34U1 hw) (rm12 hw a1 r__57 en T_57.heap n0 Zs_68 Fq_57_2 Fq_57_1) Fa_69 at_379 ?_ 0 (sd := ⟨by decide, by decide, hcl, hsl⟩)
       rintro T_67 L_67 _ X_67 ⟨⟨⟩, Nq_67, e_67⟩
       have N_67 := Fr.app N_57 Nq_67
       refine o_iload X_67 Hq at_382 rfl (o_iload X_67 Hq at_384 rfl ?_)
       by_cases hc386__70 : r__57 = en
       ·refine o_icmpNo X_67 Hq at_386 (teq hc386__70).2 (o_iconst X_67 Hq 1 at_389 rfl (o_goto X_67 Hq (pc' := 394) at_390 (o_icmpNo X_67 Hq at_394 (teq (if_pos hc386__70)).2 (o_iconst X_67 Hq 1 at_397 rfl (o_goto X_67 Hq (pc' := 402) at_398 ?_)))))
        have Kp_71 : Keep h0 T_57.heap [] := ((Kh.trans K_28 (allS (Or.inr sz1) all0)).trans K_57 (allS (Or.inr sz1) all0))
        have Ks_72 := (Nat.le_trans (Nat.le_trans hk K_28.1) K_57.1)
        exact e_ZW X_67 hS e_67 Ks_72 Hq hlk hrt at_402 ⟨rfl, N_67, Kp_71⟩ ⟨hcl, hsl⟩
       ·refine o_icmpYes X_67 Hq (pc' := 393) at_386 (feq hc386__70).2 (o_iconst X_67 Hq 0 at_393 rfl (o_icmpNo X_67 Hq at_394 (teq (if_neg hc386__70)).2 (o_iconst X_67 Hq 1 at_397 rfl (o_goto X_67 Hq (pc' := 402) at_398 ?_))))
        have Kp_73 : Keep h0 T_57.heap [] := ((Kh.trans K_28 (allS (Or.inr sz1) all0)).trans K_57 (allS (Or.inr sz1) all0))
        have Ks_74 := (Nat.le_trans (Nat.le_trans hk K_28.1) K_57.1)
        exact e_ZW X_67 hS e_67 Ks_74 Hq hlk hrt at_402 ⟨rfl, N_67, Kp_73⟩ ⟨hcl, hsl⟩
    ·refine o_ifNo X_1 Hq at_316 (feq hc316__27).1 (o_iconst X_1 Hq 1 at_319 rfl (o_goto X_1 Hq (pc' := 324) at_320 (o_iload X_1 Hq at_324 rfl ?_)))
     refine c_S6 X_1 Hq e_1 hZ hown hml (k0_38 hw) (rmstep hw a1 a2 ps en (1 : Int32) p5 a3 kc vc dc b k1 Ln vs d1 w sfv f h n0 Zh E1 g1 F1 F2 F3 n31 nb1 V3 hcs E_s F_v F_c V_s S1 hw0 hat hf S2 hsf hp0 hp1 hN1 hN3) at_326 ?_ 0 (sd := ⟨by decide, by decide, hcl, hsl⟩)
     rintro T_75 L_75 _ X_75 ⟨r__75, ⟨⟩, Nq_75, K_75, Fq_75_0, Fq_75_1, Fq_75_2, Pq_75_0, Pq_75_1⟩
     have N_75 := Fr.app N_1 Nq_75
     refine o_istore X_75 Hq at_329 (l' := #[iv p1, iv p2, iv p3, iv p4, iv p5, iv p6, iv c0, iv c1, iv c2, rv a2, iv nn, iv tr, iv kk, rv a3, rv a1, iv r__75, iv en, l17, l18]) rfl (o_iload X_75 Hq at_331 rfl (o_ifYes X_75 Hq (pc' := 338) at_333 (flt Pq_75_0).2.1 (o_iload X_75 Hq at_338 rfl (o_iconst X_75 Hq 3 at_340 rfl ?_))))
     by_cases hc341__76 : kk < (3 : Int32)
     ·refine o_icmpYes X_75 Hq (pc' := 377) at_341 (tlt hc341__76).1 (o_aload X_75 Hq at_377 rfl rfl ?_)
      have Zs_78 : n0 ≤ T_75.heap.size := (Nat.le_trans Zh K_75.1)
      have Fa_79 := (E1.keep K_75)
      refine c_U0 X_75 Hq rfl hZ hown hml (k0_34U1 hw) (rm12 hw a1 r__75 en T_75.heap n0 Zs_78 Fq_75_2 Fq_75_1) Fa_79 at_379 ?_ 0 (sd := ⟨by decide, by decide, hcl, hsl⟩)
      rintro T_77 L_77 _ X_77 ⟨⟨⟩, Nq_77, e_77⟩
      have N_77 := Fr.app N_75 Nq_77
      refine o_iload X_77 Hq at_382 rfl (o_iload X_77 Hq at_384 rfl ?_)
      by_cases hc386__80 : r__75 = en
      ·refine o_icmpNo X_77 Hq at_386 (teq hc386__80).2 (o_iconst X_77 Hq 1 at_389 rfl (o_goto X_77 Hq (pc' := 394) at_390 (o_icmpNo X_77 Hq at_394 (teq (if_pos hc386__80)).2 (o_iconst X_77 Hq 1 at_397 rfl (o_goto X_77 Hq (pc' := 402) at_398 ?_)))))
       have Kp_81 : Keep h0 T_75.heap [] := (Kh.trans K_75 (allS (Or.inr sz1) all0))
       have Ks_82 := (Nat.le_trans hk K_75.1)
       exact e_ZW X_77 hS e_77 Ks_82 Hq hlk hrt at_402 ⟨rfl, N_77, Kp_81⟩ ⟨hcl, hsl⟩
      ·refine o_icmpYes X_77 Hq (pc' := 393) at_386 (feq hc386__80).2 (o_iconst X_77 Hq 0 at_393 rfl (o_icmpNo X_77 Hq at_394 (teq (if_neg hc386__80)).2 (o_iconst X_77 Hq 1 at_397 rfl (o_goto X_77 Hq (pc' := 402) at_398 ?_))))
       have Kp_83 : Keep h0 T_75.heap [] := (Kh.trans K_75 (allS (Or.inr sz1) all0))
       have Ks_84 := (Nat.le_trans hk K_75.1)
       exact e_ZW X_77 hS e_77 Ks_84 Hq hlk hrt at_402 ⟨rfl, N_77, Kp_83⟩ ⟨hcl, hsl⟩
     ·refine o_icmpNo X_75 Hq at_341 (flt hc341__76).1 (o_aload X_75 Hq at_344 rfl rfl (o_aload X_75 Hq at_346 rfl rfl (o_iload X_75 Hq at_348 rfl (o_iload X_75 Hq at_350 rfl (o_iloadN X_75 Hq at_352 rfl (o_iconst X_75 Hq 4 at_353 rfl (o_iand X_75 Hq at_354 ?_)))))))
      by_cases hc355__85 : (p4 &&& (4 : Int32)) = (0 : Int32)
      ·refine o_ifYes X_75 Hq (pc' := 362) at_355 (teq hc355__85).1 (o_iconst X_75 Hq 0 at_362 rfl (o_iload X_75 Hq at_363 rfl ?_))
       have Fa_87 := (E1.keep K_75)
       have Fa_88 := (V3.keep K_75 (ninS n21 nin0))
       have Fa_89 := (E_s.keep K_75)
       have Fa_90 := (F_v.keep K_75 (ninS n31 nin0))
       have Fa_91 := (F_c.keep K_75 (ninS n31 nin0))
       have Fa_92 := (V_s.keep K_75 (ninS nb1 nin0))
       have Fa_93 := (own_Sta_keep S1 K_75 (nsS (E1.nostat) ns0))
       have Fa_94 := (own_Sta_keep S2 K_75 (nsS (E1.nostat) ns0))
       have Zs_95 : n0 ≤ T_75.heap.size := (Nat.le_trans Zh K_75.1)
       refine c_S6 X_75 Hq rfl hZ hown hml (k0_38 hw) (rmstep hw a1 a2 r__75 en (0 : Int32) p6 a3 kc vc dc b k1 Ln vs d1 w sfv f T_75.heap n0 Zs_95 Fa_87 g1 Fq_75_0 Fq_75_1 Fq_75_2 n31 nb1 Fa_88 hcs Fa_89 Fa_90 Fa_91 Fa_92 Fa_93 hw0 hat hf Fa_94 hsf Pq_75_0 Pq_75_1 hN1 hN3) at_365 ?_ 0 (sd := ⟨by decide, by decide, hcl, hsl⟩)
       rintro T_86 L_86 _ X_86 ⟨r__86, ⟨⟩, Nq_86, K_86, Fq_86_0, Fq_86_1, Fq_86_2, Pq_86_0, Pq_86_1⟩
       have N_86 := Fr.app N_75 Nq_86
       refine o_istore X_86 Hq at_368 (l' := #[iv p1, iv p2, iv p3, iv p4, iv p5, iv p6, iv c0, iv c1, iv c2, rv a2, iv nn, iv tr, iv kk, rv a3, rv a1, iv r__86, iv en, l17, l18]) rfl (o_iload X_86 Hq at_370 rfl (o_ifYes X_86 Hq (pc' := 377) at_372 (flt Pq_86_0).2.1 (o_aload X_86 Hq at_377 rfl rfl ?_)))
       have Zs_97 : n0 ≤ T_86.heap.size := (Nat.le_trans Zs_95 K_86.1)
       have Fa_98 := (Fa_87.keep K_86)
       refine c_U0 X_86 Hq rfl hZ hown hml (k0_34U1 hw) (rm12 hw a1 r__86 en T_86.heap n0 Zs_97 Fq_86_2 Fq_86_1) Fa_98 at_379 ?_ 0 (sd := ⟨by decide, by decide, hcl, hsl⟩)
       rintro T_96 L_96 _ X_96 ⟨⟨⟩, Nq_96, e_96⟩
       have N_96 := Fr.app N_86 Nq_96
       refine o_iload X_96 Hq at_382 rfl (o_iload X_96 Hq at_384 rfl ?_)
       by_cases hc386__99 : r__86 = en
       ·refine o_icmpNo X_96 Hq at_386 (teq hc386__99).2 (o_iconst X_96 Hq 1 at_389 rfl (o_goto X_96 Hq (pc' := 394) at_390 (o_icmpNo X_96 Hq at_394 (teq (if_pos hc386__99)).2 (o_iconst X_96 Hq 1 at_397 rfl (o_goto X_96 Hq (pc' := 402) at_398 ?_)))))
        have Kp_100 : Keep h0 T_86.heap [] := ((Kh.trans K_75 (allS (Or.inr sz1) all0)).trans K_86 (allS (Or.inr sz1) all0))
        have Ks_101 := (Nat.le_trans (Nat.le_trans hk K_75.1) K_86.1)
        exact e_ZW X_96 hS e_96 Ks_101 Hq hlk hrt at_402 ⟨rfl, N_96, Kp_100⟩ ⟨hcl, hsl⟩
       ·refine o_icmpYes X_96 Hq (pc' := 393) at_386 (feq hc386__99).2 (o_iconst X_96 Hq 0 at_393 rfl (o_icmpNo X_96 Hq at_394 (teq (if_neg hc386__99)).2 (o_iconst X_96 Hq 1 at_397 rfl (o_goto X_96 Hq (pc' := 402) at_398 ?_))))
        have Kp_102 : Keep h0 T_86.heap [] := ((Kh.trans K_75 (allS (Or.inr sz1) all0)).trans K_86 (allS (Or.inr sz1) all0))
        have Ks_103 := (Nat.le_trans (Nat.le_trans hk K_75.1) K_86.1)
        exact e_ZW X_96 hS e_96 Ks_103 Hq hlk hrt at_402 ⟨rfl, N_96, Kp_102⟩ ⟨hcl, hsl⟩
      ·refine o_ifNo X_75 Hq at_355 (feq hc355__85).1 (o_iconst X_75 Hq 1 at_358 rfl (o_goto X_75 Hq (pc' := 363) at_359 (o_iload X_75 Hq at_363 rfl ?_)))
       have Fa_105 := (E1.keep K_75)
       have Fa_106 := (V3.keep K_75 (ninS n21 nin0))
       have Fa_107 := (E_s.keep K_75)
       have Fa_108 := (F_v.keep K_75 (ninS n31 nin0))
       have Fa_109 := (F_c.keep K_75 (ninS n31 nin0))
       have Fa_110 := (V_s.keep K_75 (ninS nb1 nin0))
       have Fa_111 := (own_Sta_keep S1 K_75 (nsS (E1.nostat) ns0))
       have Fa_112 := (own_Sta_keep S2 K_75 (nsS (E1.nostat) ns0))
       have Zs_113 : n0 ≤ T_75.heap.size := (Nat.le_trans Zh K_75.1)
       refine c_S6 X_75 Hq rfl hZ hown hml (k0_38 hw) (rmstep hw a1 a2 r__75 en (1 : Int32) p6 a3 kc vc dc b k1 Ln vs d1 w sfv f T_75.heap n0 Zs_113 Fa_105 g1 Fq_75_0 Fq_75_1 Fq_75_2 n31 nb1 Fa_106 hcs Fa_107 Fa_108 Fa_109 Fa_110 Fa_111 hw0 hat hf Fa_112 hsf Pq_75_0 Pq_75_1 hN1 hN3) at_365 ?_ 0 (sd := ⟨by decide, by decide, hcl, hsl⟩)
       rintro T_104 L_104 _ X_104 ⟨r__104, ⟨⟩, Nq_104, K_104, Fq_104_0, Fq_104_1, Fq_104_2, Pq_104_0, Pq_104_1⟩
       have N_104 := Fr.app N_75 Nq_104
       refine o_istore X_104 Hq at_368 (l' := #[iv p1, iv p2, iv p3, iv p4, iv p5, iv p6, iv c0, iv c1, iv c2, rv a2, iv nn, iv tr, iv kk, rv a3, rv a1, iv r__104, iv en, l17, l18]) rfl (o_iload X_104 Hq at_370 rfl (o_ifYes X_104 Hq (pc' := 377) at_372 (flt Pq_104_0).2.1 (o_aload X_104 Hq at_377 rfl rfl ?_)))
       have Zs_115 : n0 ≤ T_104.heap.size := (Nat.le_trans Zs_113 K_104.1)
       have Fa_116 := (Fa_105.keep K_104)
       refine c_U0 X_104 Hq rfl hZ hown hml (k0_34U1 hw) (rm12 hw a1 r__104 en T_104.heap n0 Zs_115 Fq_104_2 Fq_104_1) Fa_116 at_379 ?_ 0 (sd := ⟨by decide, by decide, hcl, hsl⟩)
       rintro T_114 L_114 _ X_114 ⟨⟨⟩, Nq_114, e_114⟩
       have N_114 := Fr.app N_104 Nq_114
       refine o_iload X_114 Hq at_382 rfl (o_iload X_114 Hq at_384 rfl ?_)
       by_cases hc386__117 : r__104 = en
       ·refine o_icmpNo X_114 Hq at_386 (teq hc386__117).2 (o_iconst X_114 Hq 1 at_389 rfl (o_goto X_114 Hq (pc' := 394) at_390 (o_icmpNo X_114 Hq at_394 (teq (if_pos hc386__117)).2 (o_iconst X_114 Hq 1 at_397 rfl (o_goto X_114 Hq (pc' := 402) at_398 ?_)))))
        have Kp_118 : Keep h0 T_104.heap [] := ((Kh.trans K_75 (allS (Or.inr sz1) all0)).trans K_104 (allS (Or.inr sz1) all0))
        have Ks_119 := (Nat.le_trans (Nat.le_trans hk K_75.1) K_104.1)
        exact e_ZW X_114 hS e_114 Ks_119 Hq hlk hrt at_402 ⟨rfl, N_114, Kp_118⟩ ⟨hcl, hsl⟩
       ·refine o_icmpYes X_114 Hq (pc' := 393) at_386 (feq hc386__117).2 (o_iconst X_114 Hq 0 at_393 rfl (o_icmpNo X_114 Hq at_394 (teq (if_neg hc386__117)).2 (o_iconst X_114 Hq 1 at_397 rfl (o_goto X_114 Hq (pc' := 402) at_398 ?_))))
        have Kp_120 : Keep h0 T_104.heap [] := ((Kh.trans K_75 (allS (Or.inr sz1) all0)).trans K_104 (allS (Or.inr sz1) all0))
        have Ks_121 := (Nat.le_trans (Nat.le_trans hk K_75.1) K_104.1)
        exact e_ZW X_114 hS e_114 Ks_121 Hq hlk hrt at_402 ⟨rfl, N_114, Kp_120⟩ ⟨hcl, hsl⟩
  ·refine o_icmpNo X_1 Hq at_264 (flt hc264__3).1 (o_aload X_1 Hq at_267 rfl rfl (o_aload X_1 Hq at_269 rfl rfl (o_iload X_1 Hq at_271 rfl (o_iload X_1 Hq at_273 rfl (o_iloadN X_1 Hq at_275 rfl (o_iconst X_1 Hq 1 at_276 rfl (o_iand X_1 Hq at_277 ?_)))))))
   by_cases hc278__122 : (p4 &&& (1 : Int32)) = (0 : Int32)
   ·refine o_ifYes X_1 Hq (pc' := 285) at_278 (teq hc278__122).1 (o_iconst X_1 Hq 0 at_285 rfl (o_iloadN X_1 Hq at_286 rfl ?_))
    refine c_S6 X_1 Hq e_1 hZ hown hml (k0_38 hw) (rmstep hw a1 a2 ps en (0 : Int32) p3 a3 kc vc dc b k1 Ln vs d1 w sfv f h n0 Zh E1 g1 F1 F2 F3 n31 nb1 V3 hcs E_s F_v F_c V_s S1 hw0 hat hf S2 hsf hp0 hp1 hN1 hN3) at_287 ?_ 0 (sd := ⟨by decide, by decide, hcl, hsl⟩)
    rintro T_123 L_123 _ X_123 ⟨r__123, ⟨⟩, Nq_123, K_123, Fq_123_0, Fq_123_1, Fq_123_2, Pq_123_0, Pq_123_1⟩
    have N_123 := Fr.app N_1 Nq_123
    refine o_istore X_123 Hq at_290 (l' := #[iv p1, iv p2, iv p3, iv p4, iv p5, iv p6, iv c0, iv c1, iv c2, rv a2, iv nn, iv tr, iv kk, rv a3, rv a1, iv r__123, iv en, l17, l18]) rfl (o_iload X_123 Hq at_292 rfl (o_ifYes X_123 Hq (pc' := 299) at_294 (flt Pq_123_0).2.1 (o_iload X_123 Hq at_299 rfl (o_iconst X_123 Hq 2 at_301 rfl ?_))))
    by_cases hc302__124 : kk < (2 : Int32)
    ·refine o_icmpYes X_123 Hq (pc' := 338) at_302 (tlt hc302__124).1 (o_iload X_123 Hq at_338 rfl (o_iconst X_123 Hq 3 at_340 rfl ?_))
     by_cases hc341__125 : kk < (3 : Int32)
     ·refine o_icmpYes X_123 Hq (pc' := 377) at_341 (tlt hc341__125).1 (o_aload X_123 Hq at_377 rfl rfl ?_)
      have Zs_127 : n0 ≤ T_123.heap.size := (Nat.le_trans Zh K_123.1)
      have Fa_128 := (E1.keep K_123)
      refine c_U0 X_123 Hq rfl hZ hown hml (k0_34U1 hw) (rm12 hw a1 r__123 en T_123.heap n0 Zs_127 Fq_123_2 Fq_123_1) Fa_128 at_379 ?_ 0 (sd := ⟨by decide, by decide, hcl, hsl⟩)
      rintro T_126 L_126 _ X_126 ⟨⟨⟩, Nq_126, e_126⟩
      have N_126 := Fr.app N_123 Nq_126
      refine o_iload X_126 Hq at_382 rfl (o_iload X_126 Hq at_384 rfl ?_)
      by_cases hc386__129 : r__123 = en
      ·refine o_icmpNo X_126 Hq at_386 (teq hc386__129).2 (o_iconst X_126 Hq 1 at_389 rfl (o_goto X_126 Hq (pc' := 394) at_390 (o_icmpNo X_126 Hq at_394 (teq (if_pos hc386__129)).2 (o_iconst X_126 Hq 1 at_397 rfl (o_goto X_126 Hq (pc' := 402) at_398 ?_)))))
       have Kp_130 : Keep h0 T_123.heap [] := (Kh.trans K_123 (allS (Or.inr sz1) all0))
       have Ks_131 := (Nat.le_trans hk K_123.1)
       exact e_ZW X_126 hS e_126 Ks_131 Hq hlk hrt at_402 ⟨rfl, N_126, Kp_130⟩ ⟨hcl, hsl⟩
      ·refine o_icmpYes X_126 Hq (pc' := 393) at_386 (feq hc386__129).2 (o_iconst X_126 Hq 0 at_393 rfl (o_icmpNo X_126 Hq at_394 (teq (if_neg hc386__129)).2 (o_iconst X_126 Hq 1 at_397 rfl (o_goto X_126 Hq (pc' := 402) at_398 ?_))))
       have Kp_132 : Keep h0 T_123.heap [] := (Kh.trans K_123 (allS (Or.inr sz1) all0))
       have Ks_133 := (Nat.le_trans hk K_123.1)
       exact e_ZW X_126 hS e_126 Ks_133 Hq hlk hrt at_402 ⟨rfl, N_126, Kp_132⟩ ⟨hcl, hsl⟩
     ·refine o_icmpNo X_123 Hq at_341 (flt hc341__125).1 (o_aload X_123 Hq at_344 rfl rfl (o_aload X_123 Hq at_346 rfl rfl (o_iload X_123 Hq at_348 rfl (o_iload X_123 Hq at_350 rfl (o_iloadN X_123 Hq at_352 rfl (o_iconst X_123 Hq 4 at_353 rfl (o_iand X_123 Hq at_354 ?_)))))))
      by_cases hc355__134 : (p4 &&& (4 : Int32)) = (0 : Int32)
      ·refine o_ifYes X_123 Hq (pc' := 362) at_355 (teq hc355__134).1 (o_iconst X_123 Hq 0 at_362 rfl (o_iload X_123 Hq at_363 rfl ?_))
       have Fa_136 := (E1.keep K_123)
       have Fa_137 := (V3.keep K_123 (ninS n21 nin0))
       have Fa_138 := (E_s.keep K_123)
       have Fa_139 := (F_v.keep K_123 (ninS n31 nin0))
       have Fa_140 := (F_c.keep K_123 (ninS n31 nin0))
       have Fa_141 := (V_s.keep K_123 (ninS nb1 nin0))
       have Fa_142 := (own_Sta_keep S1 K_123 (nsS (E1.nostat) ns0))
       have Fa_143 := (own_Sta_keep S2 K_123 (nsS (E1.nostat) ns0))
       have Zs_144 : n0 ≤ T_123.heap.size := (Nat.le_trans Zh K_123.1)
       refine c_S6 X_123 Hq rfl hZ hown hml (k0_38 hw) (rmstep hw a1 a2 r__123 en (0 : Int32) p6 a3 kc vc dc b k1 Ln vs d1 w sfv f T_123.heap n0 Zs_144 Fa_136 g1 Fq_123_0 Fq_123_1 Fq_123_2 n31 nb1 Fa_137 hcs Fa_138 Fa_139 Fa_140 Fa_141 Fa_142 hw0 hat hf Fa_143 hsf Pq_123_0 Pq_123_1 hN1 hN3) at_365 ?_ 0 (sd := ⟨by decide, by decide, hcl, hsl⟩)
       rintro T_135 L_135 _ X_135 ⟨r__135, ⟨⟩, Nq_135, K_135, Fq_135_0, Fq_135_1, Fq_135_2, Pq_135_0, Pq_135_1⟩
       have N_135 := Fr.app N_123 Nq_135
       refine o_istore X_135 Hq at_368 (l' := #[iv p1, iv p2, iv p3, iv p4, iv p5, iv p6, iv c0, iv c1, iv c2, rv a2, iv nn, iv tr, iv kk, rv a3, rv a1, iv r__135, iv en, l17, l18]) rfl (o_iload X_135 Hq at_370 rfl (o_ifYes X_135 Hq (pc' := 377) at_372 (flt Pq_135_0).2.1 (o_aload X_135 Hq at_377 rfl rfl ?_)))
       have Zs_146 : n0 ≤ T_135.heap.size := (Nat.le_trans Zs_144 K_135.1)
       have Fa_147 := (Fa_136.keep K_135)
       refine c_U0 X_135 Hq rfl hZ hown hml (k0_34U1 hw) (rm12 hw a1 r__135 en T_135.heap n0 Zs_146 Fq_135_2 Fq_135_1) Fa_147 at_379 ?_ 0 (sd := ⟨by decide, by decide, hcl, hsl⟩)
       rintro T_145 L_145 _ X_145 ⟨⟨⟩, Nq_145, e_145⟩
       have N_145 := Fr.app N_135 Nq_145
       refine o_iload X_145 Hq at_382 rfl (o_iload X_145 Hq at_384 rfl ?_)
       by_cases hc386__148 : r__135 = en
       ·refine o_icmpNo X_145 Hq at_386 (teq hc386__148).2 (o_iconst X_145 Hq 1 at_389 rfl (o_goto X_145 Hq (pc' := 394) at_390 (o_icmpNo X_145 Hq at_394 (teq (if_pos hc386__148)).2 (o_iconst X_145 Hq 1 at_397 rfl (o_goto X_145 Hq (pc' := 402) at_398 ?_)))))
        have Kp_149 : Keep h0 T_135.heap [] := ((Kh.trans K_123 (allS (Or.inr sz1) all0)).trans K_135 (allS (Or.inr sz1) all0))
        have Ks_150 := (Nat.le_trans (Nat.le_trans hk K_123.1) K_135.1)
        exact e_ZW X_145 hS e_145 Ks_150 Hq hlk hrt at_402 ⟨rfl, N_145, Kp_149⟩ ⟨hcl, hsl⟩
       ·refine o_icmpYes X_145 Hq (pc' := 393) at_386 (feq hc386__148).2 (o_iconst X_145 Hq 0 at_393 rfl (o_icmpNo X_145 Hq at_394 (teq (if_neg hc386__148)).2 (o_iconst X_145 Hq 1 at_397 rfl (o_goto X_145 Hq (pc' := 402) at_398 ?_))))
        have Kp_151 : Keep h0 T_135.heap [] := ((Kh.trans K_123 (allS (Or.inr sz1) all0)).trans K_135 (allS (Or.inr sz1) all0))
        have Ks_152 := (Nat.le_trans (Nat.le_trans hk K_123.1) K_135.1)
        exact e_ZW X_145 hS e_145 Ks_152 Hq hlk hrt at_402 ⟨rfl, N_145, Kp_151⟩ ⟨hcl, hsl⟩
      ·refine o_ifNo X_123 Hq at_355 (feq hc355__134).1 (o_iconst X_123 Hq 1 at_358 rfl (o_goto X_123 Hq (pc' := 363) at_359 (o_iload X_123 Hq at_363 rfl ?_)))
       have Fa_154 := (E1.keep K_123)
       have Fa_155 := (V3.keep K_123 (ninS n21 nin0))
       have Fa_156 := (E_s.keep K_123)
       have Fa_157 := (F_v.keep K_123 (ninS n31 nin0))
       have Fa_158 := (F_c.keep K_123 (ninS n31 nin0))
       have Fa_159 := (V_s.keep K_123 (ninS nb1 nin0))
       have Fa_160 := (own_Sta_keep S1 K_123 (nsS (E1.nostat) ns0))
       have Fa_161 := (own_Sta_keep S2 K_123 (nsS (E1.nostat) ns0))
       have Zs_162 : n0 ≤ T_123.heap.size := (Nat.le_trans Zh K_123.1)
       refine c_S6 X_123 Hq rfl hZ hown hml (k0_38 hw) (rmstep hw a1 a2 r__123 en (1 : Int32) p6 a3 kc vc dc b k1 Ln vs d1 w sfv f T_123.heap n0 Zs_162 Fa_154 g1 Fq_123_0 Fq_123_1 Fq_123_2 n31 nb1 Fa_155 hcs Fa_156 Fa_157 Fa_158 Fa_159 Fa_160 hw0 hat hf Fa_161 hsf Pq_123_0 Pq_123_1 hN1 hN3) at_365 ?_ 0 (sd := ⟨by decide, by decide, hcl, hsl⟩)
       rintro T_153 L_153 _ X_153 ⟨r__153, ⟨⟩, Nq_153, K_153, Fq_153_0, Fq_153_1, Fq_153_2, Pq_153_0, Pq_153_1⟩
       have N_153 := Fr.app N_123 Nq_153
       refine o_istore X_153 Hq at_368 (l' := #[iv p1, iv p2, iv p3, iv p4, iv p5, iv p6, iv c0, iv c1, iv c2, rv a2, iv nn, iv tr, iv kk, rv a3, rv a1, iv r__153, iv en, l17, l18]) rfl (o_iload X_153 Hq at_370 rfl (o_ifYes X_153 Hq (pc' := 377) at_372 (flt Pq_153_0).2.1 (o_aload X_153 Hq at_377 rfl rfl ?_)))
       have Zs_164 : n0 ≤ T_153.heap.size := (Nat.le_trans Zs_162 K_153.1)
       have Fa_165 := (Fa_154.keep K_153)
       refine c_U0 X_153 Hq rfl hZ hown hml (k0_34U1 hw) (rm12 hw a1 r__153 en T_153.heap n0 Zs_164 Fq_153_2 Fq_153_1) Fa_165 at_379 ?_ 0 (sd := ⟨by decide, by decide, hcl, hsl⟩)
       rintro T_163 L_163 _ X_163 ⟨⟨⟩, Nq_163, e_163⟩
       have N_163 := Fr.app N_153 Nq_163
       refine o_iload X_163 Hq at_382 rfl (o_iload X_163 Hq at_384 rfl ?_)
       by_cases hc386__166 : r__153 = en
       ·refine o_icmpNo X_163 Hq at_386 (teq hc386__166).2 (o_iconst X_163 Hq 1 at_389 rfl (o_goto X_163 Hq (pc' := 394) at_390 (o_icmpNo X_163 Hq at_394 (teq (if_pos hc386__166)).2 (o_iconst X_163 Hq 1 at_397 rfl (o_goto X_163 Hq (pc' := 402) at_398 ?_)))))
        have Kp_167 : Keep h0 T_153.heap [] := ((Kh.trans K_123 (allS (Or.inr sz1) all0)).trans K_153 (allS (Or.inr sz1) all0))
        have Ks_168 := (Nat.le_trans (Nat.le_trans hk K_123.1) K_153.1)
        exact e_ZW X_163 hS e_163 Ks_168 Hq hlk hrt at_402 ⟨rfl, N_163, Kp_167⟩ ⟨hcl, hsl⟩
       ·refine o_icmpYes X_163 Hq (pc' := 393) at_386 (feq hc386__166).2 (o_iconst X_163 Hq 0 at_393 rfl (o_icmpNo X_163 Hq at_394 (teq (if_neg hc386__166)).2 (o_iconst X_163 Hq 1 at_397 rfl (o_goto X_163 Hq (pc' := 402) at_398 ?_))))
        have Kp_169 : Keep h0 T_153.heap [] := ((Kh.trans K_123 (allS (Or.inr sz1) all0)).trans K_153 (allS (Or.inr sz1) all0))
        have Ks_170 := (Nat.le_trans (Nat.le_trans hk K_123.1) K_153.1)
        exact e_ZW X_163 hS e_163 Ks_170 Hq hlk hrt at_402 ⟨rfl, N_163, Kp_169⟩ ⟨hcl, hsl⟩
    ·refine o_icmpNo X_123 Hq at_302 (flt hc302__124).1 (o_aload X_123 Hq at_305 rfl rfl (o_aload X_123 Hq at_307 rfl rfl (o_iload X_123 Hq at_309 rfl (o_iload X_123 Hq at_311 rfl (o_iloadN X_123 Hq at_313 rfl (o_iconst X_123 Hq 2 at_314 rfl (o_iand X_123 Hq at_315 ?_)))))))
     by_cases hc316__171 : (p4 &&& (2 : Int32)) = (0 : Int32)
     ·refine o_ifYes X_123 Hq (pc' := 323) at_316 (teq hc316__171).1 (o_iconst X_123 Hq 0 at_323 rfl (o_iload X_123 Hq at_324 rfl ?_))
      have Fa_173 := (E1.keep K_123)
      have Fa_174 := (V3.keep K_123 (ninS n21 nin0))
      have Fa_175 := (E_s.keep K_123)
      have Fa_176 := (F_v.keep K_123 (ninS n31 nin0))
      have Fa_177 := (F_c.keep K_123 (ninS n31 nin0))
      have Fa_178 := (V_s.keep K_123 (ninS nb1 nin0))
      have Fa_179 := (own_Sta_keep S1 K_123 (nsS (E1.nostat) ns0))
      have Fa_180 := (own_Sta_keep S2 K_123 (nsS (E1.nostat) ns0))
      have Zs_181 : n0 ≤ T_123.heap.size := (Nat.le_trans Zh K_123.1)
      refine c_S6 X_123 Hq rfl hZ hown hml (k0_38 hw) (rmstep hw a1 a2 r__123 en (0 : Int32) p5 a3 kc vc dc b k1 Ln vs d1 w sfv f T_123.heap n0 Zs_181 Fa_173 g1 Fq_123_0 Fq_123_1 Fq_123_2 n31 nb1 Fa_174 hcs Fa_175 Fa_176 Fa_177 Fa_178 Fa_179 hw0 hat hf Fa_180 hsf Pq_123_0 Pq_123_1 hN1 hN3) at_326 ?_ 0 (sd := ⟨by decide, by decide, hcl, hsl⟩)
      rintro T_172 L_172 _ X_172 ⟨r__172, ⟨⟩, Nq_172, K_172, Fq_172_0, Fq_172_1, Fq_172_2, Pq_172_0, Pq_172_1⟩
      have N_172 := Fr.app N_123 Nq_172
      refine o_istore X_172 Hq at_329 (l' := #[iv p1, iv p2, iv p3, iv p4, iv p5, iv p6, iv c0, iv c1, iv c2, rv a2, iv nn, iv tr, iv kk, rv a3, rv a1, iv r__172, iv en, l17, l18]) rfl (o_iload X_172 Hq at_331 rfl (o_ifYes X_172 Hq (pc' := 338) at_333 (flt Pq_172_0).2.1 (o_iload X_172 Hq at_338 rfl (o_iconst X_172 Hq 3 at_340 rfl ?_))))
      by_cases hc341__182 : kk < (3 : Int32)
      ·refine o_icmpYes X_172 Hq (pc' := 377) at_341 (tlt hc341__182).1 (o_aload X_172 Hq at_377 rfl rfl ?_)
       have Zs_184 : n0 ≤ T_172.heap.size := (Nat.le_trans Zs_181 K_172.1)
       have Fa_185 := (Fa_173.keep K_172)
       refine c_U0 X_172 Hq rfl hZ hown hml (k0_34U1 hw) (rm12 hw a1 r__172 en T_172.heap n0 Zs_184 Fq_172_2 Fq_172_1) Fa_185 at_379 ?_ 0 (sd := ⟨by decide, by decide, hcl, hsl⟩)
       rintro T_183 L_183 _ X_183 ⟨⟨⟩, Nq_183, e_183⟩
       have N_183 := Fr.app N_172 Nq_183
       refine o_iload X_183 Hq at_382 rfl (o_iload X_183 Hq at_384 rfl ?_)
       by_cases hc386__186 : r__172 = en
       ·refine o_icmpNo X_183 Hq at_386 (teq hc386__186).2 (o_iconst X_183 Hq 1 at_389 rfl (o_goto X_183 Hq (pc' := 394) at_390 (o_icmpNo X_183 Hq at_394 (teq (if_pos hc386__186)).2 (o_iconst X_183 Hq 1 at_397 rfl (o_goto X_183 Hq (pc' := 402) at_398 ?_)))))
        have Kp_187 : Keep h0 T_172.heap [] := ((Kh.trans K_123 (allS (Or.inr sz1) all0)).trans K_172 (allS (Or.inr sz1) all0))
        have Ks_188 := (Nat.le_trans (Nat.le_trans hk K_123.1) K_172.1)
        exact e_ZW X_183 hS e_183 Ks_188 Hq hlk hrt at_402 ⟨rfl, N_183, Kp_187⟩ ⟨hcl, hsl⟩
       ·refine o_icmpYes X_183 Hq (pc' := 393) at_386 (feq hc386__186).2 (o_iconst X_183 Hq 0 at_393 rfl (o_icmpNo X_183 Hq at_394 (teq (if_neg hc386__186)).2 (o_iconst X_183 Hq 1 at_397 rfl (o_goto X_183 Hq (pc' := 402) at_398 ?_))))
        have Kp_189 : Keep h0 T_172.heap [] := ((Kh.trans K_123 (allS (Or.inr sz1) all0)).trans K_172 (allS (Or.inr sz1) all0))
        have Ks_190 := (Nat.le_trans (Nat.le_trans hk K_123.1) K_172.1)
        exact e_ZW X_183 hS e_183 Ks_190 Hq hlk hrt at_402 ⟨rfl, N_183, Kp_189⟩ ⟨hcl, hsl⟩
      ·refine o_icmpNo X_172 Hq at_341 (flt hc341__182).1 (o_aload X_172 Hq at_344 rfl rfl (o_aload X_172 Hq at_346 rfl rfl (o_iload X_172 Hq at_348 rfl (o_iload X_172 Hq at_350 rfl (o_iloadN X_172 Hq at_352 rfl (o_iconst X_172 Hq 4 at_353 rfl (o_iand X_172 Hq at_354 ?_)))))))
       by_cases hc355__191 : (p4 &&& (4 : Int32)) = (0 : Int32)
       ·refine o_ifYes X_172 Hq (pc' := 362) at_355 (teq hc355__191).1 (o_iconst X_172 Hq 0 at_362 rfl (o_iload X_172 Hq at_363 rfl ?_))
        have Fa_193 := (Fa_173.keep K_172)
        have Fa_194 := (Fa_174.keep K_172 (ninS n21 nin0))
        have Fa_195 := (Fa_175.keep K_172)
        have Fa_196 := (Fa_176.keep K_172 (ninS n31 nin0))
        have Fa_197 := (Fa_177.keep K_172 (ninS n31 nin0))
        have Fa_198 := (Fa_178.keep K_172 (ninS nb1 nin0))
        have Fa_199 := (own_Sta_keep Fa_179 K_172 (nsS (Fa_173.nostat) ns0))
        have Fa_200 := (own_Sta_keep Fa_180 K_172 (nsS (Fa_173.nostat) ns0))
        have Zs_201 : n0 ≤ T_172.heap.size := (Nat.le_trans Zs_181 K_172.1)
        refine c_S6 X_172 Hq rfl hZ hown hml (k0_38 hw) (rmstep hw a1 a2 r__172 en (0 : Int32) p6 a3 kc vc dc b k1 Ln vs d1 w sfv f T_172.heap n0 Zs_201 Fa_193 g1 Fq_172_0 Fq_172_1 Fq_172_2 n31 nb1 Fa_194 hcs Fa_195 Fa_196 Fa_197 Fa_198 Fa_199 hw0 hat hf Fa_200 hsf Pq_172_0 Pq_172_1 hN1 hN3) at_365 ?_ 0 (sd := ⟨by decide, by decide, hcl, hsl⟩)
        rintro T_192 L_192 _ X_192 ⟨r__192, ⟨⟩, Nq_192, K_192, Fq_192_0, Fq_192_1, Fq_192_2, Pq_192_0, Pq_192_1⟩
        have N_192 := Fr.app N_172 Nq_192
        refine o_istore X_192 Hq at_368 (l' := #[iv p1, iv p2, iv p3, iv p4, iv p5, iv p6, iv c0, iv c1, iv c2, rv a2, iv nn, iv tr, iv kk, rv a3, rv a1, iv r__192, iv en, l17, l18]) rfl (o_iload X_192 Hq at_370 rfl (o_ifYes X_192 Hq (pc' := 377) at_372 (flt Pq_192_0).2.1 (o_aload X_192 Hq at_377 rfl rfl ?_)))
        have Zs_203 : n0 ≤ T_192.heap.size := (Nat.le_trans Zs_201 K_192.1)
        have Fa_204 := (Fa_193.keep K_192)
        refine c_U0 X_192 Hq rfl hZ hown hml (k0_34U1 hw) (rm12 hw a1 r__192 en T_192.heap n0 Zs_203 Fq_192_2 Fq_192_1) Fa_204 at_379 ?_ 0 (sd := ⟨by decide, by decide, hcl, hsl⟩)
        rintro T_202 L_202 _ X_202 ⟨⟨⟩, Nq_202, e_202⟩
        have N_202 := Fr.app N_192 Nq_202
        refine o_iload X_202 Hq at_382 rfl (o_iload X_202 Hq at_384 rfl ?_)
        by_cases hc386__205 : r__192 = en
        ·refine o_icmpNo X_202 Hq at_386 (teq hc386__205).2 (o_iconst X_202 Hq 1 at_389 rfl (o_goto X_202 Hq (pc' := 394) at_390 (o_icmpNo X_202 Hq at_394 (teq (if_pos hc386__205)).2 (o_iconst X_202 Hq 1 at_397 rfl (o_goto X_202 Hq (pc' := 402) at_398 ?_)))))
         have Kp_206 : Keep h0 T_192.heap [] := (((Kh.trans K_123 (allS (Or.inr sz1) all0)).trans K_172 (allS (Or.inr sz1) all0)).trans K_192 (allS (Or.inr sz1) all0))
         have Ks_207 := (Nat.le_trans (Nat.le_trans (Nat.le_trans hk K_123.1) K_172.1) K_192.1)
         exact e_ZW X_202 hS e_202 Ks_207 Hq hlk hrt at_402 ⟨rfl, N_202, Kp_206⟩ ⟨hcl, hsl⟩
        ·refine o_icmpYes X_202 Hq (pc' := 393) at_386 (feq hc386__205).2 (o_iconst X_202 Hq 0 at_393 rfl (o_icmpNo X_202 Hq at_394 (teq (if_neg hc386__205)).2 (o_iconst X_202 Hq 1 at_397 rfl (o_goto X_202 Hq (pc' := 402) at_398 ?_))))
         have Kp_208 : Keep h0 T_192.heap [] := (((Kh.trans K_123 (allS (Or.inr sz1) all0)).trans K_172 (allS (Or.inr sz1) all0)).trans K_192 (allS (Or.inr sz1) all0))
         have Ks_209 := (Nat.le_trans (Nat.le_trans (Nat.le_trans hk K_123.1) K_172.1) K_192.1)
         exact e_ZW X_202 hS e_202 Ks_209 Hq hlk hrt at_402 ⟨rfl, N_202, Kp_208⟩ ⟨hcl, hsl⟩
       ·refine o_ifNo X_172 Hq at_355 (feq hc355__191).1 (o_iconst X_172 Hq 1 at_358 rfl (o_goto X_172 Hq (pc' := 363) at_359 (o_iload X_172 Hq at_363 rfl ?_)))
        have Fa_211 := (Fa_173.keep K_172)
        have Fa_212 := (Fa_174.keep K_172 (ninS n21 nin0))
        have Fa_213 := (Fa_175.keep K_172)
        have Fa_214 := (Fa_176.keep K_172 (ninS n31 nin0))
        have Fa_215 := (Fa_177.keep K_172 (ninS n31 nin0))
        have Fa_216 := (Fa_178.keep K_172 (ninS nb1 nin0))
        have Fa_217 := (own_Sta_keep Fa_179 K_172 (nsS (Fa_173.nostat) ns0))
        have Fa_218 := (own_Sta_keep Fa_180 K_172 (nsS (Fa_173.nostat) ns0))
        have Zs_219 : n0 ≤ T_172.heap.size := (Nat.le_trans Zs_181 K_172.1)
        refine c_S6 X_172 Hq rfl hZ hown hml (k0_38 hw) (rmstep hw a1 a2 r__172 en (1 : Int32) p6 a3 kc vc dc b k1 Ln vs d1 w sfv f T_172.heap n0 Zs_219 Fa_211 g1 Fq_172_0 Fq_172_1 Fq_172_2 n31 nb1 Fa_212 hcs Fa_213 Fa_214 Fa_215 Fa_216 Fa_217 hw0 hat hf Fa_218 hsf Pq_172_0 Pq_172_1 hN1 hN3) at_365 ?_ 0 (sd := ⟨by decide, by decide, hcl, hsl⟩)
        rintro T_210 L_210 _ X_210 ⟨r__210, ⟨⟩, Nq_210, K_210, Fq_210_0, Fq_210_1, Fq_210_2, Pq_210_0, Pq_210_1⟩
        have N_210 := Fr.app N_172 Nq_210
        refine o_istore X_210 Hq at_368 (l' := #[iv p1, iv p2, iv p3, iv p4, iv p5, iv p6, iv c0, iv c1, iv c2, rv a2, iv nn, iv tr, iv kk, rv a3, rv a1, iv r__210, iv en, l17, l18]) rfl (o_iload X_210 Hq at_370 rfl (o_ifYes X_210 Hq (pc' := 377) at_372 (flt Pq_210_0).2.1 (o_aload X_210 Hq at_377 rfl rfl ?_)))
        have Zs_221 : n0 ≤ T_210.heap.size := (Nat.le_trans Zs_219 K_210.1)
        have Fa_222 := (Fa_211.keep K_210)
        refine c_U0 X_210 Hq rfl hZ hown hml (k0_34U1 hw) (rm12 hw a1 r__210 en T_210.heap n0 Zs_221 Fq_210_2 Fq_210_1) Fa_222 at_379 ?_ 0 (sd := ⟨by decide, by decide, hcl, hsl⟩)
        rintro T_220 L_220 _ X_220 ⟨⟨⟩, Nq_220, e_220⟩
        have N_220 := Fr.app N_210 Nq_220
        refine o_iload X_220 Hq at_382 rfl (o_iload X_220 Hq at_384 rfl ?_)
        by_cases hc386__223 : r__210 = en
        ·refine o_icmpNo X_220 Hq at_386 (teq hc386__223).2 (o_iconst X_220 Hq 1 at_389 rfl (o_goto X_220 Hq (pc' := 394) at_390 (o_icmpNo X_220 Hq at_394 (teq (if_pos hc386__223)).2 (o_iconst X_220 Hq 1 at_397 rfl (o_goto X_220 Hq (pc' := 402) at_398 ?_)))))
         have Kp_224 : Keep h0 T_210.heap [] := (((Kh.trans K_123 (allS (Or.inr sz1) all0)).trans K_172 (allS (Or.inr sz1) all0)).trans K_210 (allS (Or.inr sz1) all0))
         have Ks_225 := (Nat.le_trans (Nat.le_trans (Nat.le_trans hk K_123.1) K_172.1) K_210.1)
         exact e_ZW X_220 hS e_220 Ks_225 Hq hlk hrt at_402 ⟨rfl, N_220, Kp_224⟩ ⟨hcl, hsl⟩
        ·refine o_icmpYes X_220 Hq (pc' := 393) at_386 (feq hc386__223).2 (o_iconst X_220 Hq 0 at_393 rfl (o_icmpNo X_220 Hq at_394 (teq (if_neg hc386__223)).2 (o_iconst X_220 Hq 1 at_397 rfl (o_goto X_220 Hq (pc' := 402) at_398 ?_))))
         have Kp_226 : Keep h0 T_210.heap [] := (((Kh.trans K_123 (allS (Or.inr sz1) all0)).trans K_172 (allS (Or.inr sz1) all0)).trans K_210 (allS (Or.inr sz1) all0))
         have Ks_227 := (Nat.le_trans (Nat.le_trans (Nat.le_trans hk K_123.1) K_172.1) K_210.1)
         exact e_ZW X_220 hS e_220 Ks_227 Hq hlk hrt at_402 ⟨rfl, N_220, Kp_226⟩ ⟨hcl, hsl⟩
     ·refine o_ifNo X_123 Hq at_316 (feq hc316__171).1 (o_iconst X_123 Hq 1 at_319 rfl (o_goto X_123 Hq (pc' := 324) at_320 (o_iload X_123 Hq at_324 rfl ?_)))
      have Fa_229 := (E1.keep K_123)
      have Fa_230 := (V3.keep K_123 (ninS n21 nin0))
      have Fa_231 := (E_s.keep K_123)
      have Fa_232 := (F_v.keep K_123 (ninS n31 nin0))
      have Fa_233 := (F_c.keep K_123 (ninS n31 nin0))
      have Fa_234 := (V_s.keep K_123 (ninS nb1 nin0))
      have Fa_235 := (own_Sta_keep S1 K_123 (nsS (E1.nostat) ns0))
      have Fa_236 := (own_Sta_keep S2 K_123 (nsS (E1.nostat) ns0))
      have Zs_237 : n0 ≤ T_123.heap.size := (Nat.le_trans Zh K_123.1)
      refine c_S6 X_123 Hq rfl hZ hown hml (k0_38 hw) (rmstep hw a1 a2 r__123 en (1 : Int32) p5 a3 kc vc dc b k1 Ln vs d1 w sfv f T_123.heap n0 Zs_237 Fa_229 g1 Fq_123_0 Fq_123_1 Fq_123_2 n31 nb1 Fa_230 hcs Fa_231 Fa_232 Fa_233 Fa_234 Fa_235 hw0 hat hf Fa_236 hsf Pq_123_0 Pq_123_1 hN1 hN3) at_326 ?_ 0 (sd := ⟨by decide, by decide, hcl, hsl⟩)
      rintro T_228 L_228 _ X_228 ⟨r__228, ⟨⟩, Nq_228, K_228, Fq_228_0, Fq_228_1, Fq_228_2, Pq_228_0, Pq_228_1⟩
      have N_228 := Fr.app N_123 Nq_228
      refine o_istore X_228 Hq at_329 (l' := #[iv p1, iv p2, iv p3, iv p4, iv p5, iv p6, iv c0, iv c1, iv c2, rv a2, iv nn, iv tr, iv kk, rv a3, rv a1, iv r__228, iv en, l17, l18]) rfl (o_iload X_228 Hq at_331 rfl (o_ifYes X_228 Hq (pc' := 338) at_333 (flt Pq_228_0).2.1 (o_iload X_228 Hq at_338 rfl (o_iconst X_228 Hq 3 at_340 rfl ?_))))
      by_cases hc341__238 : kk < (3 : Int32)
      ·refine o_icmpYes X_228 Hq (pc' := 377) at_341 (tlt hc341__238).1 (o_aload X_228 Hq at_377 rfl rfl ?_)
       have Zs_240 : n0 ≤ T_228.heap.size := (Nat.le_trans Zs_237 K_228.1)
       have Fa_241 := (Fa_229.keep K_228)
       refine c_U0 X_228 Hq rfl hZ hown hml (k0_34U1 hw) (rm12 hw a1 r__228 en T_228.heap n0 Zs_240 Fq_228_2 Fq_228_1) Fa_241 at_379 ?_ 0 (sd := ⟨by decide, by decide, hcl, hsl⟩)
       rintro T_239 L_239 _ X_239 ⟨⟨⟩, Nq_239, e_239⟩
       have N_239 := Fr.app N_228 Nq_239
       refine o_iload X_239 Hq at_382 rfl (o_iload X_239 Hq at_384 rfl ?_)
       by_cases hc386__242 : r__228 = en
       ·refine o_icmpNo X_239 Hq at_386 (teq hc386__242).2 (o_iconst X_239 Hq 1 at_389 rfl (o_goto X_239 Hq (pc' := 394) at_390 (o_icmpNo X_239 Hq at_394 (teq (if_pos hc386__242)).2 (o_iconst X_239 Hq 1 at_397 rfl (o_goto X_239 Hq (pc' := 402) at_398 ?_)))))
        have Kp_243 : Keep h0 T_228.heap [] := ((Kh.trans K_123 (allS (Or.inr sz1) all0)).trans K_228 (allS (Or.inr sz1) all0))
        have Ks_244 := (Nat.le_trans (Nat.le_trans hk K_123.1) K_228.1)
        exact e_ZW X_239 hS e_239 Ks_244 Hq hlk hrt at_402 ⟨rfl, N_239, Kp_243⟩ ⟨hcl, hsl⟩
       ·refine o_icmpYes X_239 Hq (pc' := 393) at_386 (feq hc386__242).2 (o_iconst X_239 Hq 0 at_393 rfl (o_icmpNo X_239 Hq at_394 (teq (if_neg hc386__242)).2 (o_iconst X_239 Hq 1 at_397 rfl (o_goto X_239 Hq (pc' := 402) at_398 ?_))))
        have Kp_245 : Keep h0 T_228.heap [] := ((Kh.trans K_123 (allS (Or.inr sz1) all0)).trans K_228 (allS (Or.inr sz1) all0))
        have Ks_246 := (Nat.le_trans (Nat.le_trans hk K_123.1) K_228.1)
        exact e_ZW X_239 hS e_239 Ks_246 Hq hlk hrt at_402 ⟨rfl, N_239, Kp_245⟩ ⟨hcl, hsl⟩
      ·refine o_icmpNo X_228 Hq at_341 (flt hc341__238).1 (o_aload X_228 Hq at_344 rfl rfl (o_aload X_228 Hq at_346 rfl rfl (o_iload X_228 Hq at_348 rfl (o_iload X_228 Hq at_350 rfl (o_iloadN X_228 Hq at_352 rfl (o_iconst X_228 Hq 4 at_353 rfl (o_iand X_228 Hq at_354 ?_)))))))
       by_cases hc355__247 : (p4 &&& (4 : Int32)) = (0 : Int32)
       ·refine o_ifYes X_228 Hq (pc' := 362) at_355 (teq hc355__247).1 (o_iconst X_228 Hq 0 at_362 rfl (o_iload X_228 Hq at_363 rfl ?_))
        have Fa_249 := (Fa_229.keep K_228)
        have Fa_250 := (Fa_230.keep K_228 (ninS n21 nin0))
        have Fa_251 := (Fa_231.keep K_228)
        have Fa_252 := (Fa_232.keep K_228 (ninS n31 nin0))
        have Fa_253 := (Fa_233.keep K_228 (ninS n31 nin0))
        have Fa_254 := (Fa_234.keep K_228 (ninS nb1 nin0))
        have Fa_255 := (own_Sta_keep Fa_235 K_228 (nsS (Fa_229.nostat) ns0))
        have Fa_256 := (own_Sta_keep Fa_236 K_228 (nsS (Fa_229.nostat) ns0))
        have Zs_257 : n0 ≤ T_228.heap.size := (Nat.le_trans Zs_237 K_228.1)
        refine c_S6 X_228 Hq rfl hZ hown hml (k0_38 hw) (rmstep hw a1 a2 r__228 en (0 : Int32) p6 a3 kc vc dc b k1 Ln vs d1 w sfv f T_228.heap n0 Zs_257 Fa_249 g1 Fq_228_0 Fq_228_1 Fq_228_2 n31 nb1 Fa_250 hcs Fa_251 Fa_252 Fa_253 Fa_254 Fa_255 hw0 hat hf Fa_256 hsf Pq_228_0 Pq_228_1 hN1 hN3) at_365 ?_ 0 (sd := ⟨by decide, by decide, hcl, hsl⟩)
        rintro T_248 L_248 _ X_248 ⟨r__248, ⟨⟩, Nq_248, K_248, Fq_248_0, Fq_248_1, Fq_248_2, Pq_248_0, Pq_248_1⟩
        have N_248 := Fr.app N_228 Nq_248
        refine o_istore X_248 Hq at_368 (l' := #[iv p1, iv p2, iv p3, iv p4, iv p5, iv p6, iv c0, iv c1, iv c2, rv a2, iv nn, iv tr, iv kk, rv a3, rv a1, iv r__248, iv en, l17, l18]) rfl (o_iload X_248 Hq at_370 rfl (o_ifYes X_248 Hq (pc' := 377) at_372 (flt Pq_248_0).2.1 (o_aload X_248 Hq at_377 rfl rfl ?_)))
        have Zs_259 : n0 ≤ T_248.heap.size := (Nat.le_trans Zs_257 K_248.1)
        have Fa_260 := (Fa_249.keep K_248)
        refine c_U0 X_248 Hq rfl hZ hown hml (k0_34U1 hw) (rm12 hw a1 r__248 en T_248.heap n0 Zs_259 Fq_248_2 Fq_248_1) Fa_260 at_379 ?_ 0 (sd := ⟨by decide, by decide, hcl, hsl⟩)
        rintro T_258 L_258 _ X_258 ⟨⟨⟩, Nq_258, e_258⟩
        have N_258 := Fr.app N_248 Nq_258
        refine o_iload X_258 Hq at_382 rfl (o_iload X_258 Hq at_384 rfl ?_)
        by_cases hc386__261 : r__248 = en
        ·refine o_icmpNo X_258 Hq at_386 (teq hc386__261).2 (o_iconst X_258 Hq 1 at_389 rfl (o_goto X_258 Hq (pc' := 394) at_390 (o_icmpNo X_258 Hq at_394 (teq (if_pos hc386__261)).2 (o_iconst X_258 Hq 1 at_397 rfl (o_goto X_258 Hq (pc' := 402) at_398 ?_)))))
         have Kp_262 : Keep h0 T_248.heap [] := (((Kh.trans K_123 (allS (Or.inr sz1) all0)).trans K_228 (allS (Or.inr sz1) all0)).trans K_248 (allS (Or.inr sz1) all0))
         have Ks_263 := (Nat.le_trans (Nat.le_trans (Nat.le_trans hk K_123.1) K_228.1) K_248.1)
         exact e_ZW X_258 hS e_258 Ks_263 Hq hlk hrt at_402 ⟨rfl, N_258, Kp_262⟩ ⟨hcl, hsl⟩
        ·refine o_icmpYes X_258 Hq (pc' := 393) at_386 (feq hc386__261).2 (o_iconst X_258 Hq 0 at_393 rfl (o_icmpNo X_258 Hq at_394 (teq (if_neg hc386__261)).2 (o_iconst X_258 Hq 1 at_397 rfl (o_goto X_258 Hq (pc' := 402) at_398 ?_))))
         have Kp_264 : Keep h0 T_248.heap [] := (((Kh.trans K_123 (allS (Or.inr sz1) all0)).trans K_228 (allS (Or.inr sz1) all0)).trans K_248 (allS (Or.inr sz1) all0))
         have Ks_265 := (Nat.le_trans (Nat.le_trans (Nat.le_trans hk K_123.1) K_228.1) K_248.1)
         exact e_ZW X_258 hS e_258 Ks_265 Hq hlk hrt at_402 ⟨rfl, N_258, Kp_264⟩ ⟨hcl, hsl⟩
       ·refine o_ifNo X_228 Hq at_355 (feq hc355__247).1 (o_iconst X_228 Hq 1 at_358 rfl (o_goto X_228 Hq (pc' := 363) at_359 (o_iload X_228 Hq at_363 rfl ?_)))
        have Fa_267 := (Fa_229.keep K_228)
        have Fa_268 := (Fa_230.keep K_228 (ninS n21 nin0))
        have Fa_269 := (Fa_231.keep K_228)
        have Fa_270 := (Fa_232.keep K_228 (ninS n31 nin0))
        have Fa_271 := (Fa_233.keep K_228 (ninS n31 nin0))
        have Fa_272 := (Fa_234.keep K_228 (ninS nb1 nin0))
        have Fa_273 := (own_Sta_keep Fa_235 K_228 (nsS (Fa_229.nostat) ns0))
        have Fa_274 := (own_Sta_keep Fa_236 K_228 (nsS (Fa_229.nostat) ns0))
        have Zs_275 : n0 ≤ T_228.heap.size := (Nat.le_trans Zs_237 K_228.1)
        refine c_S6 X_228 Hq rfl hZ hown hml (k0_38 hw) (rmstep hw a1 a2 r__228 en (1 : Int32) p6 a3 kc vc dc b k1 Ln vs d1 w sfv f T_228.heap n0 Zs_275 Fa_267 g1 Fq_228_0 Fq_228_1 Fq_228_2 n31 nb1 Fa_268 hcs Fa_269 Fa_270 Fa_271 Fa_272 Fa_273 hw0 hat hf Fa_274 hsf Pq_228_0 Pq_228_1 hN1 hN3) at_365 ?_ 0 (sd := ⟨by decide, by decide, hcl, hsl⟩)
        rintro T_266 L_266 _ X_266 ⟨r__266, ⟨⟩, Nq_266, K_266, Fq_266_0, Fq_266_1, Fq_266_2, Pq_266_0, Pq_266_1⟩
        have N_266 := Fr.app N_228 Nq_266
        refine o_istore X_266 Hq at_368 (l' := #[iv p1, iv p2, iv p3, iv p4, iv p5, iv p6, iv c0, iv c1, iv c2, rv a2, iv nn, iv tr, iv kk, rv a3, rv a1, iv r__266, iv en, l17, l18]) rfl (o_iload X_266 Hq at_370 rfl (o_ifYes X_266 Hq (pc' := 377) at_372 (flt Pq_266_0).2.1 (o_aload X_266 Hq at_377 rfl rfl ?_)))
        have Zs_277 : n0 ≤ T_266.heap.size := (Nat.le_trans Zs_275 K_266.1)
        have Fa_278 := (Fa_267.keep K_266)
        refine c_U0 X_266 Hq rfl hZ hown hml (k0_34U1 hw) (rm12 hw a1 r__266 en T_266.heap n0 Zs_277 Fq_266_2 Fq_266_1) Fa_278 at_379 ?_ 0 (sd := ⟨by decide, by decide, hcl, hsl⟩)
        rintro T_276 L_276 _ X_276 ⟨⟨⟩, Nq_276, e_276⟩
        have N_276 := Fr.app N_266 Nq_276
        refine o_iload X_276 Hq at_382 rfl (o_iload X_276 Hq at_384 rfl ?_)
        by_cases hc386__279 : r__266 = en
        ·refine o_icmpNo X_276 Hq at_386 (teq hc386__279).2 (o_iconst X_276 Hq 1 at_389 rfl (o_goto X_276 Hq (pc' := 394) at_390 (o_icmpNo X_276 Hq at_394 (teq (if_pos hc386__279)).2 (o_iconst X_276 Hq 1 at_397 rfl (o_goto X_276 Hq (pc' := 402) at_398 ?_)))))
         have Kp_280 : Keep h0 T_266.heap [] := (((Kh.trans K_123 (allS (Or.inr sz1) all0)).trans K_228 (allS (Or.inr sz1) all0)).trans K_266 (allS (Or.inr sz1) all0))
         have Ks_281 := (Nat.le_trans (Nat.le_trans (Nat.le_trans hk K_123.1) K_228.1) K_266.1)
         exact e_ZW X_276 hS e_276 Ks_281 Hq hlk hrt at_402 ⟨rfl, N_276, Kp_280⟩ ⟨hcl, hsl⟩
        ·refine o_icmpYes X_276 Hq (pc' := 393) at_386 (feq hc386__279).2 (o_iconst X_276 Hq 0 at_393 rfl (o_icmpNo X_276 Hq at_394 (teq (if_neg hc386__279)).2 (o_iconst X_276 Hq 1 at_397 rfl (o_goto X_276 Hq (pc' := 402) at_398 ?_))))
         have Kp_282 : Keep h0 T_266.heap [] := (((Kh.trans K_123 (allS (Or.inr sz1) all0)).trans K_228 (allS (Or.inr sz1) all0)).trans K_266 (allS (Or.inr sz1) all0))
         have Ks_283 := (Nat.le_trans (Nat.le_trans (Nat.le_trans hk K_123.1) K_228.1) K_266.1)
         exact e_ZW X_276 hS e_276 Ks_283 Hq hlk hrt at_402 ⟨rfl, N_276, Kp_282⟩ ⟨hcl, hsl⟩
   ·refine o_ifNo X_1 Hq at_278 (feq hc278__122).1 (o_iconst X_1 Hq 1 at_281 rfl (o_goto X_1 Hq (pc' := 286) at_282 (o_iloadN X_1 Hq at_286 rfl ?_)))
    refine c_S6 X_1 Hq e_1 hZ hown hml (k0_38 hw) (rmstep hw a1 a2 ps en (1 : Int32) p3 a3 kc vc dc b k1 Ln vs d1 w sfv f h n0 Zh E1 g1 F1 F2 F3 n31 nb1 V3 hcs E_s F_v F_c V_s S1 hw0 hat hf S2 hsf hp0 hp1 hN1 hN3) at_287 ?_ 0 (sd := ⟨by decide, by decide, hcl, hsl⟩)
    rintro T_284 L_284 _ X_284 ⟨r__284, ⟨⟩, Nq_284, K_284, Fq_284_0, Fq_284_1, Fq_284_2, Pq_284_0, Pq_284_1⟩
    have N_284 := Fr.app N_1 Nq_284
    refine o_istore X_284 Hq at_290 (l' := #[iv p1, iv p2, iv p3, iv p4, iv p5, iv p6, iv c0, iv c1, iv c2, rv a2, iv nn, iv tr, iv kk, rv a3, rv a1, iv r__284, iv en, l17, l18]) rfl (o_iload X_284 Hq at_292 rfl (o_ifYes X_284 Hq (pc' := 299) at_294 (flt Pq_284_0).2.1 (o_iload X_284 Hq at_299 rfl (o_iconst X_284 Hq 2 at_301 rfl ?_))))
    by_cases hc302__285 : kk < (2 : Int32)
    ·refine o_icmpYes X_284 Hq (pc' := 338) at_302 (tlt hc302__285).1 (o_iload X_284 Hq at_338 rfl (o_iconst X_284 Hq 3 at_340 rfl ?_))
     by_cases hc341__286 : kk < (3 : Int32)
     ·refine o_icmpYes X_284 Hq (pc' := 377) at_341 (tlt hc341__286).1 (o_aload X_284 Hq at_377 rfl rfl ?_)
      have Zs_288 : n0 ≤ T_284.heap.size := (Nat.le_trans Zh K_284.1)
      have Fa_289 := (E1.keep K_284)
      refine c_U0 X_284 Hq rfl hZ hown hml (k0_34U1 hw) (rm12 hw a1 r__284 en T_284.heap n0 Zs_288 Fq_284_2 Fq_284_1) Fa_289 at_379 ?_ 0 (sd := ⟨by decide, by decide, hcl, hsl⟩)
      rintro T_287 L_287 _ X_287 ⟨⟨⟩, Nq_287, e_287⟩
      have N_287 := Fr.app N_284 Nq_287
      refine o_iload X_287 Hq at_382 rfl (o_iload X_287 Hq at_384 rfl ?_)
      by_cases hc386__290 : r__284 = en
      ·refine o_icmpNo X_287 Hq at_386 (teq hc386__290).2 (o_iconst X_287 Hq 1 at_389 rfl (o_goto X_287 Hq (pc' := 394) at_390 (o_icmpNo X_287 Hq at_394 (teq (if_pos hc386__290)).2 (o_iconst X_287 Hq 1 at_397 rfl (o_goto X_287 Hq (pc' := 402) at_398 ?_)))))
       have Kp_291 : Keep h0 T_284.heap [] := (Kh.trans K_284 (allS (Or.inr sz1) all0))
       have Ks_292 := (Nat.le_trans hk K_284.1)
       exact e_ZW X_287 hS e_287 Ks_292 Hq hlk hrt at_402 ⟨rfl, N_287, Kp_291⟩ ⟨hcl, hsl⟩
      ·refine o_icmpYes X_287 Hq (pc' := 393) at_386 (feq hc386__290).2 (o_iconst X_287 Hq 0 at_393 rfl (o_icmpNo X_287 Hq at_394 (teq (if_neg hc386__290)).2 (o_iconst X_287 Hq 1 at_397 rfl (o_goto X_287 Hq (pc' := 402) at_398 ?_))))
       have Kp_293 : Keep h0 T_284.heap [] := (Kh.trans K_284 (allS (Or.inr sz1) all0))
       have Ks_294 := (Nat.le_trans hk K_284.1)
       exact e_ZW X_287 hS e_287 Ks_294 Hq hlk hrt at_402 ⟨rfl, N_287, Kp_293⟩ ⟨hcl, hsl⟩
     ·refine o_icmpNo X_284 Hq at_341 (flt hc341__286).1 (o_aload X_284 Hq at_344 rfl rfl (o_aload X_284 Hq at_346 rfl rfl (o_iload X_284 Hq at_348 rfl (o_iload X_284 Hq at_350 rfl (o_iloadN X_284 Hq at_352 rfl (o_iconst X_284 Hq 4 at_353 rfl (o_iand X_284 Hq at_354 ?_)))))))
      by_cases hc355__295 : (p4 &&& (4 : Int32)) = (0 : Int32)
      ·refine o_ifYes X_284 Hq (pc' := 362) at_355 (teq hc355__295).1 (o_iconst X_284 Hq 0 at_362 rfl (o_iload X_284 Hq at_363 rfl ?_))
       have Fa_297 := (E1.keep K_284)
       have Fa_298 := (V3.keep K_284 (ninS n21 nin0))
       have Fa_299 := (E_s.keep K_284)
       have Fa_300 := (F_v.keep K_284 (ninS n31 nin0))
       have Fa_301 := (F_c.keep K_284 (ninS n31 nin0))
       have Fa_302 := (V_s.keep K_284 (ninS nb1 nin0))
       have Fa_303 := (own_Sta_keep S1 K_284 (nsS (E1.nostat) ns0))
       have Fa_304 := (own_Sta_keep S2 K_284 (nsS (E1.nostat) ns0))
       have Zs_305 : n0 ≤ T_284.heap.size := (Nat.le_trans Zh K_284.1)
       refine c_S6 X_284 Hq rfl hZ hown hml (k0_38 hw) (rmstep hw a1 a2 r__284 en (0 : Int32) p6 a3 kc vc dc b k1 Ln vs d1 w sfv f T_284.heap n0 Zs_305 Fa_297 g1 Fq_284_0 Fq_284_1 Fq_284_2 n31 nb1 Fa_298 hcs Fa_299 Fa_300 Fa_301 Fa_302 Fa_303 hw0 hat hf Fa_304 hsf Pq_284_0 Pq_284_1 hN1 hN3) at_365 ?_ 0 (sd := ⟨by decide, by decide, hcl, hsl⟩)
       rintro T_296 L_296 _ X_296 ⟨r__296, ⟨⟩, Nq_296, K_296, Fq_296_0, Fq_296_1, Fq_296_2, Pq_296_0, Pq_296_1⟩
       have N_296 := Fr.app N_284 Nq_296
       refine o_istore X_296 Hq at_368 (l' := #[iv p1, iv p2, iv p3, iv p4, iv p5, iv p6, iv c0, iv c1, iv c2, rv a2, iv nn, iv tr, iv kk, rv a3, rv a1, iv r__296, iv en, l17, l18]) rfl (o_iload X_296 Hq at_370 rfl (o_ifYes X_296 Hq (pc' := 377) at_372 (flt Pq_296_0).2.1 (o_aload X_296 Hq at_377 rfl rfl ?_)))
       have Zs_307 : n0 ≤ T_296.heap.size := (Nat.le_trans Zs_305 K_296.1)
       have Fa_308 := (Fa_297.keep K_296)
       refine c_U0 X_296 Hq rfl hZ hown hml (k0_34U1 hw) (rm12 hw a1 r__296 en T_296.heap n0 Zs_307 Fq_296_2 Fq_296_1) Fa_308 at_379 ?_ 0 (sd := ⟨by decide, by decide, hcl, hsl⟩)
       rintro T_306 L_306 _ X_306 ⟨⟨⟩, Nq_306, e_306⟩
       have N_306 := Fr.app N_296 Nq_306
       refine o_iload X_306 Hq at_382 rfl (o_iload X_306 Hq at_384 rfl ?_)
       by_cases hc386__309 : r__296 = en
       ·refine o_icmpNo X_306 Hq at_386 (teq hc386__309).2 (o_iconst X_306 Hq 1 at_389 rfl (o_goto X_306 Hq (pc' := 394) at_390 (o_icmpNo X_306 Hq at_394 (teq (if_pos hc386__309)).2 (o_iconst X_306 Hq 1 at_397 rfl (o_goto X_306 Hq (pc' := 402) at_398 ?_)))))
        have Kp_310 : Keep h0 T_296.heap [] := ((Kh.trans K_284 (allS (Or.inr sz1) all0)).trans K_296 (allS (Or.inr sz1) all0))
        have Ks_311 := (Nat.le_trans (Nat.le_trans hk K_284.1) K_296.1)
        exact e_ZW X_306 hS e_306 Ks_311 Hq hlk hrt at_402 ⟨rfl, N_306, Kp_310⟩ ⟨hcl, hsl⟩
       ·refine o_icmpYes X_306 Hq (pc' := 393) at_386 (feq hc386__309).2 (o_iconst X_306 Hq 0 at_393 rfl (o_icmpNo X_306 Hq at_394 (teq (if_neg hc386__309)).2 (o_iconst X_306 Hq 1 at_397 rfl (o_goto X_306 Hq (pc' := 402) at_398 ?_))))
        have Kp_312 : Keep h0 T_296.heap [] := ((Kh.trans K_284 (allS (Or.inr sz1) all0)).trans K_296 (allS (Or.inr sz1) all0))
        have Ks_313 := (Nat.le_trans (Nat.le_trans hk K_284.1) K_296.1)
        exact e_ZW X_306 hS e_306 Ks_313 Hq hlk hrt at_402 ⟨rfl, N_306, Kp_312⟩ ⟨hcl, hsl⟩
      ·refine o_ifNo X_284 Hq at_355 (feq hc355__295).1 (o_iconst X_284 Hq 1 at_358 rfl (o_goto X_284 Hq (pc' := 363) at_359 (o_iload X_284 Hq at_363 rfl ?_)))
       have Fa_315 := (E1.keep K_284)
       have Fa_316 := (V3.keep K_284 (ninS n21 nin0))
       have Fa_317 := (E_s.keep K_284)
       have Fa_318 := (F_v.keep K_284 (ninS n31 nin0))
       have Fa_319 := (F_c.keep K_284 (ninS n31 nin0))
       have Fa_320 := (V_s.keep K_284 (ninS nb1 nin0))
       have Fa_321 := (own_Sta_keep S1 K_284 (nsS (E1.nostat) ns0))
       have Fa_322 := (own_Sta_keep S2 K_284 (nsS (E1.nostat) ns0))
       have Zs_323 : n0 ≤ T_284.heap.size := (Nat.le_trans Zh K_284.1)
       refine c_S6 X_284 Hq rfl hZ hown hml (k0_38 hw) (rmstep hw a1 a2 r__284 en (1 : Int32) p6 a3 kc vc dc b k1 Ln vs d1 w sfv f T_284.heap n0 Zs_323 Fa_315 g1 Fq_284_0 Fq_284_1 Fq_284_2 n31 nb1 Fa_316 hcs Fa_317 Fa_318 Fa_319 Fa_320 Fa_321 hw0 hat hf Fa_322 hsf Pq_284_0 Pq_284_1 hN1 hN3) at_365 ?_ 0 (sd := ⟨by decide, by decide, hcl, hsl⟩)
       rintro T_314 L_314 _ X_314 ⟨r__314, ⟨⟩, Nq_314, K_314, Fq_314_0, Fq_314_1, Fq_314_2, Pq_314_0, Pq_314_1⟩
       have N_314 := Fr.app N_284 Nq_314
       refine o_istore X_314 Hq at_368 (l' := #[iv p1, iv p2, iv p3, iv p4, iv p5, iv p6, iv c0, iv c1, iv c2, rv a2, iv nn, iv tr, iv kk, rv a3, rv a1, iv r__314, iv en, l17, l18]) rfl (o_iload X_314 Hq at_370 rfl (o_ifYes X_314 Hq (pc' := 377) at_372 (flt Pq_314_0).2.1 (o_aload X_314 Hq at_377 rfl rfl ?_)))
       have Zs_325 : n0 ≤ T_314.heap.size := (Nat.le_trans Zs_323 K_314.1)
       have Fa_326 := (Fa_315.keep K_314)
       refine c_U0 X_314 Hq rfl hZ hown hml (k0_34U1 hw) (rm12 hw a1 r__314 en T_314.heap n0 Zs_325 Fq_314_2 Fq_314_1) Fa_326 at_379 ?_ 0 (sd := ⟨by decide, by decide, hcl, hsl⟩)
       rintro T_324 L_324 _ X_324 ⟨⟨⟩, Nq_324, e_324⟩
       have N_324 := Fr.app N_314 Nq_324
       refine o_iload X_324 Hq at_382 rfl (o_iload X_324 Hq at_384 rfl ?_)
       by_cases hc386__327 : r__314 = en
       ·refine o_icmpNo X_324 Hq at_386 (teq hc386__327).2 (o_iconst X_324 Hq 1 at_389 rfl (o_goto X_324 Hq (pc' := 394) at_390 (o_icmpNo X_324 Hq at_394 (teq (if_pos hc386__327)).2 (o_iconst X_324 Hq 1 at_397 rfl (o_goto X_324 Hq (pc' := 402) at_398 ?_)))))
        have Kp_328 : Keep h0 T_314.heap [] := ((Kh.trans K_284 (allS (Or.inr sz1) all0)).trans K_314 (allS (Or.inr sz1) all0))
        have Ks_329 := (Nat.le_trans (Nat.le_trans hk K_284.1) K_314.1)
        exact e_ZW X_324 hS e_324 Ks_329 Hq hlk hrt at_402 ⟨rfl, N_324, Kp_328⟩ ⟨hcl, hsl⟩
       ·refine o_icmpYes X_324 Hq (pc' := 393) at_386 (feq hc386__327).2 (o_iconst X_324 Hq 0 at_393 rfl (o_icmpNo X_324 Hq at_394 (teq (if_neg hc386__327)).2 (o_iconst X_324 Hq 1 at_397 rfl (o_goto X_324 Hq (pc' := 402) at_398 ?_))))
        have Kp_330 : Keep h0 T_314.heap [] := ((Kh.trans K_284 (allS (Or.inr sz1) all0)).trans K_314 (allS (Or.inr sz1) all0))
        have Ks_331 := (Nat.le_trans (Nat.le_trans hk K_284.1) K_314.1)
        exact e_ZW X_324 hS e_324 Ks_331 Hq hlk hrt at_402 ⟨rfl, N_324, Kp_330⟩ ⟨hcl, hsl⟩
    ·refine o_icmpNo X_284 Hq at_302 (flt hc302__285).1 (o_aload X_284 Hq at_305 rfl rfl (o_aload X_284 Hq at_307 rfl rfl (o_iload X_284 Hq at_309 rfl (o_iload X_284 Hq at_311 rfl (o_iloadN X_284 Hq at_313 rfl (o_iconst X_284 Hq 2 at_314 rfl (o_iand X_284 Hq at_315 ?_)))))))
     by_cases hc316__332 : (p4 &&& (2 : Int32)) = (0 : Int32)
     ·refine o_ifYes X_284 Hq (pc' := 323) at_316 (teq hc316__332).1 (o_iconst X_284 Hq 0 at_323 rfl (o_iload X_284 Hq at_324 rfl ?_))
      have Fa_334 := (E1.keep K_284)
      have Fa_335 := (V3.keep K_284 (ninS n21 nin0))
      have Fa_336 := (E_s.keep K_284)
      have Fa_337 := (F_v.keep K_284 (ninS n31 nin0))
      have Fa_338 := (F_c.keep K_284 (ninS n31 nin0))
      have Fa_339 := (V_s.keep K_284 (ninS nb1 nin0))
      have Fa_340 := (own_Sta_keep S1 K_284 (nsS (E1.nostat) ns0))
      have Fa_341 := (own_Sta_keep S2 K_284 (nsS (E1.nostat) ns0))
      have Zs_342 : n0 ≤ T_284.heap.size := (Nat.le_trans Zh K_284.1)
      refine c_S6 X_284 Hq rfl hZ hown hml (k0_38 hw) (rmstep hw a1 a2 r__284 en (0 : Int32) p5 a3 kc vc dc b k1 Ln vs d1 w sfv f T_284.heap n0 Zs_342 Fa_334 g1 Fq_284_0 Fq_284_1 Fq_284_2 n31 nb1 Fa_335 hcs Fa_336 Fa_337 Fa_338 Fa_339 Fa_340 hw0 hat hf Fa_341 hsf Pq_284_0 Pq_284_1 hN1 hN3) at_326 ?_ 0 (sd := ⟨by decide, by decide, hcl, hsl⟩)
      rintro T_333 L_333 _ X_333 ⟨r__333, ⟨⟩, Nq_333, K_333, Fq_333_0, Fq_333_1, Fq_333_2, Pq_333_0, Pq_333_1⟩
      have N_333 := Fr.app N_284 Nq_333
      refine o_istore X_333 Hq at_329 (l' := #[iv p1, iv p2, iv p3, iv p4, iv p5, iv p6, iv c0, iv c1, iv c2, rv a2, iv nn, iv tr, iv kk, rv a3, rv a1, iv r__333, iv en, l17, l18]) rfl (o_iload X_333 Hq at_331 rfl (o_ifYes X_333 Hq (pc' := 338) at_333 (flt Pq_333_0).2.1 (o_iload X_333 Hq at_338 rfl (o_iconst X_333 Hq 3 at_340 rfl ?_))))
      by_cases hc341__343 : kk < (3 : Int32)
      ·refine o_icmpYes X_333 Hq (pc' := 377) at_341 (tlt hc341__343).1 (o_aload X_333 Hq at_377 rfl rfl ?_)
       have Zs_345 : n0 ≤ T_333.heap.size := (Nat.le_trans Zs_342 K_333.1)
       have Fa_346 := (Fa_334.keep K_333)
       refine c_U0 X_333 Hq rfl hZ hown hml (k0_34U1 hw) (rm12 hw a1 r__333 en T_333.heap n0 Zs_345 Fq_333_2 Fq_333_1) Fa_346 at_379 ?_ 0 (sd := ⟨by decide, by decide, hcl, hsl⟩)
       rintro T_344 L_344 _ X_344 ⟨⟨⟩, Nq_344, e_344⟩
       have N_344 := Fr.app N_333 Nq_344
       refine o_iload X_344 Hq at_382 rfl (o_iload X_344 Hq at_384 rfl ?_)
       by_cases hc386__347 : r__333 = en
       ·refine o_icmpNo X_344 Hq at_386 (teq hc386__347).2 (o_iconst X_344 Hq 1 at_389 rfl (o_goto X_344 Hq (pc' := 394) at_390 (o_icmpNo X_344 Hq at_394 (teq (if_pos hc386__347)).2 (o_iconst X_344 Hq 1 at_397 rfl (o_goto X_344 Hq (pc' := 402) at_398 ?_)))))
        have Kp_348 : Keep h0 T_333.heap [] := ((Kh.trans K_284 (allS (Or.inr sz1) all0)).trans K_333 (allS (Or.inr sz1) all0))
        have Ks_349 := (Nat.le_trans (Nat.le_trans hk K_284.1) K_333.1)
        exact e_ZW X_344 hS e_344 Ks_349 Hq hlk hrt at_402 ⟨rfl, N_344, Kp_348⟩ ⟨hcl, hsl⟩
       ·refine o_icmpYes X_344 Hq (pc' := 393) at_386 (feq hc386__347).2 (o_iconst X_344 Hq 0 at_393 rfl (o_icmpNo X_344 Hq at_394 (teq (if_neg hc386__347)).2 (o_iconst X_344 Hq 1 at_397 rfl (o_goto X_344 Hq (pc' := 402) at_398 ?_))))
        have Kp_350 : Keep h0 T_333.heap [] := ((Kh.trans K_284 (allS (Or.inr sz1) all0)).trans K_333 (allS (Or.inr sz1) all0))
        have Ks_351 := (Nat.le_trans (Nat.le_trans hk K_284.1) K_333.1)
        exact e_ZW X_344 hS e_344 Ks_351 Hq hlk hrt at_402 ⟨rfl, N_344, Kp_350⟩ ⟨hcl, hsl⟩
      ·refine o_icmpNo X_333 Hq at_341 (flt hc341__343).1 (o_aload X_333 Hq at_344 rfl rfl (o_aload X_333 Hq at_346 rfl rfl (o_iload X_333 Hq at_348 rfl (o_iload X_333 Hq at_350 rfl (o_iloadN X_333 Hq at_352 rfl (o_iconst X_333 Hq 4 at_353 rfl (o_iand X_333 Hq at_354 ?_)))))))
       by_cases hc355__352 : (p4 &&& (4 : Int32)) = (0 : Int32)
       ·refine o_ifYes X_333 Hq (pc' := 362) at_355 (teq hc355__352).1 (o_iconst X_333 Hq 0 at_362 rfl (o_iload X_333 Hq at_363 rfl ?_))
        have Fa_354 := (Fa_334.keep K_333)
        have Fa_355 := (Fa_335.keep K_333 (ninS n21 nin0))
        have Fa_356 := (Fa_336.keep K_333)
        have Fa_357 := (Fa_337.keep K_333 (ninS n31 nin0))
        have Fa_358 := (Fa_338.keep K_333 (ninS n31 nin0))
        have Fa_359 := (Fa_339.keep K_333 (ninS nb1 nin0))
        have Fa_360 := (own_Sta_keep Fa_340 K_333 (nsS (Fa_334.nostat) ns0))
        have Fa_361 := (own_Sta_keep Fa_341 K_333 (nsS (Fa_334.nostat) ns0))
        have Zs_362 : n0 ≤ T_333.heap.size := (Nat.le_trans Zs_342 K_333.1)
        refine c_S6 X_333 Hq rfl hZ hown hml (k0_38 hw) (rmstep hw a1 a2 r__333 en (0 : Int32) p6 a3 kc vc dc b k1 Ln vs d1 w sfv f T_333.heap n0 Zs_362 Fa_354 g1 Fq_333_0 Fq_333_1 Fq_333_2 n31 nb1 Fa_355 hcs Fa_356 Fa_357 Fa_358 Fa_359 Fa_360 hw0 hat hf Fa_361 hsf Pq_333_0 Pq_333_1 hN1 hN3) at_365 ?_ 0 (sd := ⟨by decide, by decide, hcl, hsl⟩)
        rintro T_353 L_353 _ X_353 ⟨r__353, ⟨⟩, Nq_353, K_353, Fq_353_0, Fq_353_1, Fq_353_2, Pq_353_0, Pq_353_1⟩
        have N_353 := Fr.app N_333 Nq_353
        refine o_istore X_353 Hq at_368 (l' := #[iv p1, iv p2, iv p3, iv p4, iv p5, iv p6, iv c0, iv c1, iv c2, rv a2, iv nn, iv tr, iv kk, rv a3, rv a1, iv r__353, iv en, l17, l18]) rfl (o_iload X_353 Hq at_370 rfl (o_ifYes X_353 Hq (pc' := 377) at_372 (flt Pq_353_0).2.1 (o_aload X_353 Hq at_377 rfl rfl ?_)))
        have Zs_364 : n0 ≤ T_353.heap.size := (Nat.le_trans Zs_362 K_353.1)
        have Fa_365 := (Fa_354.keep K_353)
        refine c_U0 X_353 Hq rfl hZ hown hml (k0_34U1 hw) (rm12 hw a1 r__353 en T_353.heap n0 Zs_364 Fq_353_2 Fq_353_1) Fa_365 at_379 ?_ 0 (sd := ⟨by decide, by decide, hcl, hsl⟩)
        rintro T_363 L_363 _ X_363 ⟨⟨⟩, Nq_363, e_363⟩
        have N_363 := Fr.app N_353 Nq_363
        refine o_iload X_363 Hq at_382 rfl (o_iload X_363 Hq at_384 rfl ?_)
        by_cases hc386__366 : r__353 = en
        ·refine o_icmpNo X_363 Hq at_386 (teq hc386__366).2 (o_iconst X_363 Hq 1 at_389 rfl (o_goto X_363 Hq (pc' := 394) at_390 (o_icmpNo X_363 Hq at_394 (teq (if_pos hc386__366)).2 (o_iconst X_363 Hq 1 at_397 rfl (o_goto X_363 Hq (pc' := 402) at_398 ?_)))))
         have Kp_367 : Keep h0 T_353.heap [] := (((Kh.trans K_284 (allS (Or.inr sz1) all0)).trans K_333 (allS (Or.inr sz1) all0)).trans K_353 (allS (Or.inr sz1) all0))
         have Ks_368 := (Nat.le_trans (Nat.le_trans (Nat.le_trans hk K_284.1) K_333.1) K_353.1)
         exact e_ZW X_363 hS e_363 Ks_368 Hq hlk hrt at_402 ⟨rfl, N_363, Kp_367⟩ ⟨hcl, hsl⟩
        ·refine o_icmpYes X_363 Hq (pc' := 393) at_386 (feq hc386__366).2 (o_iconst X_363 Hq 0 at_393 rfl (o_icmpNo X_363 Hq at_394 (teq (if_neg hc386__366)).2 (o_iconst X_363 Hq 1 at_397 rfl (o_goto X_363 Hq (pc' := 402) at_398 ?_))))
         have Kp_369 : Keep h0 T_353.heap [] := (((Kh.trans K_284 (allS (Or.inr sz1) all0)).trans K_333 (allS (Or.inr sz1) all0)).trans K_353 (allS (Or.inr sz1) all0))
         have Ks_370 := (Nat.le_trans (Nat.le_trans (Nat.le_trans hk K_284.1) K_333.1) K_353.1)
         exact e_ZW X_363 hS e_363 Ks_370 Hq hlk hrt at_402 ⟨rfl, N_363, Kp_369⟩ ⟨hcl, hsl⟩
       ·refine o_ifNo X_333 Hq at_355 (feq hc355__352).1 (o_iconst X_333 Hq 1 at_358 rfl (o_goto X_333 Hq (pc' := 363) at_359 (o_iload X_333 Hq at_363 rfl ?_)))
        have Fa_372 := (Fa_334.keep K_333)
        have Fa_373 := (Fa_335.keep K_333 (ninS n21 nin0))
        have Fa_374 := (Fa_336.keep K_333)
        have Fa_375 := (Fa_337.keep K_333 (ninS n31 nin0))
        have Fa_376 := (Fa_338.keep K_333 (ninS n31 nin0))
        have Fa_377 := (Fa_339.keep K_333 (ninS nb1 nin0))
        have Fa_378 := (own_Sta_keep Fa_340 K_333 (nsS (Fa_334.nostat) ns0))
        have Fa_379 := (own_Sta_keep Fa_341 K_333 (nsS (Fa_334.nostat) ns0))
        have Zs_380 : n0 ≤ T_333.heap.size := (Nat.le_trans Zs_342 K_333.1)
        refine c_S6 X_333 Hq rfl hZ hown hml (k0_38 hw) (rmstep hw a1 a2 r__333 en (1 : Int32) p6 a3 kc vc dc b k1 Ln vs d1 w sfv f T_333.heap n0 Zs_380 Fa_372 g1 Fq_333_0 Fq_333_1 Fq_333_2 n31 nb1 Fa_373 hcs Fa_374 Fa_375 Fa_376 Fa_377 Fa_378 hw0 hat hf Fa_379 hsf Pq_333_0 Pq_333_1 hN1 hN3) at_365 ?_ 0 (sd := ⟨by decide, by decide, hcl, hsl⟩)
        rintro T_371 L_371 _ X_371 ⟨r__371, ⟨⟩, Nq_371, K_371, Fq_371_0, Fq_371_1, Fq_371_2, Pq_371_0, Pq_371_1⟩
        have N_371 := Fr.app N_333 Nq_371
        refine o_istore X_371 Hq at_368 (l' := #[iv p1, iv p2, iv p3, iv p4, iv p5, iv p6, iv c0, iv c1, iv c2, rv a2, iv nn, iv tr, iv kk, rv a3, rv a1, iv r__371, iv en, l17, l18]) rfl (o_iload X_371 Hq at_370 rfl (o_ifYes X_371 Hq (pc' := 377) at_372 (flt Pq_371_0).2.1 (o_aload X_371 Hq at_377 rfl rfl ?_)))
        have Zs_382 : n0 ≤ T_371.heap.size := (Nat.le_trans Zs_380 K_371.1)
        have Fa_383 := (Fa_372.keep K_371)
        refine c_U0 X_371 Hq rfl hZ hown hml (k0_34U1 hw) (rm12 hw a1 r__371 en T_371.heap n0 Zs_382 Fq_371_2 Fq_371_1) Fa_383 at_379 ?_ 0 (sd := ⟨by decide, by decide, hcl, hsl⟩)
        rintro T_381 L_381 _ X_381 ⟨⟨⟩, Nq_381, e_381⟩
        have N_381 := Fr.app N_371 Nq_381
        refine o_iload X_381 Hq at_382 rfl (o_iload X_381 Hq at_384 rfl ?_)
        by_cases hc386__384 : r__371 = en
        ·refine o_icmpNo X_381 Hq at_386 (teq hc386__384).2 (o_iconst X_381 Hq 1 at_389 rfl (o_goto X_381 Hq (pc' := 394) at_390 (o_icmpNo X_381 Hq at_394 (teq (if_pos hc386__384)).2 (o_iconst X_381 Hq 1 at_397 rfl (o_goto X_381 Hq (pc' := 402) at_398 ?_)))))
         have Kp_385 : Keep h0 T_371.heap [] := (((Kh.trans K_284 (allS (Or.inr sz1) all0)).trans K_333 (allS (Or.inr sz1) all0)).trans K_371 (allS (Or.inr sz1) all0))
         have Ks_386 := (Nat.le_trans (Nat.le_trans (Nat.le_trans hk K_284.1) K_333.1) K_371.1)
         exact e_ZW X_381 hS e_381 Ks_386 Hq hlk hrt at_402 ⟨rfl, N_381, Kp_385⟩ ⟨hcl, hsl⟩
        ·refine o_icmpYes X_381 Hq (pc' := 393) at_386 (feq hc386__384).2 (o_iconst X_381 Hq 0 at_393 rfl (o_icmpNo X_381 Hq at_394 (teq (if_neg hc386__384)).2 (o_iconst X_381 Hq 1 at_397 rfl (o_goto X_381 Hq (pc' := 402) at_398 ?_))))
         have Kp_387 : Keep h0 T_371.heap [] := (((Kh.trans K_284 (allS (Or.inr sz1) all0)).trans K_333 (allS (Or.inr sz1) all0)).trans K_371 (allS (Or.inr sz1) all0))
         have Ks_388 := (Nat.le_trans (Nat.le_trans (Nat.le_trans hk K_284.1) K_333.1) K_371.1)
         exact e_ZW X_381 hS e_381 Ks_388 Hq hlk hrt at_402 ⟨rfl, N_381, Kp_387⟩ ⟨hcl, hsl⟩
     ·refine o_ifNo X_284 Hq at_316 (feq hc316__332).1 (o_iconst X_284 Hq 1 at_319 rfl (o_goto X_284 Hq (pc' := 324) at_320 (o_iload X_284 Hq at_324 rfl ?_)))
      have Fa_390 := (E1.keep K_284)
      have Fa_391 := (V3.keep K_284 (ninS n21 nin0))
      have Fa_392 := (E_s.keep K_284)
      have Fa_393 := (F_v.keep K_284 (ninS n31 nin0))
      have Fa_394 := (F_c.keep K_284 (ninS n31 nin0))
      have Fa_395 := (V_s.keep K_284 (ninS nb1 nin0))
      have Fa_396 := (own_Sta_keep S1 K_284 (nsS (E1.nostat) ns0))
      have Fa_397 := (own_Sta_keep S2 K_284 (nsS (E1.nostat) ns0))
      have Zs_398 : n0 ≤ T_284.heap.size := (Nat.le_trans Zh K_284.1)
      refine c_S6 X_284 Hq rfl hZ hown hml (k0_38 hw) (rmstep hw a1 a2 r__284 en (1 : Int32) p5 a3 kc vc dc b k1 Ln vs d1 w sfv f T_284.heap n0 Zs_398 Fa_390 g1 Fq_284_0 Fq_284_1 Fq_284_2 n31 nb1 Fa_391 hcs Fa_392 Fa_393 Fa_394 Fa_395 Fa_396 hw0 hat hf Fa_397 hsf Pq_284_0 Pq_284_1 hN1 hN3) at_326 ?_ 0 (sd := ⟨by decide, by decide, hcl, hsl⟩)
      rintro T_389 L_389 _ X_389 ⟨r__389, ⟨⟩, Nq_389, K_389, Fq_389_0, Fq_389_1, Fq_389_2, Pq_389_0, Pq_389_1⟩
      have N_389 := Fr.app N_284 Nq_389
      refine o_istore X_389 Hq at_329 (l' := #[iv p1, iv p2, iv p3, iv p4, iv p5, iv p6, iv c0, iv c1, iv c2, rv a2, iv nn, iv tr, iv kk, rv a3, rv a1, iv r__389, iv en, l17, l18]) rfl (o_iload X_389 Hq at_331 rfl (o_ifYes X_389 Hq (pc' := 338) at_333 (flt Pq_389_0).2.1 (o_iload X_389 Hq at_338 rfl (o_iconst X_389 Hq 3 at_340 rfl ?_))))
      by_cases hc341__399 : kk < (3 : Int32)
      ·refine o_icmpYes X_389 Hq (pc' := 377) at_341 (tlt hc341__399).1 (o_aload X_389 Hq at_377 rfl rfl ?_)
       have Zs_401 : n0 ≤ T_389.heap.size := (Nat.le_trans Zs_398 K_389.1)
       have Fa_402 := (Fa_390.keep K_389)
       refine c_U0 X_389 Hq rfl hZ hown hml (k0_34U1 hw) (rm12 hw a1 r__389 en T_389.heap n0 Zs_401 Fq_389_2 Fq_389_1) Fa_402 at_379 ?_ 0 (sd := ⟨by decide, by decide, hcl, hsl⟩)
       rintro T_400 L_400 _ X_400 ⟨⟨⟩, Nq_400, e_400⟩
       have N_400 := Fr.app N_389 Nq_400
       refine o_iload X_400 Hq at_382 rfl (o_iload X_400 Hq at_384 rfl ?_)
       by_cases hc386__403 : r__389 = en
       ·refine o_icmpNo X_400 Hq at_386 (teq hc386__403).2 (o_iconst X_400 Hq 1 at_389 rfl (o_goto X_400 Hq (pc' := 394) at_390 (o_icmpNo X_400 Hq at_394 (teq (if_pos hc386__403)).2 (o_iconst X_400 Hq 1 at_397 rfl (o_goto X_400 Hq (pc' := 402) at_398 ?_)))))
        have Kp_404 : Keep h0 T_389.heap [] := ((Kh.trans K_284 (allS (Or.inr sz1) all0)).trans K_389 (allS (Or.inr sz1) all0))
        have Ks_405 := (Nat.le_trans (Nat.le_trans hk K_284.1) K_389.1)
        exact e_ZW X_400 hS e_400 Ks_405 Hq hlk hrt at_402 ⟨rfl, N_400, Kp_404⟩ ⟨hcl, hsl⟩
       ·refine o_icmpYes X_400 Hq (pc' := 393) at_386 (feq hc386__403).2 (o_iconst X_400 Hq 0 at_393 rfl (o_icmpNo X_400 Hq at_394 (teq (if_neg hc386__403)).2 (o_iconst X_400 Hq 1 at_397 rfl (o_goto X_400 Hq (pc' := 402) at_398 ?_))))
        have Kp_406 : Keep h0 T_389.heap [] := ((Kh.trans K_284 (allS (Or.inr sz1) all0)).trans K_389 (allS (Or.inr sz1) all0))
        have Ks_407 := (Nat.le_trans (Nat.le_trans hk K_284.1) K_389.1)
        exact e_ZW X_400 hS e_400 Ks_407 Hq hlk hrt at_402 ⟨rfl, N_400, Kp_406⟩ ⟨hcl, hsl⟩
      ·refine o_icmpNo X_389 Hq at_341 (flt hc341__399).1 (o_aload X_389 Hq at_344 rfl rfl (o_aload X_389 Hq at_346 rfl rfl (o_iload X_389 Hq at_348 rfl (o_iload X_389 Hq at_350 rfl (o_iloadN X_389 Hq at_352 rfl (o_iconst X_389 Hq 4 at_353 rfl (o_iand X_389 Hq at_354 ?_)))))))
       by_cases hc355__408 : (p4 &&& (4 : Int32)) = (0 : Int32)
       ·refine o_ifYes X_389 Hq (pc' := 362) at_355 (teq hc355__408).1 (o_iconst X_389 Hq 0 at_362 rfl (o_iload X_389 Hq at_363 rfl ?_))
        have Fa_410 := (Fa_390.keep K_389)
        have Fa_411 := (Fa_391.keep K_389 (ninS n21 nin0))
        have Fa_412 := (Fa_392.keep K_389)
        have Fa_413 := (Fa_393.keep K_389 (ninS n31 nin0))
        have Fa_414 := (Fa_394.keep K_389 (ninS n31 nin0))
        have Fa_415 := (Fa_395.keep K_389 (ninS nb1 nin0))
        have Fa_416 := (own_Sta_keep Fa_396 K_389 (nsS (Fa_390.nostat) ns0))
        have Fa_417 := (own_Sta_keep Fa_397 K_389 (nsS (Fa_390.nostat) ns0))
        have Zs_418 : n0 ≤ T_389.heap.size := (Nat.le_trans Zs_398 K_389.1)
        refine c_S6 X_389 Hq rfl hZ hown hml (k0_38 hw) (rmstep hw a1 a2 r__389 en (0 : Int32) p6 a3 kc vc dc b k1 Ln vs d1 w sfv f T_389.heap n0 Zs_418 Fa_410 g1 Fq_389_0 Fq_389_1 Fq_389_2 n31 nb1 Fa_411 hcs Fa_412 Fa_413 Fa_414 Fa_415 Fa_416 hw0 hat hf Fa_417 hsf Pq_389_0 Pq_389_1 hN1 hN3) at_365 ?_ 0 (sd := ⟨by decide, by decide, hcl, hsl⟩)
        rintro T_409 L_409 _ X_409 ⟨r__409, ⟨⟩, Nq_409, K_409, Fq_409_0, Fq_409_1, Fq_409_2, Pq_409_0, Pq_409_1⟩
        have N_409 := Fr.app N_389 Nq_409
        refine o_istore X_409 Hq at_368 (l' := #[iv p1, iv p2, iv p3, iv p4, iv p5, iv p6, iv c0, iv c1, iv c2, rv a2, iv nn, iv tr, iv kk, rv a3, rv a1, iv r__409, iv en, l17, l18]) rfl (o_iload X_409 Hq at_370 rfl (o_ifYes X_409 Hq (pc' := 377) at_372 (flt Pq_409_0).2.1 (o_aload X_409 Hq at_377 rfl rfl ?_)))
        have Zs_420 : n0 ≤ T_409.heap.size := (Nat.le_trans Zs_418 K_409.1)
        have Fa_421 := (Fa_410.keep K_409)
        refine c_U0 X_409 Hq rfl hZ hown hml (k0_34U1 hw) (rm12 hw a1 r__409 en T_409.heap n0 Zs_420 Fq_409_2 Fq_409_1) Fa_421 at_379 ?_ 0 (sd := ⟨by decide, by decide, hcl, hsl⟩)
        rintro T_419 L_419 _ X_419 ⟨⟨⟩, Nq_419, e_419⟩
        have N_419 := Fr.app N_409 Nq_419
        refine o_iload X_419 Hq at_382 rfl (o_iload X_419 Hq at_384 rfl ?_)
        by_cases hc386__422 : r__409 = en
        ·refine o_icmpNo X_419 Hq at_386 (teq hc386__422).2 (o_iconst X_419 Hq 1 at_389 rfl (o_goto X_419 Hq (pc' := 394) at_390 (o_icmpNo X_419 Hq at_394 (teq (if_pos hc386__422)).2 (o_iconst X_419 Hq 1 at_397 rfl (o_goto X_419 Hq (pc' := 402) at_398 ?_)))))
         have Kp_423 : Keep h0 T_409.heap [] := (((Kh.trans K_284 (allS (Or.inr sz1) all0)).trans K_389 (allS (Or.inr sz1) all0)).trans K_409 (allS (Or.inr sz1) all0))
         have Ks_424 := (Nat.le_trans (Nat.le_trans (Nat.le_trans hk K_284.1) K_389.1) K_409.1)
         exact e_ZW X_419 hS e_419 Ks_424 Hq hlk hrt at_402 ⟨rfl, N_419, Kp_423⟩ ⟨hcl, hsl⟩
        ·refine o_icmpYes X_419 Hq (pc' := 393) at_386 (feq hc386__422).2 (o_iconst X_419 Hq 0 at_393 rfl (o_icmpNo X_419 Hq at_394 (teq (if_neg hc386__422)).2 (o_iconst X_419 Hq 1 at_397 rfl (o_goto X_419 Hq (pc' := 402) at_398 ?_))))
         have Kp_425 : Keep h0 T_409.heap [] := (((Kh.trans K_284 (allS (Or.inr sz1) all0)).trans K_389 (allS (Or.inr sz1) all0)).trans K_409 (allS (Or.inr sz1) all0))
         have Ks_426 := (Nat.le_trans (Nat.le_trans (Nat.le_trans hk K_284.1) K_389.1) K_409.1)
         exact e_ZW X_419 hS e_419 Ks_426 Hq hlk hrt at_402 ⟨rfl, N_419, Kp_425⟩ ⟨hcl, hsl⟩
       ·refine o_ifNo X_389 Hq at_355 (feq hc355__408).1 (o_iconst X_389 Hq 1 at_358 rfl (o_goto X_389 Hq (pc' := 363) at_359 (o_iload X_389 Hq at_363 rfl ?_)))
        have Fa_428 := (Fa_390.keep K_389)
        have Fa_429 := (Fa_391.keep K_389 (ninS n21 nin0))
        have Fa_430 := (Fa_392.keep K_389)
        have Fa_431 := (Fa_393.keep K_389 (ninS n31 nin0))
        have Fa_432 := (Fa_394.keep K_389 (ninS n31 nin0))
        have Fa_433 := (Fa_395.keep K_389 (ninS nb1 nin0))
        have Fa_434 := (own_Sta_keep Fa_396 K_389 (nsS (Fa_390.nostat) ns0))
        have Fa_435 := (own_Sta_keep Fa_397 K_389 (nsS (Fa_390.nostat) ns0))
        have Zs_436 : n0 ≤ T_389.heap.size := (Nat.le_trans Zs_398 K_389.1)
        refine c_S6 X_389 Hq rfl hZ hown hml (k0_38 hw) (rmstep hw a1 a2 r__389 en (1 : Int32) p6 a3 kc vc dc b k1 Ln vs d1 w sfv f T_389.heap n0 Zs_436 Fa_428 g1 Fq_389_0 Fq_389_1 Fq_389_2 n31 nb1 Fa_429 hcs Fa_430 Fa_431 Fa_432 Fa_433 Fa_434 hw0 hat hf Fa_435 hsf Pq_389_0 Pq_389_1 hN1 hN3) at_365 ?_ 0 (sd := ⟨by decide, by decide, hcl, hsl⟩)
        rintro T_427 L_427 _ X_427 ⟨r__427, ⟨⟩, Nq_427, K_427, Fq_427_0, Fq_427_1, Fq_427_2, Pq_427_0, Pq_427_1⟩
        have N_427 := Fr.app N_389 Nq_427
        refine o_istore X_427 Hq at_368 (l' := #[iv p1, iv p2, iv p3, iv p4, iv p5, iv p6, iv c0, iv c1, iv c2, rv a2, iv nn, iv tr, iv kk, rv a3, rv a1, iv r__427, iv en, l17, l18]) rfl (o_iload X_427 Hq at_370 rfl (o_ifYes X_427 Hq (pc' := 377) at_372 (flt Pq_427_0).2.1 (o_aload X_427 Hq at_377 rfl rfl ?_)))
        have Zs_438 : n0 ≤ T_427.heap.size := (Nat.le_trans Zs_436 K_427.1)
        have Fa_439 := (Fa_428.keep K_427)
        refine c_U0 X_427 Hq rfl hZ hown hml (k0_34U1 hw) (rm12 hw a1 r__427 en T_427.heap n0 Zs_438 Fq_427_2 Fq_427_1) Fa_439 at_379 ?_ 0 (sd := ⟨by decide, by decide, hcl, hsl⟩)
        rintro T_437 L_437 _ X_437 ⟨⟨⟩, Nq_437, e_437⟩
        have N_437 := Fr.app N_427 Nq_437
        refine o_iload X_437 Hq at_382 rfl (o_iload X_437 Hq at_384 rfl ?_)
        by_cases hc386__440 : r__427 = en
        ·refine o_icmpNo X_437 Hq at_386 (teq hc386__440).2 (o_iconst X_437 Hq 1 at_389 rfl (o_goto X_437 Hq (pc' := 394) at_390 (o_icmpNo X_437 Hq at_394 (teq (if_pos hc386__440)).2 (o_iconst X_437 Hq 1 at_397 rfl (o_goto X_437 Hq (pc' := 402) at_398 ?_)))))
         have Kp_441 : Keep h0 T_427.heap [] := (((Kh.trans K_284 (allS (Or.inr sz1) all0)).trans K_389 (allS (Or.inr sz1) all0)).trans K_427 (allS (Or.inr sz1) all0))
         have Ks_442 := (Nat.le_trans (Nat.le_trans (Nat.le_trans hk K_284.1) K_389.1) K_427.1)
         exact e_ZW X_437 hS e_437 Ks_442 Hq hlk hrt at_402 ⟨rfl, N_437, Kp_441⟩ ⟨hcl, hsl⟩
        ·refine o_icmpYes X_437 Hq (pc' := 393) at_386 (feq hc386__440).2 (o_iconst X_437 Hq 0 at_393 rfl (o_icmpNo X_437 Hq at_394 (teq (if_neg hc386__440)).2 (o_iconst X_437 Hq 1 at_397 rfl (o_goto X_437 Hq (pc' := 402) at_398 ?_))))
         have Kp_443 : Keep h0 T_427.heap [] := (((Kh.trans K_284 (allS (Or.inr sz1) all0)).trans K_389 (allS (Or.inr sz1) all0)).trans K_427 (allS (Or.inr sz1) all0))
         have Ks_444 := (Nat.le_trans (Nat.le_trans (Nat.le_trans hk K_284.1) K_389.1) K_427.1)
         exact e_ZW X_437 hS e_437 Ks_444 Hq hlk hrt at_402 ⟨rfl, N_437, Kp_443⟩ ⟨hcl, hsl⟩
 ·refine o_icmpYes X_1 Hq (pc' := 255) at_248 (feq hc248__2).2 (o_iconst X_1 Hq 0 at_255 rfl (o_icmpYes X_1 Hq (pc' := 261) at_256 (teq (if_neg hc248__2)).1 (o_iload X_1 Hq at_261 rfl (o_iconst X_1 Hq 1 at_263 rfl ?_))))
  by_cases hc264__445 : kk < (1 : Int32)
  ·refine o_icmpYes X_1 Hq (pc' := 299) at_264 (tlt hc264__445).1 (o_iload X_1 Hq at_299 rfl (o_iconst X_1 Hq 2 at_301 rfl ?_))
   by_cases hc302__446 : kk < (2 : Int32)
   ·refine o_icmpYes X_1 Hq (pc' := 338) at_302 (tlt hc302__446).1 (o_iload X_1 Hq at_338 rfl (o_iconst X_1 Hq 3 at_340 rfl ?_))
    by_cases hc341__447 : kk < (3 : Int32)
    ·refine o_icmpYes X_1 Hq (pc' := 377) at_341 (tlt hc341__447).1 (o_aload X_1 Hq at_377 rfl rfl ?_)
     refine c_U0 X_1 Hq e_1 hZ hown hml (k0_34U1 hw) (rm12 hw a1 ps en h n0 Zh F3 F2) E1 at_379 ?_ 0 (sd := ⟨by decide, by decide, hcl, hsl⟩)
     rintro T_448 L_448 _ X_448 ⟨⟨⟩, Nq_448, e_448⟩
     have N_448 := Fr.app N_1 Nq_448
     refine o_iload X_448 Hq at_382 rfl (o_iload X_448 Hq at_384 rfl (o_icmpYes X_448 Hq (pc' := 393) at_386 (feq hc248__2).2 (o_iconst X_448 Hq 0 at_393 rfl (o_icmpNo X_448 Hq at_394 (teq (if_neg hc248__2)).2 (o_iconst X_448 Hq 1 at_397 rfl (o_goto X_448 Hq (pc' := 402) at_398 ?_))))))
     have Ks_449 := hk
     exact e_ZW X_448 hS e_448 Ks_449 Hq hlk hrt at_402 ⟨rfl, N_448, Kh⟩ ⟨hcl, hsl⟩
    ·refine o_icmpNo X_1 Hq at_341 (flt hc341__447).1 (o_aload X_1 Hq at_344 rfl rfl (o_aload X_1 Hq at_346 rfl rfl (o_iload X_1 Hq at_348 rfl (o_iload X_1 Hq at_350 rfl (o_iloadN X_1 Hq at_352 rfl (o_iconst X_1 Hq 4 at_353 rfl (o_iand X_1 Hq at_354 ?_)))))))
     by_cases hc355__450 : (p4 &&& (4 : Int32)) = (0 : Int32)
     ·refine o_ifYes X_1 Hq (pc' := 362) at_355 (teq hc355__450).1 (o_iconst X_1 Hq 0 at_362 rfl (o_iload X_1 Hq at_363 rfl ?_))
      refine c_S6 X_1 Hq e_1 hZ hown hml (k0_38 hw) (rmstep hw a1 a2 ps en (0 : Int32) p6 a3 kc vc dc b k1 Ln vs d1 w sfv f h n0 Zh E1 g1 F1 F2 F3 n31 nb1 V3 hcs E_s F_v F_c V_s S1 hw0 hat hf S2 hsf hp0 hp1 hN1 hN3) at_365 ?_ 0 (sd := ⟨by decide, by decide, hcl, hsl⟩)
      rintro T_451 L_451 _ X_451 ⟨r__451, ⟨⟩, Nq_451, K_451, Fq_451_0, Fq_451_1, Fq_451_2, Pq_451_0, Pq_451_1⟩
      have N_451 := Fr.app N_1 Nq_451
      refine o_istore X_451 Hq at_368 (l' := #[iv p1, iv p2, iv p3, iv p4, iv p5, iv p6, iv c0, iv c1, iv c2, rv a2, iv nn, iv tr, iv kk, rv a3, rv a1, iv r__451, iv en, l17, l18]) rfl (o_iload X_451 Hq at_370 rfl (o_ifYes X_451 Hq (pc' := 377) at_372 (flt Pq_451_0).2.1 (o_aload X_451 Hq at_377 rfl rfl ?_)))
      have Zs_453 : n0 ≤ T_451.heap.size := (Nat.le_trans Zh K_451.1)
      have Fa_454 := (E1.keep K_451)
      refine c_U0 X_451 Hq rfl hZ hown hml (k0_34U1 hw) (rm12 hw a1 r__451 en T_451.heap n0 Zs_453 Fq_451_2 Fq_451_1) Fa_454 at_379 ?_ 0 (sd := ⟨by decide, by decide, hcl, hsl⟩)
      rintro T_452 L_452 _ X_452 ⟨⟨⟩, Nq_452, e_452⟩
      have N_452 := Fr.app N_451 Nq_452
      refine o_iload X_452 Hq at_382 rfl (o_iload X_452 Hq at_384 rfl ?_)
      by_cases hc386__455 : r__451 = en
      ·refine o_icmpNo X_452 Hq at_386 (teq hc386__455).2 (o_iconst X_452 Hq 1 at_389 rfl (o_goto X_452 Hq (pc' := 394) at_390 (o_icmpNo X_452 Hq at_394 (teq (if_pos hc386__455)).2 (o_iconst X_452 Hq 1 at_397 rfl (o_goto X_452 Hq (pc' := 402) at_398 ?_)))))
       have Kp_456 : Keep h0 T_451.heap [] := (Kh.trans K_451 (allS (Or.inr sz1) all0))
       have Ks_457 := (Nat.le_trans hk K_451.1)
       exact e_ZW X_452 hS e_452 Ks_457 Hq hlk hrt at_402 ⟨rfl, N_452, Kp_456⟩ ⟨hcl, hsl⟩
      ·refine o_icmpYes X_452 Hq (pc' := 393) at_386 (feq hc386__455).2 (o_iconst X_452 Hq 0 at_393 rfl (o_icmpNo X_452 Hq at_394 (teq (if_neg hc386__455)).2 (o_iconst X_452 Hq 1 at_397 rfl (o_goto X_452 Hq (pc' := 402) at_398 ?_))))
       have Kp_458 : Keep h0 T_451.heap [] := (Kh.trans K_451 (allS (Or.inr sz1) all0))
       have Ks_459 := (Nat.le_trans hk K_451.1)
       exact e_ZW X_452 hS e_452 Ks_459 Hq hlk hrt at_402 ⟨rfl, N_452, Kp_458⟩ ⟨hcl, hsl⟩
     ·refine o_ifNo X_1 Hq at_355 (feq hc355__450).1 (o_iconst X_1 Hq 1 at_358 rfl (o_goto X_1 Hq (pc' := 363) at_359 (o_iload X_1 Hq at_363 rfl ?_)))
      refine c_S6 X_1 Hq e_1 hZ hown hml (k0_38 hw) (rmstep hw a1 a2 ps en (1 : Int32) p6 a3 kc vc dc b k1 Ln vs d1 w sfv f h n0 Zh E1 g1 F1 F2 F3 n31 nb1 V3 hcs E_s F_v F_c V_s S1 hw0 hat hf S2 hsf hp0 hp1 hN1 hN3) at_365 ?_ 0 (sd := ⟨by decide, by decide, hcl, hsl⟩)
      rintro T_460 L_460 _ X_460 ⟨r__460, ⟨⟩, Nq_460, K_460, Fq_460_0, Fq_460_1, Fq_460_2, Pq_460_0, Pq_460_1⟩
      have N_460 := Fr.app N_1 Nq_460
      refine o_istore X_460 Hq at_368 (l' := #[iv p1, iv p2, iv p3, iv p4, iv p5, iv p6, iv c0, iv c1, iv c2, rv a2, iv nn, iv tr, iv kk, rv a3, rv a1, iv r__460, iv en, l17, l18]) rfl (o_iload X_460 Hq at_370 rfl (o_ifYes X_460 Hq (pc' := 377) at_372 (flt Pq_460_0).2.1 (o_aload X_460 Hq at_377 rfl rfl ?_)))
      have Zs_462 : n0 ≤ T_460.heap.size := (Nat.le_trans Zh K_460.1)
      have Fa_463 := (E1.keep K_460)
      refine c_U0 X_460 Hq rfl hZ hown hml (k0_34U1 hw) (rm12 hw a1 r__460 en T_460.heap n0 Zs_462 Fq_460_2 Fq_460_1) Fa_463 at_379 ?_ 0 (sd := ⟨by decide, by decide, hcl, hsl⟩)
      rintro T_461 L_461 _ X_461 ⟨⟨⟩, Nq_461, e_461⟩
      have N_461 := Fr.app N_460 Nq_461
      refine o_iload X_461 Hq at_382 rfl (o_iload X_461 Hq at_384 rfl ?_)
      by_cases hc386__464 : r__460 = en
      ·refine o_icmpNo X_461 Hq at_386 (teq hc386__464).2 (o_iconst X_461 Hq 1 at_389 rfl (o_goto X_461 Hq (pc' := 394) at_390 (o_icmpNo X_461 Hq at_394 (teq (if_pos hc386__464)).2 (o_iconst X_461 Hq 1 at_397 rfl (o_goto X_461 Hq (pc' := 402) at_398 ?_)))))
       have Kp_465 : Keep h0 T_460.heap [] := (Kh.trans K_460 (allS (Or.inr sz1) all0))
       have Ks_466 := (Nat.le_trans hk K_460.1)
       exact e_ZW X_461 hS e_461 Ks_466 Hq hlk hrt at_402 ⟨rfl, N_461, Kp_465⟩ ⟨hcl, hsl⟩
      ·refine o_icmpYes X_461 Hq (pc' := 393) at_386 (feq hc386__464).2 (o_iconst X_461 Hq 0 at_393 rfl (o_icmpNo X_461 Hq at_394 (teq (if_neg hc386__464)).2 (o_iconst X_461 Hq 1 at_397 rfl (o_goto X_461 Hq (pc' := 402) at_398 ?_))))
       have Kp_467 : Keep h0 T_460.heap [] := (Kh.trans K_460 (allS (Or.inr sz1) all0))
       have Ks_468 := (Nat.le_trans hk K_460.1)
       exact e_ZW X_461 hS e_461 Ks_468 Hq hlk hrt at_402 ⟨rfl, N_461, Kp_467⟩ ⟨hcl, hsl⟩
   ·refine o_icmpNo X_1 Hq at_302 (flt hc302__446).1 (o_aload X_1 Hq at_305 rfl rfl (o_aload X_1 Hq at_307 rfl rfl (o_iload X_1 Hq at_309 rfl (o_iload X_1 Hq at_311 rfl (o_iloadN X_1 Hq at_313 rfl (o_iconst X_1 Hq 2 at_314 rfl (o_iand X_1 Hq at_315 ?_)))))))
    by_cases hc316__469 : (p4 &&& (2 : Int32)) = (0 : Int32)
    ·refine o_ifYes X_1 Hq (pc' := 323) at_316 (teq hc316__469).1 (o_iconst X_1 Hq 0 at_323 rfl (o_iload X_1 Hq at_324 rfl ?_))
     refine c_S6 X_1 Hq e_1 hZ hown hml (k0_38 hw) (rmstep hw a1 a2 ps en (0 : Int32) p5 a3 kc vc dc b k1 Ln vs d1 w sfv f h n0 Zh E1 g1 F1 F2 F3 n31 nb1 V3 hcs E_s F_v F_c V_s S1 hw0 hat hf S2 hsf hp0 hp1 hN1 hN3) at_326 ?_ 0 (sd := ⟨by decide, by decide, hcl, hsl⟩)
     rintro T_470 L_470 _ X_470 ⟨r__470, ⟨⟩, Nq_470, K_470, Fq_470_0, Fq_470_1, Fq_470_2, Pq_470_0, Pq_470_1⟩
     have N_470 := Fr.app N_1 Nq_470
     refine o_istore X_470 Hq at_329 (l' := #[iv p1, iv p2, iv p3, iv p4, iv p5, iv p6, iv c0, iv c1, iv c2, rv a2, iv nn, iv tr, iv kk, rv a3, rv a1, iv r__470, iv en, l17, l18]) rfl (o_iload X_470 Hq at_331 rfl (o_ifYes X_470 Hq (pc' := 338) at_333 (flt Pq_470_0).2.1 (o_iload X_470 Hq at_338 rfl (o_iconst X_470 Hq 3 at_340 rfl ?_))))
     by_cases hc341__471 : kk < (3 : Int32)
     ·refine o_icmpYes X_470 Hq (pc' := 377) at_341 (tlt hc341__471).1 (o_aload X_470 Hq at_377 rfl rfl ?_)
      have Zs_473 : n0 ≤ T_470.heap.size := (Nat.le_trans Zh K_470.1)
      have Fa_474 := (E1.keep K_470)
      refine c_U0 X_470 Hq rfl hZ hown hml (k0_34U1 hw) (rm12 hw a1 r__470 en T_470.heap n0 Zs_473 Fq_470_2 Fq_470_1) Fa_474 at_379 ?_ 0 (sd := ⟨by decide, by decide, hcl, hsl⟩)
      rintro T_472 L_472 _ X_472 ⟨⟨⟩, Nq_472, e_472⟩
      have N_472 := Fr.app N_470 Nq_472
      refine o_iload X_472 Hq at_382 rfl (o_iload X_472 Hq at_384 rfl ?_)
      by_cases hc386__475 : r__470 = en
      ·refine o_icmpNo X_472 Hq at_386 (teq hc386__475).2 (o_iconst X_472 Hq 1 at_389 rfl (o_goto X_472 Hq (pc' := 394) at_390 (o_icmpNo X_472 Hq at_394 (teq (if_pos hc386__475)).2 (o_iconst X_472 Hq 1 at_397 rfl (o_goto X_472 Hq (pc' := 402) at_398 ?_)))))
       have Kp_476 : Keep h0 T_470.heap [] := (Kh.trans K_470 (allS (Or.inr sz1) all0))
       have Ks_477 := (Nat.le_trans hk K_470.1)
       exact e_ZW X_472 hS e_472 Ks_477 Hq hlk hrt at_402 ⟨rfl, N_472, Kp_476⟩ ⟨hcl, hsl⟩
      ·refine o_icmpYes X_472 Hq (pc' := 393) at_386 (feq hc386__475).2 (o_iconst X_472 Hq 0 at_393 rfl (o_icmpNo X_472 Hq at_394 (teq (if_neg hc386__475)).2 (o_iconst X_472 Hq 1 at_397 rfl (o_goto X_472 Hq (pc' := 402) at_398 ?_))))
       have Kp_478 : Keep h0 T_470.heap [] := (Kh.trans K_470 (allS (Or.inr sz1) all0))
       have Ks_479 := (Nat.le_trans hk K_470.1)
       exact e_ZW X_472 hS e_472 Ks_479 Hq hlk hrt at_402 ⟨rfl, N_472, Kp_478⟩ ⟨hcl, hsl⟩
     ·refine o_icmpNo X_470 Hq at_341 (flt hc341__471).1 (o_aload X_470 Hq at_344 rfl rfl (o_aload X_470 Hq at_346 rfl rfl (o_iload X_470 Hq at_348 rfl (o_iload X_470 Hq at_350 rfl (o_iloadN X_470 Hq at_352 rfl (o_iconst X_470 Hq 4 at_353 rfl (o_iand X_470 Hq at_354 ?_)))))))
      by_cases hc355__480 : (p4 &&& (4 : Int32)) = (0 : Int32)
      ·refine o_ifYes X_470 Hq (pc' := 362) at_355 (teq hc355__480).1 (o_iconst X_470 Hq 0 at_362 rfl (o_iload X_470 Hq at_363 rfl ?_))
       have Fa_482 := (E1.keep K_470)
       have Fa_483 := (V3.keep K_470 (ninS n21 nin0))
       have Fa_484 := (E_s.keep K_470)
       have Fa_485 := (F_v.keep K_470 (ninS n31 nin0))
       have Fa_486 := (F_c.keep K_470 (ninS n31 nin0))
       have Fa_487 := (V_s.keep K_470 (ninS nb1 nin0))
       have Fa_488 := (own_Sta_keep S1 K_470 (nsS (E1.nostat) ns0))
       have Fa_489 := (own_Sta_keep S2 K_470 (nsS (E1.nostat) ns0))
       have Zs_490 : n0 ≤ T_470.heap.size := (Nat.le_trans Zh K_470.1)
       refine c_S6 X_470 Hq rfl hZ hown hml (k0_38 hw) (rmstep hw a1 a2 r__470 en (0 : Int32) p6 a3 kc vc dc b k1 Ln vs d1 w sfv f T_470.heap n0 Zs_490 Fa_482 g1 Fq_470_0 Fq_470_1 Fq_470_2 n31 nb1 Fa_483 hcs Fa_484 Fa_485 Fa_486 Fa_487 Fa_488 hw0 hat hf Fa_489 hsf Pq_470_0 Pq_470_1 hN1 hN3) at_365 ?_ 0 (sd := ⟨by decide, by decide, hcl, hsl⟩)
       rintro T_481 L_481 _ X_481 ⟨r__481, ⟨⟩, Nq_481, K_481, Fq_481_0, Fq_481_1, Fq_481_2, Pq_481_0, Pq_481_1⟩
       have N_481 := Fr.app N_470 Nq_481
       refine o_istore X_481 Hq at_368 (l' := #[iv p1, iv p2, iv p3, iv p4, iv p5, iv p6, iv c0, iv c1, iv c2, rv a2, iv nn, iv tr, iv kk, rv a3, rv a1, iv r__481, iv en, l17, l18]) rfl (o_iload X_481 Hq at_370 rfl (o_ifYes X_481 Hq (pc' := 377) at_372 (flt Pq_481_0).2.1 (o_aload X_481 Hq at_377 rfl rfl ?_)))
       have Zs_492 : n0 ≤ T_481.heap.size := (Nat.le_trans Zs_490 K_481.1)
       have Fa_493 := (Fa_482.keep K_481)
       refine c_U0 X_481 Hq rfl hZ hown hml (k0_34U1 hw) (rm12 hw a1 r__481 en T_481.heap n0 Zs_492 Fq_481_2 Fq_481_1) Fa_493 at_379 ?_ 0 (sd := ⟨by decide, by decide, hcl, hsl⟩)
       rintro T_491 L_491 _ X_491 ⟨⟨⟩, Nq_491, e_491⟩
       have N_491 := Fr.app N_481 Nq_491
       refine o_iload X_491 Hq at_382 rfl (o_iload X_491 Hq at_384 rfl ?_)
       by_cases hc386__494 : r__481 = en
       ·refine o_icmpNo X_491 Hq at_386 (teq hc386__494).2 (o_iconst X_491 Hq 1 at_389 rfl (o_goto X_491 Hq (pc' := 394) at_390 (o_icmpNo X_491 Hq at_394 (teq (if_pos hc386__494)).2 (o_iconst X_491 Hq 1 at_397 rfl (o_goto X_491 Hq (pc' := 402) at_398 ?_)))))
        have Kp_495 : Keep h0 T_481.heap [] := ((Kh.trans K_470 (allS (Or.inr sz1) all0)).trans K_481 (allS (Or.inr sz1) all0))
        have Ks_496 := (Nat.le_trans (Nat.le_trans hk K_470.1) K_481.1)
        exact e_ZW X_491 hS e_491 Ks_496 Hq hlk hrt at_402 ⟨rfl, N_491, Kp_495⟩ ⟨hcl, hsl⟩
       ·refine o_icmpYes X_491 Hq (pc' := 393) at_386 (feq hc386__494).2 (o_iconst X_491 Hq 0 at_393 rfl (o_icmpNo X_491 Hq at_394 (teq (if_neg hc386__494)).2 (o_iconst X_491 Hq 1 at_397 rfl (o_goto X_491 Hq (pc' := 402) at_398 ?_))))
        have Kp_497 : Keep h0 T_481.heap [] := ((Kh.trans K_470 (allS (Or.inr sz1) all0)).trans K_481 (allS (Or.inr sz1) all0))
        have Ks_498 := (Nat.le_trans (Nat.le_trans hk K_470.1) K_481.1)
        exact e_ZW X_491 hS e_491 Ks_498 Hq hlk hrt at_402 ⟨rfl, N_491, Kp_497⟩ ⟨hcl, hsl⟩
      ·refine o_ifNo X_470 Hq at_355 (feq hc355__480).1 (o_iconst X_470 Hq 1 at_358 rfl (o_goto X_470 Hq (pc' := 363) at_359 (o_iload X_470 Hq at_363 rfl ?_)))
       have Fa_500 := (E1.keep K_470)
       have Fa_501 := (V3.keep K_470 (ninS n21 nin0))
       have Fa_502 := (E_s.keep K_470)
       have Fa_503 := (F_v.keep K_470 (ninS n31 nin0))
       have Fa_504 := (F_c.keep K_470 (ninS n31 nin0))
       have Fa_505 := (V_s.keep K_470 (ninS nb1 nin0))
       have Fa_506 := (own_Sta_keep S1 K_470 (nsS (E1.nostat) ns0))
       have Fa_507 := (own_Sta_keep S2 K_470 (nsS (E1.nostat) ns0))
       have Zs_508 : n0 ≤ T_470.heap.size := (Nat.le_trans Zh K_470.1)
       refine c_S6 X_470 Hq rfl hZ hown hml (k0_38 hw) (rmstep hw a1 a2 r__470 en (1 : Int32) p6 a3 kc vc dc b k1 Ln vs d1 w sfv f T_470.heap n0 Zs_508 Fa_500 g1 Fq_470_0 Fq_470_1 Fq_470_2 n31 nb1 Fa_501 hcs Fa_502 Fa_503 Fa_504 Fa_505 Fa_506 hw0 hat hf Fa_507 hsf Pq_470_0 Pq_470_1 hN1 hN3) at_365 ?_ 0 (sd := ⟨by decide, by decide, hcl, hsl⟩)
       rintro T_499 L_499 _ X_499 ⟨r__499, ⟨⟩, Nq_499, K_499, Fq_499_0, Fq_499_1, Fq_499_2, Pq_499_0, Pq_499_1⟩
       have N_499 := Fr.app N_470 Nq_499
       refine o_istore X_499 Hq at_368 (l' := #[iv p1, iv p2, iv p3, iv p4, iv p5, iv p6, iv c0, iv c1, iv c2, rv a2, iv nn, iv tr, iv kk, rv a3, rv a1, iv r__499, iv en, l17, l18]) rfl (o_iload X_499 Hq at_370 rfl (o_ifYes X_499 Hq (pc' := 377) at_372 (flt Pq_499_0).2.1 (o_aload X_499 Hq at_377 rfl rfl ?_)))
       have Zs_510 : n0 ≤ T_499.heap.size := (Nat.le_trans Zs_508 K_499.1)
       have Fa_511 := (Fa_500.keep K_499)
       refine c_U0 X_499 Hq rfl hZ hown hml (k0_34U1 hw) (rm12 hw a1 r__499 en T_499.heap n0 Zs_510 Fq_499_2 Fq_499_1) Fa_511 at_379 ?_ 0 (sd := ⟨by decide, by decide, hcl, hsl⟩)
       rintro T_509 L_509 _ X_509 ⟨⟨⟩, Nq_509, e_509⟩
       have N_509 := Fr.app N_499 Nq_509
       refine o_iload X_509 Hq at_382 rfl (o_iload X_509 Hq at_384 rfl ?_)
       by_cases hc386__512 : r__499 = en
       ·refine o_icmpNo X_509 Hq at_386 (teq hc386__512).2 (o_iconst X_509 Hq 1 at_389 rfl (o_goto X_509 Hq (pc' := 394) at_390 (o_icmpNo X_509 Hq at_394 (teq (if_pos hc386__512)).2 (o_iconst X_509 Hq 1 at_397 rfl (o_goto X_509 Hq (pc' := 402) at_398 ?_)))))
        have Kp_513 : Keep h0 T_499.heap [] := ((Kh.trans K_470 (allS (Or.inr sz1) all0)).trans K_499 (allS (Or.inr sz1) all0))
        have Ks_514 := (Nat.le_trans (Nat.le_trans hk K_470.1) K_499.1)
        exact e_ZW X_509 hS e_509 Ks_514 Hq hlk hrt at_402 ⟨rfl, N_509, Kp_513⟩ ⟨hcl, hsl⟩
       ·refine o_icmpYes X_509 Hq (pc' := 393) at_386 (feq hc386__512).2 (o_iconst X_509 Hq 0 at_393 rfl (o_icmpNo X_509 Hq at_394 (teq (if_neg hc386__512)).2 (o_iconst X_509 Hq 1 at_397 rfl (o_goto X_509 Hq (pc' := 402) at_398 ?_))))
        have Kp_515 : Keep h0 T_499.heap [] := ((Kh.trans K_470 (allS (Or.inr sz1) all0)).trans K_499 (allS (Or.inr sz1) all0))
        have Ks_516 := (Nat.le_trans (Nat.le_trans hk K_470.1) K_499.1)
        exact e_ZW X_509 hS e_509 Ks_516 Hq hlk hrt at_402 ⟨rfl, N_509, Kp_515⟩ ⟨hcl, hsl⟩
    ·refine o_ifNo X_1 Hq at_316 (feq hc316__469).1 (o_iconst X_1 Hq 1 at_319 rfl (o_goto X_1 Hq (pc' := 324) at_320 (o_iload X_1 Hq at_324 rfl ?_)))
     refine c_S6 X_1 Hq e_1 hZ hown hml (k0_38 hw) (rmstep hw a1 a2 ps en (1 : Int32) p5 a3 kc vc dc b k1 Ln vs d1 w sfv f h n0 Zh E1 g1 F1 F2 F3 n31 nb1 V3 hcs E_s F_v F_c V_s S1 hw0 hat hf S2 hsf hp0 hp1 hN1 hN3) at_326 ?_ 0 (sd := ⟨by decide, by decide, hcl, hsl⟩)
     rintro T_517 L_517 _ X_517 ⟨r__517, ⟨⟩, Nq_517, K_517, Fq_517_0, Fq_517_1, Fq_517_2, Pq_517_0, Pq_517_1⟩
     have N_517 := Fr.app N_1 Nq_517
     refine o_istore X_517 Hq at_329 (l' := #[iv p1, iv p2, iv p3, iv p4, iv p5, iv p6, iv c0, iv c1, iv c2, rv a2, iv nn, iv tr, iv kk, rv a3, rv a1, iv r__517, iv en, l17, l18]) rfl (o_iload X_517 Hq at_331 rfl (o_ifYes X_517 Hq (pc' := 338) at_333 (flt Pq_517_0).2.1 (o_iload X_517 Hq at_338 rfl (o_iconst X_517 Hq 3 at_340 rfl ?_))))
     by_cases hc341__518 : kk < (3 : Int32)
     ·refine o_icmpYes X_517 Hq (pc' := 377) at_341 (tlt hc341__518).1 (o_aload X_517 Hq at_377 rfl rfl ?_)
      have Zs_520 : n0 ≤ T_517.heap.size := (Nat.le_trans Zh K_517.1)
      have Fa_521 := (E1.keep K_517)
      refine c_U0 X_517 Hq rfl hZ hown hml (k0_34U1 hw) (rm12 hw a1 r__517 en T_517.heap n0 Zs_520 Fq_517_2 Fq_517_1) Fa_521 at_379 ?_ 0 (sd := ⟨by decide, by decide, hcl, hsl⟩)
      rintro T_519 L_519 _ X_519 ⟨⟨⟩, Nq_519, e_519⟩
      have N_519 := Fr.app N_517 Nq_519
      refine o_iload X_519 Hq at_382 rfl (o_iload X_519 Hq at_384 rfl ?_)
      by_cases hc386__522 : r__517 = en
      ·refine o_icmpNo X_519 Hq at_386 (teq hc386__522).2 (o_iconst X_519 Hq 1 at_389 rfl (o_goto X_519 Hq (pc' := 394) at_390 (o_icmpNo X_519 Hq at_394 (teq (if_pos hc386__522)).2 (o_iconst X_519 Hq 1 at_397 rfl (o_goto X_519 Hq (pc' := 402) at_398 ?_)))))
       have Kp_523 : Keep h0 T_517.heap [] := (Kh.trans K_517 (allS (Or.inr sz1) all0))
       have Ks_524 := (Nat.le_trans hk K_517.1)
       exact e_ZW X_519 hS e_519 Ks_524 Hq hlk hrt at_402 ⟨rfl, N_519, Kp_523⟩ ⟨hcl, hsl⟩
      ·refine o_icmpYes X_519 Hq (pc' := 393) at_386 (feq hc386__522).2 (o_iconst X_519 Hq 0 at_393 rfl (o_icmpNo X_519 Hq at_394 (teq (if_neg hc386__522)).2 (o_iconst X_519 Hq 1 at_397 rfl (o_goto X_519 Hq (pc' := 402) at_398 ?_))))
       have Kp_525 : Keep h0 T_517.heap [] := (Kh.trans K_517 (allS (Or.inr sz1) all0))
       have Ks_526 := (Nat.le_trans hk K_517.1)
       exact e_ZW X_519 hS e_519 Ks_526 Hq hlk hrt at_402 ⟨rfl, N_519, Kp_525⟩ ⟨hcl, hsl⟩
     ·refine o_icmpNo X_517 Hq at_341 (flt hc341__518).1 (o_aload X_517 Hq at_344 rfl rfl (o_aload X_517 Hq at_346 rfl rfl (o_iload X_517 Hq at_348 rfl (o_iload X_517 Hq at_350 rfl (o_iloadN X_517 Hq at_352 rfl (o_iconst X_517 Hq 4 at_353 rfl (o_iand X_517 Hq at_354 ?_)))))))
      by_cases hc355__527 : (p4 &&& (4 : Int32)) = (0 : Int32)
      ·refine o_ifYes X_517 Hq (pc' := 362) at_355 (teq hc355__527).1 (o_iconst X_517 Hq 0 at_362 rfl (o_iload X_517 Hq at_363 rfl ?_))
       have Fa_529 := (E1.keep K_517)
       have Fa_530 := (V3.keep K_517 (ninS n21 nin0))
       have Fa_531 := (E_s.keep K_517)
       have Fa_532 := (F_v.keep K_517 (ninS n31 nin0))
       have Fa_533 := (F_c.keep K_517 (ninS n31 nin0))
       have Fa_534 := (V_s.keep K_517 (ninS nb1 nin0))
       have Fa_535 := (own_Sta_keep S1 K_517 (nsS (E1.nostat) ns0))
       have Fa_536 := (own_Sta_keep S2 K_517 (nsS (E1.nostat) ns0))
       have Zs_537 : n0 ≤ T_517.heap.size := (Nat.le_trans Zh K_517.1)
       refine c_S6 X_517 Hq rfl hZ hown hml (k0_38 hw) (rmstep hw a1 a2 r__517 en (0 : Int32) p6 a3 kc vc dc b k1 Ln vs d1 w sfv f T_517.heap n0 Zs_537 Fa_529 g1 Fq_517_0 Fq_517_1 Fq_517_2 n31 nb1 Fa_530 hcs Fa_531 Fa_532 Fa_533 Fa_534 Fa_535 hw0 hat hf Fa_536 hsf Pq_517_0 Pq_517_1 hN1 hN3) at_365 ?_ 0 (sd := ⟨by decide, by decide, hcl, hsl⟩)
       rintro T_528 L_528 _ X_528 ⟨r__528, ⟨⟩, Nq_528, K_528, Fq_528_0, Fq_528_1, Fq_528_2, Pq_528_0, Pq_528_1⟩
       have N_528 := Fr.app N_517 Nq_528
       refine o_istore X_528 Hq at_368 (l' := #[iv p1, iv p2, iv p3, iv p4, iv p5, iv p6, iv c0, iv c1, iv c2, rv a2, iv nn, iv tr, iv kk, rv a3, rv a1, iv r__528, iv en, l17, l18]) rfl (o_iload X_528 Hq at_370 rfl (o_ifYes X_528 Hq (pc' := 377) at_372 (flt Pq_528_0).2.1 (o_aload X_528 Hq at_377 rfl rfl ?_)))
       have Zs_539 : n0 ≤ T_528.heap.size := (Nat.le_trans Zs_537 K_528.1)
       have Fa_540 := (Fa_529.keep K_528)
       refine c_U0 X_528 Hq rfl hZ hown hml (k0_34U1 hw) (rm12 hw a1 r__528 en T_528.heap n0 Zs_539 Fq_528_2 Fq_528_1) Fa_540 at_379 ?_ 0 (sd := ⟨by decide, by decide, hcl, hsl⟩)
       rintro T_538 L_538 _ X_538 ⟨⟨⟩, Nq_538, e_538⟩
       have N_538 := Fr.app N_528 Nq_538
       refine o_iload X_538 Hq at_382 rfl (o_iload X_538 Hq at_384 rfl ?_)
       by_cases hc386__541 : r__528 = en
       ·refine o_icmpNo X_538 Hq at_386 (teq hc386__541).2 (o_iconst X_538 Hq 1 at_389 rfl (o_goto X_538 Hq (pc' := 394) at_390 (o_icmpNo X_538 Hq at_394 (teq (if_pos hc386__541)).2 (o_iconst X_538 Hq 1 at_397 rfl (o_goto X_538 Hq (pc' := 402) at_398 ?_)))))
        have Kp_542 : Keep h0 T_528.heap [] := ((Kh.trans K_517 (allS (Or.inr sz1) all0)).trans K_528 (allS (Or.inr sz1) all0))
        have Ks_543 := (Nat.le_trans (Nat.le_trans hk K_517.1) K_528.1)
        exact e_ZW X_538 hS e_538 Ks_543 Hq hlk hrt at_402 ⟨rfl, N_538, Kp_542⟩ ⟨hcl, hsl⟩
       ·refine o_icmpYes X_538 Hq (pc' := 393) at_386 (feq hc386__541).2 (o_iconst X_538 Hq 0 at_393 rfl (o_icmpNo X_538 Hq at_394 (teq (if_neg hc386__541)).2 (o_iconst X_538 Hq 1 at_397 rfl (o_goto X_538 Hq (pc' := 402) at_398 ?_))))
        have Kp_544 : Keep h0 T_528.heap [] := ((Kh.trans K_517 (allS (Or.inr sz1) all0)).trans K_528 (allS (Or.inr sz1) all0))
        have Ks_545 := (Nat.le_trans (Nat.le_trans hk K_517.1) K_528.1)
        exact e_ZW X_538 hS e_538 Ks_545 Hq hlk hrt at_402 ⟨rfl, N_538, Kp_544⟩ ⟨hcl, hsl⟩
      ·refine o_ifNo X_517 Hq at_355 (feq hc355__527).1 (o_iconst X_517 Hq 1 at_358 rfl (o_goto X_517 Hq (pc' := 363) at_359 (o_iload X_517 Hq at_363 rfl ?_)))
       have Fa_547 := (E1.keep K_517)
       have Fa_548 := (V3.keep K_517 (ninS n21 nin0))
       have Fa_549 := (E_s.keep K_517)
       have Fa_550 := (F_v.keep K_517 (ninS n31 nin0))
       have Fa_551 := (F_c.keep K_517 (ninS n31 nin0))
       have Fa_552 := (V_s.keep K_517 (ninS nb1 nin0))
       have Fa_553 := (own_Sta_keep S1 K_517 (nsS (E1.nostat) ns0))
       have Fa_554 := (own_Sta_keep S2 K_517 (nsS (E1.nostat) ns0))
       have Zs_555 : n0 ≤ T_517.heap.size := (Nat.le_trans Zh K_517.1)
       refine c_S6 X_517 Hq rfl hZ hown hml (k0_38 hw) (rmstep hw a1 a2 r__517 en (1 : Int32) p6 a3 kc vc dc b k1 Ln vs d1 w sfv f T_517.heap n0 Zs_555 Fa_547 g1 Fq_517_0 Fq_517_1 Fq_517_2 n31 nb1 Fa_548 hcs Fa_549 Fa_550 Fa_551 Fa_552 Fa_553 hw0 hat hf Fa_554 hsf Pq_517_0 Pq_517_1 hN1 hN3) at_365 ?_ 0 (sd := ⟨by decide, by decide, hcl, hsl⟩)
       rintro T_546 L_546 _ X_546 ⟨r__546, ⟨⟩, Nq_546, K_546, Fq_546_0, Fq_546_1, Fq_546_2, Pq_546_0, Pq_546_1⟩
       have N_546 := Fr.app N_517 Nq_546
       refine o_istore X_546 Hq at_368 (l' := #[iv p1, iv p2, iv p3, iv p4, iv p5, iv p6, iv c0, iv c1, iv c2, rv a2, iv nn, iv tr, iv kk, rv a3, rv a1, iv r__546, iv en, l17, l18]) rfl (o_iload X_546 Hq at_370 rfl (o_ifYes X_546 Hq (pc' := 377) at_372 (flt Pq_546_0).2.1 (o_aload X_546 Hq at_377 rfl rfl ?_)))
       have Zs_557 : n0 ≤ T_546.heap.size := (Nat.le_trans Zs_555 K_546.1)
       have Fa_558 := (Fa_547.keep K_546)
       refine c_U0 X_546 Hq rfl hZ hown hml (k0_34U1 hw) (rm12 hw a1 r__546 en T_546.heap n0 Zs_557 Fq_546_2 Fq_546_1) Fa_558 at_379 ?_ 0 (sd := ⟨by decide, by decide, hcl, hsl⟩)
       rintro T_556 L_556 _ X_556 ⟨⟨⟩, Nq_556, e_556⟩
       have N_556 := Fr.app N_546 Nq_556
       refine o_iload X_556 Hq at_382 rfl (o_iload X_556 Hq at_384 rfl ?_)
       by_cases hc386__559 : r__546 = en
       ·refine o_icmpNo X_556 Hq at_386 (teq hc386__559).2 (o_iconst X_556 Hq 1 at_389 rfl (o_goto X_556 Hq (pc' := 394) at_390 (o_icmpNo X_556 Hq at_394 (teq (if_pos hc386__559)).2 (o_iconst X_556 Hq 1 at_397 rfl (o_goto X_556 Hq (pc' := 402) at_398 ?_)))))
        have Kp_560 : Keep h0 T_546.heap [] := ((Kh.trans K_517 (allS (Or.inr sz1) all0)).trans K_546 (allS (Or.inr sz1) all0))
        have Ks_561 := (Nat.le_trans (Nat.le_trans hk K_517.1) K_546.1)
        exact e_ZW X_556 hS e_556 Ks_561 Hq hlk hrt at_402 ⟨rfl, N_556, Kp_560⟩ ⟨hcl, hsl⟩
       ·refine o_icmpYes X_556 Hq (pc' := 393) at_386 (feq hc386__559).2 (o_iconst X_556 Hq 0 at_393 rfl (o_icmpNo X_556 Hq at_394 (teq (if_neg hc386__559)).2 (o_iconst X_556 Hq 1 at_397 rfl (o_goto X_556 Hq (pc' := 402) at_398 ?_))))
        have Kp_562 : Keep h0 T_546.heap [] := ((Kh.trans K_517 (allS (Or.inr sz1) all0)).trans K_546 (allS (Or.inr sz1) all0))
        have Ks_563 := (Nat.le_trans (Nat.le_trans hk K_517.1) K_546.1)
        exact e_ZW X_556 hS e_556 Ks_563 Hq hlk hrt at_402 ⟨rfl, N_556, Kp_562⟩ ⟨hcl, hsl⟩
  ·refine o_icmpNo X_1 Hq at_264 (flt hc264__445).1 (o_aload X_1 Hq at_267 rfl rfl (o_aload X_1 Hq at_269 rfl rfl (o_iload X_1 Hq at_271 rfl (o_iload X_1 Hq at_273 rfl (o_iloadN X_1 Hq at_275 rfl (o_iconst X_1 Hq 1 at_276 rfl (o_iand X_1 Hq at_277 ?_)))))))
   by_cases hc278__564 : (p4 &&& (1 : Int32)) = (0 : Int32)
   ·refine o_ifYes X_1 Hq (pc' := 285) at_278 (teq hc278__564).1 (o_iconst X_1 Hq 0 at_285 rfl (o_iloadN X_1 Hq at_286 rfl ?_))
    refine c_S6 X_1 Hq e_1 hZ hown hml (k0_38 hw) (rmstep hw a1 a2 ps en (0 : Int32) p3 a3 kc vc dc b k1 Ln vs d1 w sfv f h n0 Zh E1 g1 F1 F2 F3 n31 nb1 V3 hcs E_s F_v F_c V_s S1 hw0 hat hf S2 hsf hp0 hp1 hN1 hN3) at_287 ?_ 0 (sd := ⟨by decide, by decide, hcl, hsl⟩)
    rintro T_565 L_565 _ X_565 ⟨r__565, ⟨⟩, Nq_565, K_565, Fq_565_0, Fq_565_1, Fq_565_2, Pq_565_0, Pq_565_1⟩
    have N_565 := Fr.app N_1 Nq_565
    refine o_istore X_565 Hq at_290 (l' := #[iv p1, iv p2, iv p3, iv p4, iv p5, iv p6, iv c0, iv c1, iv c2, rv a2, iv nn, iv tr, iv kk, rv a3, rv a1, iv r__565, iv en, l17, l18]) rfl (o_iload X_565 Hq at_292 rfl (o_ifYes X_565 Hq (pc' := 299) at_294 (flt Pq_565_0).2.1 (o_iload X_565 Hq at_299 rfl (o_iconst X_565 Hq 2 at_301 rfl ?_))))
    by_cases hc302__566 : kk < (2 : Int32)
    ·refine o_icmpYes X_565 Hq (pc' := 338) at_302 (tlt hc302__566).1 (o_iload X_565 Hq at_338 rfl (o_iconst X_565 Hq 3 at_340 rfl ?_))
     by_cases hc341__567 : kk < (3 : Int32)
     ·refine o_icmpYes X_565 Hq (pc' := 377) at_341 (tlt hc341__567).1 (o_aload X_565 Hq at_377 rfl rfl ?_)
      have Zs_569 : n0 ≤ T_565.heap.size := (Nat.le_trans Zh K_565.1)
      have Fa_570 := (E1.keep K_565)
      refine c_U0 X_565 Hq rfl hZ hown hml (k0_34U1 hw) (rm12 hw a1 r__565 en T_565.heap n0 Zs_569 Fq_565_2 Fq_565_1) Fa_570 at_379 ?_ 0 (sd := ⟨by decide, by decide, hcl, hsl⟩)
      rintro T_568 L_568 _ X_568 ⟨⟨⟩, Nq_568, e_568⟩
      have N_568 := Fr.app N_565 Nq_568
      refine o_iload X_568 Hq at_382 rfl (o_iload X_568 Hq at_384 rfl ?_)
      by_cases hc386__571 : r__565 = en
      ·refine o_icmpNo X_568 Hq at_386 (teq hc386__571).2 (o_iconst X_568 Hq 1 at_389 rfl (o_goto X_568 Hq (pc' := 394) at_390 (o_icmpNo X_568 Hq at_394 (teq (if_pos hc386__571)).2 (o_iconst X_568 Hq 1 at_397 rfl (o_goto X_568 Hq (pc' := 402) at_398 ?_)))))
       have Kp_572 : Keep h0 T_565.heap [] := (Kh.trans K_565 (allS (Or.inr sz1) all0))
       have Ks_573 := (Nat.le_trans hk K_565.1)
       exact e_ZW X_568 hS e_568 Ks_573 Hq hlk hrt at_402 ⟨rfl, N_568, Kp_572⟩ ⟨hcl, hsl⟩
      ·refine o_icmpYes X_568 Hq (pc' := 393) at_386 (feq hc386__571).2 (o_iconst X_568 Hq 0 at_393 rfl (o_icmpNo X_568 Hq at_394 (teq (if_neg hc386__571)).2 (o_iconst X_568 Hq 1 at_397 rfl (o_goto X_568 Hq (pc' := 402) at_398 ?_))))
       have Kp_574 : Keep h0 T_565.heap [] := (Kh.trans K_565 (allS (Or.inr sz1) all0))
       have Ks_575 := (Nat.le_trans hk K_565.1)
       exact e_ZW X_568 hS e_568 Ks_575 Hq hlk hrt at_402 ⟨rfl, N_568, Kp_574⟩ ⟨hcl, hsl⟩
     ·refine o_icmpNo X_565 Hq at_341 (flt hc341__567).1 (o_aload X_565 Hq at_344 rfl rfl (o_aload X_565 Hq at_346 rfl rfl (o_iload X_565 Hq at_348 rfl (o_iload X_565 Hq at_350 rfl (o_iloadN X_565 Hq at_352 rfl (o_iconst X_565 Hq 4 at_353 rfl (o_iand X_565 Hq at_354 ?_)))))))
      by_cases hc355__576 : (p4 &&& (4 : Int32)) = (0 : Int32)
      ·refine o_ifYes X_565 Hq (pc' := 362) at_355 (teq hc355__576).1 (o_iconst X_565 Hq 0 at_362 rfl (o_iload X_565 Hq at_363 rfl ?_))
       have Fa_578 := (E1.keep K_565)
       have Fa_579 := (V3.keep K_565 (ninS n21 nin0))
       have Fa_580 := (E_s.keep K_565)
       have Fa_581 := (F_v.keep K_565 (ninS n31 nin0))
       have Fa_582 := (F_c.keep K_565 (ninS n31 nin0))
       have Fa_583 := (V_s.keep K_565 (ninS nb1 nin0))
       have Fa_584 := (own_Sta_keep S1 K_565 (nsS (E1.nostat) ns0))
       have Fa_585 := (own_Sta_keep S2 K_565 (nsS (E1.nostat) ns0))
       have Zs_586 : n0 ≤ T_565.heap.size := (Nat.le_trans Zh K_565.1)
       refine c_S6 X_565 Hq rfl hZ hown hml (k0_38 hw) (rmstep hw a1 a2 r__565 en (0 : Int32) p6 a3 kc vc dc b k1 Ln vs d1 w sfv f T_565.heap n0 Zs_586 Fa_578 g1 Fq_565_0 Fq_565_1 Fq_565_2 n31 nb1 Fa_579 hcs Fa_580 Fa_581 Fa_582 Fa_583 Fa_584 hw0 hat hf Fa_585 hsf Pq_565_0 Pq_565_1 hN1 hN3) at_365 ?_ 0 (sd := ⟨by decide, by decide, hcl, hsl⟩)
       rintro T_577 L_577 _ X_577 ⟨r__577, ⟨⟩, Nq_577, K_577, Fq_577_0, Fq_577_1, Fq_577_2, Pq_577_0, Pq_577_1⟩
       have N_577 := Fr.app N_565 Nq_577
       refine o_istore X_577 Hq at_368 (l' := #[iv p1, iv p2, iv p3, iv p4, iv p5, iv p6, iv c0, iv c1, iv c2, rv a2, iv nn, iv tr, iv kk, rv a3, rv a1, iv r__577, iv en, l17, l18]) rfl (o_iload X_577 Hq at_370 rfl (o_ifYes X_577 Hq (pc' := 377) at_372 (flt Pq_577_0).2.1 (o_aload X_577 Hq at_377 rfl rfl ?_)))
       have Zs_588 : n0 ≤ T_577.heap.size := (Nat.le_trans Zs_586 K_577.1)
       have Fa_589 := (Fa_578.keep K_577)
       refine c_U0 X_577 Hq rfl hZ hown hml (k0_34U1 hw) (rm12 hw a1 r__577 en T_577.heap n0 Zs_588 Fq_577_2 Fq_577_1) Fa_589 at_379 ?_ 0 (sd := ⟨by decide, by decide, hcl, hsl⟩)
       rintro T_587 L_587 _ X_587 ⟨⟨⟩, Nq_587, e_587⟩
       have N_587 := Fr.app N_577 Nq_587
       refine o_iload X_587 Hq at_382 rfl (o_iload X_587 Hq at_384 rfl ?_)
       by_cases hc386__590 : r__577 = en
       ·refine o_icmpNo X_587 Hq at_386 (teq hc386__590).2 (o_iconst X_587 Hq 1 at_389 rfl (o_goto X_587 Hq (pc' := 394) at_390 (o_icmpNo X_587 Hq at_394 (teq (if_pos hc386__590)).2 (o_iconst X_587 Hq 1 at_397 rfl (o_goto X_587 Hq (pc' := 402) at_398 ?_)))))
        have Kp_591 : Keep h0 T_577.heap [] := ((Kh.trans K_565 (allS (Or.inr sz1) all0)).trans K_577 (allS (Or.inr sz1) all0))
        have Ks_592 := (Nat.le_trans (Nat.le_trans hk K_565.1) K_577.1)
        exact e_ZW X_587 hS e_587 Ks_592 Hq hlk hrt at_402 ⟨rfl, N_587, Kp_591⟩ ⟨hcl, hsl⟩
       ·refine o_icmpYes X_587 Hq (pc' := 393) at_386 (feq hc386__590).2 (o_iconst X_587 Hq 0 at_393 rfl (o_icmpNo X_587 Hq at_394 (teq (if_neg hc386__590)).2 (o_iconst X_587 Hq 1 at_397 rfl (o_goto X_587 Hq (pc' := 402) at_398 ?_))))
        have Kp_593 : Keep h0 T_577.heap [] := ((Kh.trans K_565 (allS (Or.inr sz1) all0)).trans K_577 (allS (Or.inr sz1) all0))
        have Ks_594 := (Nat.le_trans (Nat.le_trans hk K_565.1) K_577.1)
        exact e_ZW X_587 hS e_587 Ks_594 Hq hlk hrt at_402 ⟨rfl, N_587, Kp_593⟩ ⟨hcl, hsl⟩
      ·refine o_ifNo X_565 Hq at_355 (feq hc355__576).1 (o_iconst X_565 Hq 1 at_358 rfl (o_goto X_565 Hq (pc' := 363) at_359 (o_iload X_565 Hq at_363 rfl ?_)))
       have Fa_596 := (E1.keep K_565)
       have Fa_597 := (V3.keep K_565 (ninS n21 nin0))
       have Fa_598 := (E_s.keep K_565)
       have Fa_599 := (F_v.keep K_565 (ninS n31 nin0))
       have Fa_600 := (F_c.keep K_565 (ninS n31 nin0))
       have Fa_601 := (V_s.keep K_565 (ninS nb1 nin0))
       have Fa_602 := (own_Sta_keep S1 K_565 (nsS (E1.nostat) ns0))
       have Fa_603 := (own_Sta_keep S2 K_565 (nsS (E1.nostat) ns0))
       have Zs_604 : n0 ≤ T_565.heap.size := (Nat.le_trans Zh K_565.1)
       refine c_S6 X_565 Hq rfl hZ hown hml (k0_38 hw) (rmstep hw a1 a2 r__565 en (1 : Int32) p6 a3 kc vc dc b k1 Ln vs d1 w sfv f T_565.heap n0 Zs_604 Fa_596 g1 Fq_565_0 Fq_565_1 Fq_565_2 n31 nb1 Fa_597 hcs Fa_598 Fa_599 Fa_600 Fa_601 Fa_602 hw0 hat hf Fa_603 hsf Pq_565_0 Pq_565_1 hN1 hN3) at_365 ?_ 0 (sd := ⟨by decide, by decide, hcl, hsl⟩)
       rintro T_595 L_595 _ X_595 ⟨r__595, ⟨⟩, Nq_595, K_595, Fq_595_0, Fq_595_1, Fq_595_2, Pq_595_0, Pq_595_1⟩
       have N_595 := Fr.app N_565 Nq_595
       refine o_istore X_595 Hq at_368 (l' := #[iv p1, iv p2, iv p3, iv p4, iv p5, iv p6, iv c0, iv c1, iv c2, rv a2, iv nn, iv tr, iv kk, rv a3, rv a1, iv r__595, iv en, l17, l18]) rfl (o_iload X_595 Hq at_370 rfl (o_ifYes X_595 Hq (pc' := 377) at_372 (flt Pq_595_0).2.1 (o_aload X_595 Hq at_377 rfl rfl ?_)))
       have Zs_606 : n0 ≤ T_595.heap.size := (Nat.le_trans Zs_604 K_595.1)
       have Fa_607 := (Fa_596.keep K_595)
       refine c_U0 X_595 Hq rfl hZ hown hml (k0_34U1 hw) (rm12 hw a1 r__595 en T_595.heap n0 Zs_606 Fq_595_2 Fq_595_1) Fa_607 at_379 ?_ 0 (sd := ⟨by decide, by decide, hcl, hsl⟩)
       rintro T_605 L_605 _ X_605 ⟨⟨⟩, Nq_605, e_605⟩
       have N_605 := Fr.app N_595 Nq_605
       refine o_iload X_605 Hq at_382 rfl (o_iload X_605 Hq at_384 rfl ?_)
       by_cases hc386__608 : r__595 = en
       ·refine o_icmpNo X_605 Hq at_386 (teq hc386__608).2 (o_iconst X_605 Hq 1 at_389 rfl (o_goto X_605 Hq (pc' := 394) at_390 (o_icmpNo X_605 Hq at_394 (teq (if_pos hc386__608)).2 (o_iconst X_605 Hq 1 at_397 rfl (o_goto X_605 Hq (pc' := 402) at_398 ?_)))))
        have Kp_609 : Keep h0 T_595.heap [] := ((Kh.trans K_565 (allS (Or.inr sz1) all0)).trans K_595 (allS (Or.inr sz1) all0))
        have Ks_610 := (Nat.le_trans (Nat.le_trans hk K_565.1) K_595.1)
        exact e_ZW X_605 hS e_605 Ks_610 Hq hlk hrt at_402 ⟨rfl, N_605, Kp_609⟩ ⟨hcl, hsl⟩
       ·refine o_icmpYes X_605 Hq (pc' := 393) at_386 (feq hc386__608).2 (o_iconst X_605 Hq 0 at_393 rfl (o_icmpNo X_605 Hq at_394 (teq (if_neg hc386__608)).2 (o_iconst X_605 Hq 1 at_397 rfl (o_goto X_605 Hq (pc' := 402) at_398 ?_))))
        have Kp_611 : Keep h0 T_595.heap [] := ((Kh.trans K_565 (allS (Or.inr sz1) all0)).trans K_595 (allS (Or.inr sz1) all0))
        have Ks_612 := (Nat.le_trans (Nat.le_trans hk K_565.1) K_595.1)
        exact e_ZW X_605 hS e_605 Ks_612 Hq hlk hrt at_402 ⟨rfl, N_605, Kp_611⟩ ⟨hcl, hsl⟩
    ·refine o_icmpNo X_565 Hq at_302 (flt hc302__566).1 (o_aload X_565 Hq at_305 rfl rfl (o_aload X_565 Hq at_307 rfl rfl (o_iload X_565 Hq at_309 rfl (o_iload X_565 Hq at_311 rfl (o_iloadN X_565 Hq at_313 rfl (o_iconst X_565 Hq 2 at_314 rfl (o_iand X_565 Hq at_315 ?_)))))))
     by_cases hc316__613 : (p4 &&& (2 : Int32)) = (0 : Int32)
     ·refine o_ifYes X_565 Hq (pc' := 323) at_316 (teq hc316__613).1 (o_iconst X_565 Hq 0 at_323 rfl (o_iload X_565 Hq at_324 rfl ?_))
      have Fa_615 := (E1.keep K_565)
      have Fa_616 := (V3.keep K_565 (ninS n21 nin0))
      have Fa_617 := (E_s.keep K_565)
      have Fa_618 := (F_v.keep K_565 (ninS n31 nin0))
      have Fa_619 := (F_c.keep K_565 (ninS n31 nin0))
      have Fa_620 := (V_s.keep K_565 (ninS nb1 nin0))
      have Fa_621 := (own_Sta_keep S1 K_565 (nsS (E1.nostat) ns0))
      have Fa_622 := (own_Sta_keep S2 K_565 (nsS (E1.nostat) ns0))
      have Zs_623 : n0 ≤ T_565.heap.size := (Nat.le_trans Zh K_565.1)
      refine c_S6 X_565 Hq rfl hZ hown hml (k0_38 hw) (rmstep hw a1 a2 r__565 en (0 : Int32) p5 a3 kc vc dc b k1 Ln vs d1 w sfv f T_565.heap n0 Zs_623 Fa_615 g1 Fq_565_0 Fq_565_1 Fq_565_2 n31 nb1 Fa_616 hcs Fa_617 Fa_618 Fa_619 Fa_620 Fa_621 hw0 hat hf Fa_622 hsf Pq_565_0 Pq_565_1 hN1 hN3) at_326 ?_ 0 (sd := ⟨by decide, by decide, hcl, hsl⟩)
      rintro T_614 L_614 _ X_614 ⟨r__614, ⟨⟩, Nq_614, K_614, Fq_614_0, Fq_614_1, Fq_614_2, Pq_614_0, Pq_614_1⟩
      have N_614 := Fr.app N_565 Nq_614
      refine o_istore X_614 Hq at_329 (l' := #[iv p1, iv p2, iv p3, iv p4, iv p5, iv p6, iv c0, iv c1, iv c2, rv a2, iv nn, iv tr, iv kk, rv a3, rv a1, iv r__614, iv en, l17, l18]) rfl (o_iload X_614 Hq at_331 rfl (o_ifYes X_614 Hq (pc' := 338) at_333 (flt Pq_614_0).2.1 (o_iload X_614 Hq at_338 rfl (o_iconst X_614 Hq 3 at_340 rfl ?_))))
      by_cases hc341__624 : kk < (3 : Int32)
      ·refine o_icmpYes X_614 Hq (pc' := 377) at_341 (tlt hc341__624).1 (o_aload X_614 Hq at_377 rfl rfl ?_)
       have Zs_626 : n0 ≤ T_614.heap.size := (Nat.le_trans Zs_623 K_614.1)
       have Fa_627 := (Fa_615.keep K_614)
       refine c_U0 X_614 Hq rfl hZ hown hml (k0_34U1 hw) (rm12 hw a1 r__614 en T_614.heap n0 Zs_626 Fq_614_2 Fq_614_1) Fa_627 at_379 ?_ 0 (sd := ⟨by decide, by decide, hcl, hsl⟩)
       rintro T_625 L_625 _ X_625 ⟨⟨⟩, Nq_625, e_625⟩
       have N_625 := Fr.app N_614 Nq_625
       refine o_iload X_625 Hq at_382 rfl (o_iload X_625 Hq at_384 rfl ?_)
       by_cases hc386__628 : r__614 = en
       ·refine o_icmpNo X_625 Hq at_386 (teq hc386__628).2 (o_iconst X_625 Hq 1 at_389 rfl (o_goto X_625 Hq (pc' := 394) at_390 (o_icmpNo X_625 Hq at_394 (teq (if_pos hc386__628)).2 (o_iconst X_625 Hq 1 at_397 rfl (o_goto X_625 Hq (pc' := 402) at_398 ?_)))))
        have Kp_629 : Keep h0 T_614.heap [] := ((Kh.trans K_565 (allS (Or.inr sz1) all0)).trans K_614 (allS (Or.inr sz1) all0))
        have Ks_630 := (Nat.le_trans (Nat.le_trans hk K_565.1) K_614.1)
        exact e_ZW X_625 hS e_625 Ks_630 Hq hlk hrt at_402 ⟨rfl, N_625, Kp_629⟩ ⟨hcl, hsl⟩
       ·refine o_icmpYes X_625 Hq (pc' := 393) at_386 (feq hc386__628).2 (o_iconst X_625 Hq 0 at_393 rfl (o_icmpNo X_625 Hq at_394 (teq (if_neg hc386__628)).2 (o_iconst X_625 Hq 1 at_397 rfl (o_goto X_625 Hq (pc' := 402) at_398 ?_))))
        have Kp_631 : Keep h0 T_614.heap [] := ((Kh.trans K_565 (allS (Or.inr sz1) all0)).trans K_614 (allS (Or.inr sz1) all0))
        have Ks_632 := (Nat.le_trans (Nat.le_trans hk K_565.1) K_614.1)
        exact e_ZW X_625 hS e_625 Ks_632 Hq hlk hrt at_402 ⟨rfl, N_625, Kp_631⟩ ⟨hcl, hsl⟩
      ·refine o_icmpNo X_614 Hq at_341 (flt hc341__624).1 (o_aload X_614 Hq at_344 rfl rfl (o_aload X_614 Hq at_346 rfl rfl (o_iload X_614 Hq at_348 rfl (o_iload X_614 Hq at_350 rfl (o_iloadN X_614 Hq at_352 rfl (o_iconst X_614 Hq 4 at_353 rfl (o_iand X_614 Hq at_354 ?_)))))))
       by_cases hc355__633 : (p4 &&& (4 : Int32)) = (0 : Int32)
       ·refine o_ifYes X_614 Hq (pc' := 362) at_355 (teq hc355__633).1 (o_iconst X_614 Hq 0 at_362 rfl (o_iload X_614 Hq at_363 rfl ?_))
        have Fa_635 := (Fa_615.keep K_614)
        have Fa_636 := (Fa_616.keep K_614 (ninS n21 nin0))
        have Fa_637 := (Fa_617.keep K_614)
        have Fa_638 := (Fa_618.keep K_614 (ninS n31 nin0))
        have Fa_639 := (Fa_619.keep K_614 (ninS n31 nin0))
        have Fa_640 := (Fa_620.keep K_614 (ninS nb1 nin0))
        have Fa_641 := (own_Sta_keep Fa_621 K_614 (nsS (Fa_615.nostat) ns0))
        have Fa_642 := (own_Sta_keep Fa_622 K_614 (nsS (Fa_615.nostat) ns0))
        have Zs_643 : n0 ≤ T_614.heap.size := (Nat.le_trans Zs_623 K_614.1)
        refine c_S6 X_614 Hq rfl hZ hown hml (k0_38 hw) (rmstep hw a1 a2 r__614 en (0 : Int32) p6 a3 kc vc dc b k1 Ln vs d1 w sfv f T_614.heap n0 Zs_643 Fa_635 g1 Fq_614_0 Fq_614_1 Fq_614_2 n31 nb1 Fa_636 hcs Fa_637 Fa_638 Fa_639 Fa_640 Fa_641 hw0 hat hf Fa_642 hsf Pq_614_0 Pq_614_1 hN1 hN3) at_365 ?_ 0 (sd := ⟨by decide, by decide, hcl, hsl⟩)
        rintro T_634 L_634 _ X_634 ⟨r__634, ⟨⟩, Nq_634, K_634, Fq_634_0, Fq_634_1, Fq_634_2, Pq_634_0, Pq_634_1⟩
        have N_634 := Fr.app N_614 Nq_634
        refine o_istore X_634 Hq at_368 (l' := #[iv p1, iv p2, iv p3, iv p4, iv p5, iv p6, iv c0, iv c1, iv c2, rv a2, iv nn, iv tr, iv kk, rv a3, rv a1, iv r__634, iv en, l17, l18]) rfl (o_iload X_634 Hq at_370 rfl (o_ifYes X_634 Hq (pc' := 377) at_372 (flt Pq_634_0).2.1 (o_aload X_634 Hq at_377 rfl rfl ?_)))
        have Zs_645 : n0 ≤ T_634.heap.size := (Nat.le_trans Zs_643 K_634.1)
        have Fa_646 := (Fa_635.keep K_634)
        refine c_U0 X_634 Hq rfl hZ hown hml (k0_34U1 hw) (rm12 hw a1 r__634 en T_634.heap n0 Zs_645 Fq_634_2 Fq_634_1) Fa_646 at_379 ?_ 0 (sd := ⟨by decide, by decide, hcl, hsl⟩)
        rintro T_644 L_644 _ X_644 ⟨⟨⟩, Nq_644, e_644⟩
        have N_644 := Fr.app N_634 Nq_644
        refine o_iload X_644 Hq at_382 rfl (o_iload X_644 Hq at_384 rfl ?_)
        by_cases hc386__647 : r__634 = en
        ·refine o_icmpNo X_644 Hq at_386 (teq hc386__647).2 (o_iconst X_644 Hq 1 at_389 rfl (o_goto X_644 Hq (pc' := 394) at_390 (o_icmpNo X_644 Hq at_394 (teq (if_pos hc386__647)).2 (o_iconst X_644 Hq 1 at_397 rfl (o_goto X_644 Hq (pc' := 402) at_398 ?_)))))
         have Kp_648 : Keep h0 T_634.heap [] := (((Kh.trans K_565 (allS (Or.inr sz1) all0)).trans K_614 (allS (Or.inr sz1) all0)).trans K_634 (allS (Or.inr sz1) all0))
         have Ks_649 := (Nat.le_trans (Nat.le_trans (Nat.le_trans hk K_565.1) K_614.1) K_634.1)
         exact e_ZW X_644 hS e_644 Ks_649 Hq hlk hrt at_402 ⟨rfl, N_644, Kp_648⟩ ⟨hcl, hsl⟩
        ·refine o_icmpYes X_644 Hq (pc' := 393) at_386 (feq hc386__647).2 (o_iconst X_644 Hq 0 at_393 rfl (o_icmpNo X_644 Hq at_394 (teq (if_neg hc386__647)).2 (o_iconst X_644 Hq 1 at_397 rfl (o_goto X_644 Hq (pc' := 402) at_398 ?_))))
         have Kp_650 : Keep h0 T_634.heap [] := (((Kh.trans K_565 (allS (Or.inr sz1) all0)).trans K_614 (allS (Or.inr sz1) all0)).trans K_634 (allS (Or.inr sz1) all0))
         have Ks_651 := (Nat.le_trans (Nat.le_trans (Nat.le_trans hk K_565.1) K_614.1) K_634.1)
         exact e_ZW X_644 hS e_644 Ks_651 Hq hlk hrt at_402 ⟨rfl, N_644, Kp_650⟩ ⟨hcl, hsl⟩
       ·refine o_ifNo X_614 Hq at_355 (feq hc355__633).1 (o_iconst X_614 Hq 1 at_358 rfl (o_goto X_614 Hq (pc' := 363) at_359 (o_iload X_614 Hq at_363 rfl ?_)))
        have Fa_653 := (Fa_615.keep K_614)
        have Fa_654 := (Fa_616.keep K_614 (ninS n21 nin0))
        have Fa_655 := (Fa_617.keep K_614)
        have Fa_656 := (Fa_618.keep K_614 (ninS n31 nin0))
        have Fa_657 := (Fa_619.keep K_614 (ninS n31 nin0))
        have Fa_658 := (Fa_620.keep K_614 (ninS nb1 nin0))
        have Fa_659 := (own_Sta_keep Fa_621 K_614 (nsS (Fa_615.nostat) ns0))
        have Fa_660 := (own_Sta_keep Fa_622 K_614 (nsS (Fa_615.nostat) ns0))
        have Zs_661 : n0 ≤ T_614.heap.size := (Nat.le_trans Zs_623 K_614.1)
        refine c_S6 X_614 Hq rfl hZ hown hml (k0_38 hw) (rmstep hw a1 a2 r__614 en (1 : Int32) p6 a3 kc vc dc b k1 Ln vs d1 w sfv f T_614.heap n0 Zs_661 Fa_653 g1 Fq_614_0 Fq_614_1 Fq_614_2 n31 nb1 Fa_654 hcs Fa_655 Fa_656 Fa_657 Fa_658 Fa_659 hw0 hat hf Fa_660 hsf Pq_614_0 Pq_614_1 hN1 hN3) at_365 ?_ 0 (sd := ⟨by decide, by decide, hcl, hsl⟩)
        rintro T_652 L_652 _ X_652 ⟨r__652, ⟨⟩, Nq_652, K_652, Fq_652_0, Fq_652_1, Fq_652_2, Pq_652_0, Pq_652_1⟩
        have N_652 := Fr.app N_614 Nq_652
        refine o_istore X_652 Hq at_368 (l' := #[iv p1, iv p2, iv p3, iv p4, iv p5, iv p6, iv c0, iv c1, iv c2, rv a2, iv nn, iv tr, iv kk, rv a3, rv a1, iv r__652, iv en, l17, l18]) rfl (o_iload X_652 Hq at_370 rfl (o_ifYes X_652 Hq (pc' := 377) at_372 (flt Pq_652_0).2.1 (o_aload X_652 Hq at_377 rfl rfl ?_)))
        have Zs_663 : n0 ≤ T_652.heap.size := (Nat.le_trans Zs_661 K_652.1)
        have Fa_664 := (Fa_653.keep K_652)
        refine c_U0 X_652 Hq rfl hZ hown hml (k0_34U1 hw) (rm12 hw a1 r__652 en T_652.heap n0 Zs_663 Fq_652_2 Fq_652_1) Fa_664 at_379 ?_ 0 (sd := ⟨by decide, by decide, hcl, hsl⟩)
        rintro T_662 L_662 _ X_662 ⟨⟨⟩, Nq_662, e_662⟩
        have N_662 := Fr.app N_652 Nq_662
        refine o_iload X_662 Hq at_382 rfl (o_iload X_662 Hq at_384 rfl ?_)
        by_cases hc386__665 : r__652 = en
        ·refine o_icmpNo X_662 Hq at_386 (teq hc386__665).2 (o_iconst X_662 Hq 1 at_389 rfl (o_goto X_662 Hq (pc' := 394) at_390 (o_icmpNo X_662 Hq at_394 (teq (if_pos hc386__665)).2 (o_iconst X_662 Hq 1 at_397 rfl (o_goto X_662 Hq (pc' := 402) at_398 ?_)))))
         have Kp_666 : Keep h0 T_652.heap [] := (((Kh.trans K_565 (allS (Or.inr sz1) all0)).trans K_614 (allS (Or.inr sz1) all0)).trans K_652 (allS (Or.inr sz1) all0))
         have Ks_667 := (Nat.le_trans (Nat.le_trans (Nat.le_trans hk K_565.1) K_614.1) K_652.1)
         exact e_ZW X_662 hS e_662 Ks_667 Hq hlk hrt at_402 ⟨rfl, N_662, Kp_666⟩ ⟨hcl, hsl⟩
        ·refine o_icmpYes X_662 Hq (pc' := 393) at_386 (feq hc386__665).2 (o_iconst X_662 Hq 0 at_393 rfl (o_icmpNo X_662 Hq at_394 (teq (if_neg hc386__665)).2 (o_iconst X_662 Hq 1 at_397 rfl (o_goto X_662 Hq (pc' := 402) at_398 ?_))))
         have Kp_668 : Keep h0 T_652.heap [] := (((Kh.trans K_565 (allS (Or.inr sz1) all0)).trans K_614 (allS (Or.inr sz1) all0)).trans K_652 (allS (Or.inr sz1) all0))
         have Ks_669 := (Nat.le_trans (Nat.le_trans (Nat.le_trans hk K_565.1) K_614.1) K_652.1)
         exact e_ZW X_662 hS e_662 Ks_669 Hq hlk hrt at_402 ⟨rfl, N_662, Kp_668⟩ ⟨hcl, hsl⟩
     ·refine o_ifNo X_565 Hq at_316 (feq hc316__613).1 (o_iconst X_565 Hq 1 at_319 rfl (o_goto X_565 Hq (pc' := 324) at_320 (o_iload X_565 Hq at_324 rfl ?_)))
      have Fa_671 := (E1.keep K_565)
      have Fa_672 := (V3.keep K_565 (ninS n21 nin0))
      have Fa_673 := (E_s.keep K_565)
      have Fa_674 := (F_v.keep K_565 (ninS n31 nin0))
      have Fa_675 := (F_c.keep K_565 (ninS n31 nin0))
      have Fa_676 := (V_s.keep K_565 (ninS nb1 nin0))
      have Fa_677 := (own_Sta_keep S1 K_565 (nsS (E1.nostat) ns0))
      have Fa_678 := (own_Sta_keep S2 K_565 (nsS (E1.nostat) ns0))
      have Zs_679 : n0 ≤ T_565.heap.size := (Nat.le_trans Zh K_565.1)
      refine c_S6 X_565 Hq rfl hZ hown hml (k0_38 hw) (rmstep hw a1 a2 r__565 en (1 : Int32) p5 a3 kc vc dc b k1 Ln vs d1 w sfv f T_565.heap n0 Zs_679 Fa_671 g1 Fq_565_0 Fq_565_1 Fq_565_2 n31 nb1 Fa_672 hcs Fa_673 Fa_674 Fa_675 Fa_676 Fa_677 hw0 hat hf Fa_678 hsf Pq_565_0 Pq_565_1 hN1 hN3) at_326 ?_ 0 (sd := ⟨by decide, by decide, hcl, hsl⟩)
      rintro T_670 L_670 _ X_670 ⟨r__670, ⟨⟩, Nq_670, K_670, Fq_670_0, Fq_670_1, Fq_670_2, Pq_670_0, Pq_670_1⟩
      have N_670 := Fr.app N_565 Nq_670
      refine o_istore X_670 Hq at_329 (l' := #[iv p1, iv p2, iv p3, iv p4, iv p5, iv p6, iv c0, iv c1, iv c2, rv a2, iv nn, iv tr, iv kk, rv a3, rv a1, iv r__670, iv en, l17, l18]) rfl (o_iload X_670 Hq at_331 rfl (o_ifYes X_670 Hq (pc' := 338) at_333 (flt Pq_670_0).2.1 (o_iload X_670 Hq at_338 rfl (o_iconst X_670 Hq 3 at_340 rfl ?_))))
      by_cases hc341__680 : kk < (3 : Int32)
      ·refine o_icmpYes X_670 Hq (pc' := 377) at_341 (tlt hc341__680).1 (o_aload X_670 Hq at_377 rfl rfl ?_)
       have Zs_682 : n0 ≤ T_670.heap.size := (Nat.le_trans Zs_679 K_670.1)
       have Fa_683 := (Fa_671.keep K_670)
       refine c_U0 X_670 Hq rfl hZ hown hml (k0_34U1 hw) (rm12 hw a1 r__670 en T_670.heap n0 Zs_682 Fq_670_2 Fq_670_1) Fa_683 at_379 ?_ 0 (sd := ⟨by decide, by decide, hcl, hsl⟩)
       rintro T_681 L_681 _ X_681 ⟨⟨⟩, Nq_681, e_681⟩
       have N_681 := Fr.app N_670 Nq_681
       refine o_iload X_681 Hq at_382 rfl (o_iload X_681 Hq at_384 rfl ?_)
       by_cases hc386__684 : r__670 = en
       ·refine o_icmpNo X_681 Hq at_386 (teq hc386__684).2 (o_iconst X_681 Hq 1 at_389 rfl (o_goto X_681 Hq (pc' := 394) at_390 (o_icmpNo X_681 Hq at_394 (teq (if_pos hc386__684)).2 (o_iconst X_681 Hq 1 at_397 rfl (o_goto X_681 Hq (pc' := 402) at_398 ?_)))))
        have Kp_685 : Keep h0 T_670.heap [] := ((Kh.trans K_565 (allS (Or.inr sz1) all0)).trans K_670 (allS (Or.inr sz1) all0))
        have Ks_686 := (Nat.le_trans (Nat.le_trans hk K_565.1) K_670.1)
        exact e_ZW X_681 hS e_681 Ks_686 Hq hlk hrt at_402 ⟨rfl, N_681, Kp_685⟩ ⟨hcl, hsl⟩
       ·refine o_icmpYes X_681 Hq (pc' := 393) at_386 (feq hc386__684).2 (o_iconst X_681 Hq 0 at_393 rfl (o_icmpNo X_681 Hq at_394 (teq (if_neg hc386__684)).2 (o_iconst X_681 Hq 1 at_397 rfl (o_goto X_681 Hq (pc' := 402) at_398 ?_))))
        have Kp_687 : Keep h0 T_670.heap [] := ((Kh.trans K_565 (allS (Or.inr sz1) all0)).trans K_670 (allS (Or.inr sz1) all0))
        have Ks_688 := (Nat.le_trans (Nat.le_trans hk K_565.1) K_670.1)
        exact e_ZW X_681 hS e_681 Ks_688 Hq hlk hrt at_402 ⟨rfl, N_681, Kp_687⟩ ⟨hcl, hsl⟩
      ·refine o_icmpNo X_670 Hq at_341 (flt hc341__680).1 (o_aload X_670 Hq at_344 rfl rfl (o_aload X_670 Hq at_346 rfl rfl (o_iload X_670 Hq at_348 rfl (o_iload X_670 Hq at_350 rfl (o_iloadN X_670 Hq at_352 rfl (o_iconst X_670 Hq 4 at_353 rfl (o_iand X_670 Hq at_354 ?_)))))))
       by_cases hc355__689 : (p4 &&& (4 : Int32)) = (0 : Int32)
       ·refine o_ifYes X_670 Hq (pc' := 362) at_355 (teq hc355__689).1 (o_iconst X_670 Hq 0 at_362 rfl (o_iload X_670 Hq at_363 rfl ?_))
        have Fa_691 := (Fa_671.keep K_670)
        have Fa_692 := (Fa_672.keep K_670 (ninS n21 nin0))
        have Fa_693 := (Fa_673.keep K_670)
        have Fa_694 := (Fa_674.keep K_670 (ninS n31 nin0))
        have Fa_695 := (Fa_675.keep K_670 (ninS n31 nin0))
        have Fa_696 := (Fa_676.keep K_670 (ninS nb1 nin0))
        have Fa_697 := (own_Sta_keep Fa_677 K_670 (nsS (Fa_671.nostat) ns0))
        have Fa_698 := (own_Sta_keep Fa_678 K_670 (nsS (Fa_671.nostat) ns0))
        have Zs_699 : n0 ≤ T_670.heap.size := (Nat.le_trans Zs_679 K_670.1)
        refine c_S6 X_670 Hq rfl hZ hown hml (k0_38 hw) (rmstep hw a1 a2 r__670 en (0 : Int32) p6 a3 kc vc dc b k1 Ln vs d1 w sfv f T_670.heap n0 Zs_699 Fa_691 g1 Fq_670_0 Fq_670_1 Fq_670_2 n31 nb1 Fa_692 hcs Fa_693 Fa_694 Fa_695 Fa_696 Fa_697 hw0 hat hf Fa_698 hsf Pq_670_0 Pq_670_1 hN1 hN3) at_365 ?_ 0 (sd := ⟨by decide, by decide, hcl, hsl⟩)
        rintro T_690 L_690 _ X_690 ⟨r__690, ⟨⟩, Nq_690, K_690, Fq_690_0, Fq_690_1, Fq_690_2, Pq_690_0, Pq_690_1⟩
        have N_690 := Fr.app N_670 Nq_690
        refine o_istore X_690 Hq at_368 (l' := #[iv p1, iv p2, iv p3, iv p4, iv p5, iv p6, iv c0, iv c1, iv c2, rv a2, iv nn, iv tr, iv kk, rv a3, rv a1, iv r__690, iv en, l17, l18]) rfl (o_iload X_690 Hq at_370 rfl (o_ifYes X_690 Hq (pc' := 377) at_372 (flt Pq_690_0).2.1 (o_aload X_690 Hq at_377 rfl rfl ?_)))
        have Zs_701 : n0 ≤ T_690.heap.size := (Nat.le_trans Zs_699 K_690.1)
        have Fa_702 := (Fa_691.keep K_690)
        refine c_U0 X_690 Hq rfl hZ hown hml (k0_34U1 hw) (rm12 hw a1 r__690 en T_690.heap n0 Zs_701 Fq_690_2 Fq_690_1) Fa_702 at_379 ?_ 0 (sd := ⟨by decide, by decide, hcl, hsl⟩)
        rintro T_700 L_700 _ X_700 ⟨⟨⟩, Nq_700, e_700⟩
        have N_700 := Fr.app N_690 Nq_700
        refine o_iload X_700 Hq at_382 rfl (o_iload X_700 Hq at_384 rfl ?_)
        by_cases hc386__703 : r__690 = en
        ·refine o_icmpNo X_700 Hq at_386 (teq hc386__703).2 (o_iconst X_700 Hq 1 at_389 rfl (o_goto X_700 Hq (pc' := 394) at_390 (o_icmpNo X_700 Hq at_394 (teq (if_pos hc386__703)).2 (o_iconst X_700 Hq 1 at_397 rfl (o_goto X_700 Hq (pc' := 402) at_398 ?_)))))
         have Kp_704 : Keep h0 T_690.heap [] := (((Kh.trans K_565 (allS (Or.inr sz1) all0)).trans K_670 (allS (Or.inr sz1) all0)).trans K_690 (allS (Or.inr sz1) all0))
         have Ks_705 := (Nat.le_trans (Nat.le_trans (Nat.le_trans hk K_565.1) K_670.1) K_690.1)
         exact e_ZW X_700 hS e_700 Ks_705 Hq hlk hrt at_402 ⟨rfl, N_700, Kp_704⟩ ⟨hcl, hsl⟩
        ·refine o_icmpYes X_700 Hq (pc' := 393) at_386 (feq hc386__703).2 (o_iconst X_700 Hq 0 at_393 rfl (o_icmpNo X_700 Hq at_394 (teq (if_neg hc386__703)).2 (o_iconst X_700 Hq 1 at_397 rfl (o_goto X_700 Hq (pc' := 402) at_398 ?_))))
         have Kp_706 : Keep h0 T_690.heap [] := (((Kh.trans K_565 (allS (Or.inr sz1) all0)).trans K_670 (allS (Or.inr sz1) all0)).trans K_690 (allS (Or.inr sz1) all0))
         have Ks_707 := (Nat.le_trans (Nat.le_trans (Nat.le_trans hk K_565.1) K_670.1) K_690.1)
         exact e_ZW X_700 hS e_700 Ks_707 Hq hlk hrt at_402 ⟨rfl, N_700, Kp_706⟩ ⟨hcl, hsl⟩
       ·refine o_ifNo X_670 Hq at_355 (feq hc355__689).1 (o_iconst X_670 Hq 1 at_358 rfl (o_goto X_670 Hq (pc' := 363) at_359 (o_iload X_670 Hq at_363 rfl ?_)))
        have Fa_709 := (Fa_671.keep K_670)
        have Fa_710 := (Fa_672.keep K_670 (ninS n21 nin0))
        have Fa_711 := (Fa_673.keep K_670)
        have Fa_712 := (Fa_674.keep K_670 (ninS n31 nin0))
        have Fa_713 := (Fa_675.keep K_670 (ninS n31 nin0))
        have Fa_714 := (Fa_676.keep K_670 (ninS nb1 nin0))
        have Fa_715 := (own_Sta_keep Fa_677 K_670 (nsS (Fa_671.nostat) ns0))
        have Fa_716 := (own_Sta_keep Fa_678 K_670 (nsS (Fa_671.nostat) ns0))
        have Zs_717 : n0 ≤ T_670.heap.size := (Nat.le_trans Zs_679 K_670.1)
        refine c_S6 X_670 Hq rfl hZ hown hml (k0_38 hw) (rmstep hw a1 a2 r__670 en (1 : Int32) p6 a3 kc vc dc b k1 Ln vs d1 w sfv f T_670.heap n0 Zs_717 Fa_709 g1 Fq_670_0 Fq_670_1 Fq_670_2 n31 nb1 Fa_710 hcs Fa_711 Fa_712 Fa_713 Fa_714 Fa_715 hw0 hat hf Fa_716 hsf Pq_670_0 Pq_670_1 hN1 hN3) at_365 ?_ 0 (sd := ⟨by decide, by decide, hcl, hsl⟩)
        rintro T_708 L_708 _ X_708 ⟨r__708, ⟨⟩, Nq_708, K_708, Fq_708_0, Fq_708_1, Fq_708_2, Pq_708_0, Pq_708_1⟩
        have N_708 := Fr.app N_670 Nq_708
        refine o_istore X_708 Hq at_368 (l' := #[iv p1, iv p2, iv p3, iv p4, iv p5, iv p6, iv c0, iv c1, iv c2, rv a2, iv nn, iv tr, iv kk, rv a3, rv a1, iv r__708, iv en, l17, l18]) rfl (o_iload X_708 Hq at_370 rfl (o_ifYes X_708 Hq (pc' := 377) at_372 (flt Pq_708_0).2.1 (o_aload X_708 Hq at_377 rfl rfl ?_)))
        have Zs_719 : n0 ≤ T_708.heap.size := (Nat.le_trans Zs_717 K_708.1)
        have Fa_720 := (Fa_709.keep K_708)
        refine c_U0 X_708 Hq rfl hZ hown hml (k0_34U1 hw) (rm12 hw a1 r__708 en T_708.heap n0 Zs_719 Fq_708_2 Fq_708_1) Fa_720 at_379 ?_ 0 (sd := ⟨by decide, by decide, hcl, hsl⟩)
        rintro T_718 L_718 _ X_718 ⟨⟨⟩, Nq_718, e_718⟩
        have N_718 := Fr.app N_708 Nq_718
        refine o_iload X_718 Hq at_382 rfl (o_iload X_718 Hq at_384 rfl ?_)
        by_cases hc386__721 : r__708 = en
        ·refine o_icmpNo X_718 Hq at_386 (teq hc386__721).2 (o_iconst X_718 Hq 1 at_389 rfl (o_goto X_718 Hq (pc' := 394) at_390 (o_icmpNo X_718 Hq at_394 (teq (if_pos hc386__721)).2 (o_iconst X_718 Hq 1 at_397 rfl (o_goto X_718 Hq (pc' := 402) at_398 ?_)))))
         have Kp_722 : Keep h0 T_708.heap [] := (((Kh.trans K_565 (allS (Or.inr sz1) all0)).trans K_670 (allS (Or.inr sz1) all0)).trans K_708 (allS (Or.inr sz1) all0))
         have Ks_723 := (Nat.le_trans (Nat.le_trans (Nat.le_trans hk K_565.1) K_670.1) K_708.1)
         exact e_ZW X_718 hS e_718 Ks_723 Hq hlk hrt at_402 ⟨rfl, N_718, Kp_722⟩ ⟨hcl, hsl⟩
        ·refine o_icmpYes X_718 Hq (pc' := 393) at_386 (feq hc386__721).2 (o_iconst X_718 Hq 0 at_393 rfl (o_icmpNo X_718 Hq at_394 (teq (if_neg hc386__721)).2 (o_iconst X_718 Hq 1 at_397 rfl (o_goto X_718 Hq (pc' := 402) at_398 ?_))))
         have Kp_724 : Keep h0 T_708.heap [] := (((Kh.trans K_565 (allS (Or.inr sz1) all0)).trans K_670 (allS (Or.inr sz1) all0)).trans K_708 (allS (Or.inr sz1) all0))
         have Ks_725 := (Nat.le_trans (Nat.le_trans (Nat.le_trans hk K_565.1) K_670.1) K_708.1)
         exact e_ZW X_718 hS e_718 Ks_725 Hq hlk hrt at_402 ⟨rfl, N_718, Kp_724⟩ ⟨hcl, hsl⟩
   ·refine o_ifNo X_1 Hq at_278 (feq hc278__564).1 (o_iconst X_1 Hq 1 at_281 rfl (o_goto X_1 Hq (pc' := 286) at_282 (o_iloadN X_1 Hq at_286 rfl ?_)))
    refine c_S6 X_1 Hq e_1 hZ hown hml (k0_38 hw) (rmstep hw a1 a2 ps en (1 : Int32) p3 a3 kc vc dc b k1 Ln vs d1 w sfv f h n0 Zh E1 g1 F1 F2 F3 n31 nb1 V3 hcs E_s F_v F_c V_s S1 hw0 hat hf S2 hsf hp0 hp1 hN1 hN3) at_287 ?_ 0 (sd := ⟨by decide, by decide, hcl, hsl⟩)
    rintro T_726 L_726 _ X_726 ⟨r__726, ⟨⟩, Nq_726, K_726, Fq_726_0, Fq_726_1, Fq_726_2, Pq_726_0, Pq_726_1⟩
    have N_726 := Fr.app N_1 Nq_726
    refine o_istore X_726 Hq at_290 (l' := #[iv p1, iv p2, iv p3, iv p4, iv p5, iv p6, iv c0, iv c1, iv c2, rv a2, iv nn, iv tr, iv kk, rv a3, rv a1, iv r__726, iv en, l17, l18]) rfl (o_iload X_726 Hq at_292 rfl (o_ifYes X_726 Hq (pc' := 299) at_294 (flt Pq_726_0).2.1 (o_iload X_726 Hq at_299 rfl (o_iconst X_726 Hq 2 at_301 rfl ?_))))
    by_cases hc302__727 : kk < (2 : Int32)
    ·refine o_icmpYes X_726 Hq (pc' := 338) at_302 (tlt hc302__727).1 (o_iload X_726 Hq at_338 rfl (o_iconst X_726 Hq 3 at_340 rfl ?_))
     by_cases hc341__728 : kk < (3 : Int32)
     ·refine o_icmpYes X_726 Hq (pc' := 377) at_341 (tlt hc341__728).1 (o_aload X_726 Hq at_377 rfl rfl ?_)
      have Zs_730 : n0 ≤ T_726.heap.size := (Nat.le_trans Zh K_726.1)
      have Fa_731 := (E1.keep K_726)
      refine c_U0 X_726 Hq rfl hZ hown hml (k0_34U1 hw) (rm12 hw a1 r__726 en T_726.heap n0 Zs_730 Fq_726_2 Fq_726_1) Fa_731 at_379 ?_ 0 (sd := ⟨by decide, by decide, hcl, hsl⟩)
      rintro T_729 L_729 _ X_729 ⟨⟨⟩, Nq_729, e_729⟩
      have N_729 := Fr.app N_726 Nq_729
      refine o_iload X_729 Hq at_382 rfl (o_iload X_729 Hq at_384 rfl ?_)
      by_cases hc386__732 : r__726 = en
      ·refine o_icmpNo X_729 Hq at_386 (teq hc386__732).2 (o_iconst X_729 Hq 1 at_389 rfl (o_goto X_729 Hq (pc' := 394) at_390 (o_icmpNo X_729 Hq at_394 (teq (if_pos hc386__732)).2 (o_iconst X_729 Hq 1 at_397 rfl (o_goto X_729 Hq (pc' := 402) at_398 ?_)))))
       have Kp_733 : Keep h0 T_726.heap [] := (Kh.trans K_726 (allS (Or.inr sz1) all0))
       have Ks_734 := (Nat.le_trans hk K_726.1)
       exact e_ZW X_729 hS e_729 Ks_734 Hq hlk hrt at_402 ⟨rfl, N_729, Kp_733⟩ ⟨hcl, hsl⟩
      ·refine o_icmpYes X_729 Hq (pc' := 393) at_386 (feq hc386__732).2 (o_iconst X_729 Hq 0 at_393 rfl (o_icmpNo X_729 Hq at_394 (teq (if_neg hc386__732)).2 (o_iconst X_729 Hq 1 at_397 rfl (o_goto X_729 Hq (pc' := 402) at_398 ?_))))
       have Kp_735 : Keep h0 T_726.heap [] := (Kh.trans K_726 (allS (Or.inr sz1) all0))
       have Ks_736 := (Nat.le_trans hk K_726.1)
       exact e_ZW X_729 hS e_729 Ks_736 Hq hlk hrt at_402 ⟨rfl, N_729, Kp_735⟩ ⟨hcl, hsl⟩
     ·refine o_icmpNo X_726 Hq at_341 (flt hc341__728).1 (o_aload X_726 Hq at_344 rfl rfl (o_aload X_726 Hq at_346 rfl rfl (o_iload X_726 Hq at_348 rfl (o_iload X_726 Hq at_350 rfl (o_iloadN X_726 Hq at_352 rfl (o_iconst X_726 Hq 4 at_353 rfl (o_iand X_726 Hq at_354 ?_)))))))
      by_cases hc355__737 : (p4 &&& (4 : Int32)) = (0 : Int32)
      ·refine o_ifYes X_726 Hq (pc' := 362) at_355 (teq hc355__737).1 (o_iconst X_726 Hq 0 at_362 rfl (o_iload X_726 Hq at_363 rfl ?_))
       have Fa_739 := (E1.keep K_726)
       have Fa_740 := (V3.keep K_726 (ninS n21 nin0))
       have Fa_741 := (E_s.keep K_726)
       have Fa_742 := (F_v.keep K_726 (ninS n31 nin0))
       have Fa_743 := (F_c.keep K_726 (ninS n31 nin0))
       have Fa_744 := (V_s.keep K_726 (ninS nb1 nin0))
       have Fa_745 := (own_Sta_keep S1 K_726 (nsS (E1.nostat) ns0))
       have Fa_746 := (own_Sta_keep S2 K_726 (nsS (E1.nostat) ns0))
       have Zs_747 : n0 ≤ T_726.heap.size := (Nat.le_trans Zh K_726.1)
       refine c_S6 X_726 Hq rfl hZ hown hml (k0_38 hw) (rmstep hw a1 a2 r__726 en (0 : Int32) p6 a3 kc vc dc b k1 Ln vs d1 w sfv f T_726.heap n0 Zs_747 Fa_739 g1 Fq_726_0 Fq_726_1 Fq_726_2 n31 nb1 Fa_740 hcs Fa_741 Fa_742 Fa_743 Fa_744 Fa_745 hw0 hat hf Fa_746 hsf Pq_726_0 Pq_726_1 hN1 hN3) at_365 ?_ 0 (sd := ⟨by decide, by decide, hcl, hsl⟩)
       rintro T_738 L_738 _ X_738 ⟨r__738, ⟨⟩, Nq_738, K_738, Fq_738_0, Fq_738_1, Fq_738_2, Pq_738_0, Pq_738_1⟩
       have N_738 := Fr.app N_726 Nq_738
       refine o_istore X_738 Hq at_368 (l' := #[iv p1, iv p2, iv p3, iv p4, iv p5, iv p6, iv c0, iv c1, iv c2, rv a2, iv nn, iv tr, iv kk, rv a3, rv a1, iv r__738, iv en, l17, l18]) rfl (o_iload X_738 Hq at_370 rfl (o_ifYes X_738 Hq (pc' := 377) at_372 (flt Pq_738_0).2.1 (o_aload X_738 Hq at_377 rfl rfl ?_)))
       have Zs_749 : n0 ≤ T_738.heap.size := (Nat.le_trans Zs_747 K_738.1)
       have Fa_750 := (Fa_739.keep K_738)
       refine c_U0 X_738 Hq rfl hZ hown hml (k0_34U1 hw) (rm12 hw a1 r__738 en T_738.heap n0 Zs_749 Fq_738_2 Fq_738_1) Fa_750 at_379 ?_ 0 (sd := ⟨by decide, by decide, hcl, hsl⟩)
       rintro T_748 L_748 _ X_748 ⟨⟨⟩, Nq_748, e_748⟩
       have N_748 := Fr.app N_738 Nq_748
       refine o_iload X_748 Hq at_382 rfl (o_iload X_748 Hq at_384 rfl ?_)
       by_cases hc386__751 : r__738 = en
       ·refine o_icmpNo X_748 Hq at_386 (teq hc386__751).2 (o_iconst X_748 Hq 1 at_389 rfl (o_goto X_748 Hq (pc' := 394) at_390 (o_icmpNo X_748 Hq at_394 (teq (if_pos hc386__751)).2 (o_iconst X_748 Hq 1 at_397 rfl (o_goto X_748 Hq (pc' := 402) at_398 ?_)))))
        have Kp_752 : Keep h0 T_738.heap [] := ((Kh.trans K_726 (allS (Or.inr sz1) all0)).trans K_738 (allS (Or.inr sz1) all0))
        have Ks_753 := (Nat.le_trans (Nat.le_trans hk K_726.1) K_738.1)
        exact e_ZW X_748 hS e_748 Ks_753 Hq hlk hrt at_402 ⟨rfl, N_748, Kp_752⟩ ⟨hcl, hsl⟩
       ·refine o_icmpYes X_748 Hq (pc' := 393) at_386 (feq hc386__751).2 (o_iconst X_748 Hq 0 at_393 rfl (o_icmpNo X_748 Hq at_394 (teq (if_neg hc386__751)).2 (o_iconst X_748 Hq 1 at_397 rfl (o_goto X_748 Hq (pc' := 402) at_398 ?_))))
        have Kp_754 : Keep h0 T_738.heap [] := ((Kh.trans K_726 (allS (Or.inr sz1) all0)).trans K_738 (allS (Or.inr sz1) all0))
        have Ks_755 := (Nat.le_trans (Nat.le_trans hk K_726.1) K_738.1)
        exact e_ZW X_748 hS e_748 Ks_755 Hq hlk hrt at_402 ⟨rfl, N_748, Kp_754⟩ ⟨hcl, hsl⟩
      ·refine o_ifNo X_726 Hq at_355 (feq hc355__737).1 (o_iconst X_726 Hq 1 at_358 rfl (o_goto X_726 Hq (pc' := 363) at_359 (o_iload X_726 Hq at_363 rfl ?_)))
       have Fa_757 := (E1.keep K_726)
       have Fa_758 := (V3.keep K_726 (ninS n21 nin0))
       have Fa_759 := (E_s.keep K_726)
       have Fa_760 := (F_v.keep K_726 (ninS n31 nin0))
       have Fa_761 := (F_c.keep K_726 (ninS n31 nin0))
       have Fa_762 := (V_s.keep K_726 (ninS nb1 nin0))
       have Fa_763 := (own_Sta_keep S1 K_726 (nsS (E1.nostat) ns0))
       have Fa_764 := (own_Sta_keep S2 K_726 (nsS (E1.nostat) ns0))
       have Zs_765 : n0 ≤ T_726.heap.size := (Nat.le_trans Zh K_726.1)
       refine c_S6 X_726 Hq rfl hZ hown hml (k0_38 hw) (rmstep hw a1 a2 r__726 en (1 : Int32) p6 a3 kc vc dc b k1 Ln vs d1 w sfv f T_726.heap n0 Zs_765 Fa_757 g1 Fq_726_0 Fq_726_1 Fq_726_2 n31 nb1 Fa_758 hcs Fa_759 Fa_760 Fa_761 Fa_762 Fa_763 hw0 hat hf Fa_764 hsf Pq_726_0 Pq_726_1 hN1 hN3) at_365 ?_ 0 (sd := ⟨by decide, by decide, hcl, hsl⟩)
       rintro T_756 L_756 _ X_756 ⟨r__756, ⟨⟩, Nq_756, K_756, Fq_756_0, Fq_756_1, Fq_756_2, Pq_756_0, Pq_756_1⟩
       have N_756 := Fr.app N_726 Nq_756
       refine o_istore X_756 Hq at_368 (l' := #[iv p1, iv p2, iv p3, iv p4, iv p5, iv p6, iv c0, iv c1, iv c2, rv a2, iv nn, iv tr, iv kk, rv a3, rv a1, iv r__756, iv en, l17, l18]) rfl (o_iload X_756 Hq at_370 rfl (o_ifYes X_756 Hq (pc' := 377) at_372 (flt Pq_756_0).2.1 (o_aload X_756 Hq at_377 rfl rfl ?_)))
       have Zs_767 : n0 ≤ T_756.heap.size := (Nat.le_trans Zs_765 K_756.1)
       have Fa_768 := (Fa_757.keep K_756)
       refine c_U0 X_756 Hq rfl hZ hown hml (k0_34U1 hw) (rm12 hw a1 r__756 en T_756.heap n0 Zs_767 Fq_756_2 Fq_756_1) Fa_768 at_379 ?_ 0 (sd := ⟨by decide, by decide, hcl, hsl⟩)
       rintro T_766 L_766 _ X_766 ⟨⟨⟩, Nq_766, e_766⟩
       have N_766 := Fr.app N_756 Nq_766
       refine o_iload X_766 Hq at_382 rfl (o_iload X_766 Hq at_384 rfl ?_)
       by_cases hc386__769 : r__756 = en
       ·refine o_icmpNo X_766 Hq at_386 (teq hc386__769).2 (o_iconst X_766 Hq 1 at_389 rfl (o_goto X_766 Hq (pc' := 394) at_390 (o_icmpNo X_766 Hq at_394 (teq (if_pos hc386__769)).2 (o_iconst X_766 Hq 1 at_397 rfl (o_goto X_766 Hq (pc' := 402) at_398 ?_)))))
        have Kp_770 : Keep h0 T_756.heap [] := ((Kh.trans K_726 (allS (Or.inr sz1) all0)).trans K_756 (allS (Or.inr sz1) all0))
        have Ks_771 := (Nat.le_trans (Nat.le_trans hk K_726.1) K_756.1)
        exact e_ZW X_766 hS e_766 Ks_771 Hq hlk hrt at_402 ⟨rfl, N_766, Kp_770⟩ ⟨hcl, hsl⟩
       ·refine o_icmpYes X_766 Hq (pc' := 393) at_386 (feq hc386__769).2 (o_iconst X_766 Hq 0 at_393 rfl (o_icmpNo X_766 Hq at_394 (teq (if_neg hc386__769)).2 (o_iconst X_766 Hq 1 at_397 rfl (o_goto X_766 Hq (pc' := 402) at_398 ?_))))
        have Kp_772 : Keep h0 T_756.heap [] := ((Kh.trans K_726 (allS (Or.inr sz1) all0)).trans K_756 (allS (Or.inr sz1) all0))
        have Ks_773 := (Nat.le_trans (Nat.le_trans hk K_726.1) K_756.1)
        exact e_ZW X_766 hS e_766 Ks_773 Hq hlk hrt at_402 ⟨rfl, N_766, Kp_772⟩ ⟨hcl, hsl⟩
    ·refine o_icmpNo X_726 Hq at_302 (flt hc302__727).1 (o_aload X_726 Hq at_305 rfl rfl (o_aload X_726 Hq at_307 rfl rfl (o_iload X_726 Hq at_309 rfl (o_iload X_726 Hq at_311 rfl (o_iloadN X_726 Hq at_313 rfl (o_iconst X_726 Hq 2 at_314 rfl (o_iand X_726 Hq at_315 ?_)))))))
     by_cases hc316__774 : (p4 &&& (2 : Int32)) = (0 : Int32)
     ·refine o_ifYes X_726 Hq (pc' := 323) at_316 (teq hc316__774).1 (o_iconst X_726 Hq 0 at_323 rfl (o_iload X_726 Hq at_324 rfl ?_))
      have Fa_776 := (E1.keep K_726)
      have Fa_777 := (V3.keep K_726 (ninS n21 nin0))
      have Fa_778 := (E_s.keep K_726)
      have Fa_779 := (F_v.keep K_726 (ninS n31 nin0))
      have Fa_780 := (F_c.keep K_726 (ninS n31 nin0))
      have Fa_781 := (V_s.keep K_726 (ninS nb1 nin0))
      have Fa_782 := (own_Sta_keep S1 K_726 (nsS (E1.nostat) ns0))
      have Fa_783 := (own_Sta_keep S2 K_726 (nsS (E1.nostat) ns0))
      have Zs_784 : n0 ≤ T_726.heap.size := (Nat.le_trans Zh K_726.1)
      refine c_S6 X_726 Hq rfl hZ hown hml (k0_38 hw) (rmstep hw a1 a2 r__726 en (0 : Int32) p5 a3 kc vc dc b k1 Ln vs d1 w sfv f T_726.heap n0 Zs_784 Fa_776 g1 Fq_726_0 Fq_726_1 Fq_726_2 n31 nb1 Fa_777 hcs Fa_778 Fa_779 Fa_780 Fa_781 Fa_782 hw0 hat hf Fa_783 hsf Pq_726_0 Pq_726_1 hN1 hN3) at_326 ?_ 0 (sd := ⟨by decide, by decide, hcl, hsl⟩)
      rintro T_775 L_775 _ X_775 ⟨r__775, ⟨⟩, Nq_775, K_775, Fq_775_0, Fq_775_1, Fq_775_2, Pq_775_0, Pq_775_1⟩
      have N_775 := Fr.app N_726 Nq_775
      refine o_istore X_775 Hq at_329 (l' := #[iv p1, iv p2, iv p3, iv p4, iv p5, iv p6, iv c0, iv c1, iv c2, rv a2, iv nn, iv tr, iv kk, rv a3, rv a1, iv r__775, iv en, l17, l18]) rfl (o_iload X_775 Hq at_331 rfl (o_ifYes X_775 Hq (pc' := 338) at_333 (flt Pq_775_0).2.1 (o_iload X_775 Hq at_338 rfl (o_iconst X_775 Hq 3 at_340 rfl ?_))))
      by_cases hc341__785 : kk < (3 : Int32)
      ·refine o_icmpYes X_775 Hq (pc' := 377) at_341 (tlt hc341__785).1 (o_aload X_775 Hq at_377 rfl rfl ?_)
       have Zs_787 : n0 ≤ T_775.heap.size := (Nat.le_trans Zs_784 K_775.1)
       have Fa_788 := (Fa_776.keep K_775)
       refine c_U0 X_775 Hq rfl hZ hown hml (k0_34U1 hw) (rm12 hw a1 r__775 en T_775.heap n0 Zs_787 Fq_775_2 Fq_775_1) Fa_788 at_379 ?_ 0 (sd := ⟨by decide, by decide, hcl, hsl⟩)
       rintro T_786 L_786 _ X_786 ⟨⟨⟩, Nq_786, e_786⟩
       have N_786 := Fr.app N_775 Nq_786
       refine o_iload X_786 Hq at_382 rfl (o_iload X_786 Hq at_384 rfl ?_)
       by_cases hc386__789 : r__775 = en
       ·refine o_icmpNo X_786 Hq at_386 (teq hc386__789).2 (o_iconst X_786 Hq 1 at_389 rfl (o_goto X_786 Hq (pc' := 394) at_390 (o_icmpNo X_786 Hq at_394 (teq (if_pos hc386__789)).2 (o_iconst X_786 Hq 1 at_397 rfl (o_goto X_786 Hq (pc' := 402) at_398 ?_)))))
        have Kp_790 : Keep h0 T_775.heap [] := ((Kh.trans K_726 (allS (Or.inr sz1) all0)).trans K_775 (allS (Or.inr sz1) all0))
        have Ks_791 := (Nat.le_trans (Nat.le_trans hk K_726.1) K_775.1)
        exact e_ZW X_786 hS e_786 Ks_791 Hq hlk hrt at_402 ⟨rfl, N_786, Kp_790⟩ ⟨hcl, hsl⟩
       ·refine o_icmpYes X_786 Hq (pc' := 393) at_386 (feq hc386__789).2 (o_iconst X_786 Hq 0 at_393 rfl (o_icmpNo X_786 Hq at_394 (teq (if_neg hc386__789)).2 (o_iconst X_786 Hq 1 at_397 rfl (o_goto X_786 Hq (pc' := 402) at_398 ?_))))
        have Kp_792 : Keep h0 T_775.heap [] := ((Kh.trans K_726 (allS (Or.inr sz1) all0)).trans K_775 (allS (Or.inr sz1) all0))
        have Ks_793 := (Nat.le_trans (Nat.le_trans hk K_726.1) K_775.1)
        exact e_ZW X_786 hS e_786 Ks_793 Hq hlk hrt at_402 ⟨rfl, N_786, Kp_792⟩ ⟨hcl, hsl⟩
      ·refine o_icmpNo X_775 Hq at_341 (flt hc341__785).1 (o_aload X_775 Hq at_344 rfl rfl (o_aload X_775 Hq at_346 rfl rfl (o_iload X_775 Hq at_348 rfl (o_iload X_775 Hq at_350 rfl (o_iloadN X_775 Hq at_352 rfl (o_iconst X_775 Hq 4 at_353 rfl (o_iand X_775 Hq at_354 ?_)))))))
       by_cases hc355__794 : (p4 &&& (4 : Int32)) = (0 : Int32)
       ·refine o_ifYes X_775 Hq (pc' := 362) at_355 (teq hc355__794).1 (o_iconst X_775 Hq 0 at_362 rfl (o_iload X_775 Hq at_363 rfl ?_))
        have Fa_796 := (Fa_776.keep K_775)
        have Fa_797 := (Fa_777.keep K_775 (ninS n21 nin0))
        have Fa_798 := (Fa_778.keep K_775)
        have Fa_799 := (Fa_779.keep K_775 (ninS n31 nin0))
        have Fa_800 := (Fa_780.keep K_775 (ninS n31 nin0))
        have Fa_801 := (Fa_781.keep K_775 (ninS nb1 nin0))
        have Fa_802 := (own_Sta_keep Fa_782 K_775 (nsS (Fa_776.nostat) ns0))
        have Fa_803 := (own_Sta_keep Fa_783 K_775 (nsS (Fa_776.nostat) ns0))
        have Zs_804 : n0 ≤ T_775.heap.size := (Nat.le_trans Zs_784 K_775.1)
        refine c_S6 X_775 Hq rfl hZ hown hml (k0_38 hw) (rmstep hw a1 a2 r__775 en (0 : Int32) p6 a3 kc vc dc b k1 Ln vs d1 w sfv f T_775.heap n0 Zs_804 Fa_796 g1 Fq_775_0 Fq_775_1 Fq_775_2 n31 nb1 Fa_797 hcs Fa_798 Fa_799 Fa_800 Fa_801 Fa_802 hw0 hat hf Fa_803 hsf Pq_775_0 Pq_775_1 hN1 hN3) at_365 ?_ 0 (sd := ⟨by decide, by decide, hcl, hsl⟩)
        rintro T_795 L_795 _ X_795 ⟨r__795, ⟨⟩, Nq_795, K_795, Fq_795_0, Fq_795_1, Fq_795_2, Pq_795_0, Pq_795_1⟩
        have N_795 := Fr.app N_775 Nq_795
        refine o_istore X_795 Hq at_368 (l' := #[iv p1, iv p2, iv p3, iv p4, iv p5, iv p6, iv c0, iv c1, iv c2, rv a2, iv nn, iv tr, iv kk, rv a3, rv a1, iv r__795, iv en, l17, l18]) rfl (o_iload X_795 Hq at_370 rfl (o_ifYes X_795 Hq (pc' := 377) at_372 (flt Pq_795_0).2.1 (o_aload X_795 Hq at_377 rfl rfl ?_)))
        have Zs_806 : n0 ≤ T_795.heap.size := (Nat.le_trans Zs_804 K_795.1)
        have Fa_807 := (Fa_796.keep K_795)
        refine c_U0 X_795 Hq rfl hZ hown hml (k0_34U1 hw) (rm12 hw a1 r__795 en T_795.heap n0 Zs_806 Fq_795_2 Fq_795_1) Fa_807 at_379 ?_ 0 (sd := ⟨by decide, by decide, hcl, hsl⟩)
        rintro T_805 L_805 _ X_805 ⟨⟨⟩, Nq_805, e_805⟩
        have N_805 := Fr.app N_795 Nq_805
        refine o_iload X_805 Hq at_382 rfl (o_iload X_805 Hq at_384 rfl ?_)
        by_cases hc386__808 : r__795 = en
        ·refine o_icmpNo X_805 Hq at_386 (teq hc386__808).2 (o_iconst X_805 Hq 1 at_389 rfl (o_goto X_805 Hq (pc' := 394) at_390 (o_icmpNo X_805 Hq at_394 (teq (if_pos hc386__808)).2 (o_iconst X_805 Hq 1 at_397 rfl (o_goto X_805 Hq (pc' := 402) at_398 ?_)))))
         have Kp_809 : Keep h0 T_795.heap [] := (((Kh.trans K_726 (allS (Or.inr sz1) all0)).trans K_775 (allS (Or.inr sz1) all0)).trans K_795 (allS (Or.inr sz1) all0))
         have Ks_810 := (Nat.le_trans (Nat.le_trans (Nat.le_trans hk K_726.1) K_775.1) K_795.1)
         exact e_ZW X_805 hS e_805 Ks_810 Hq hlk hrt at_402 ⟨rfl, N_805, Kp_809⟩ ⟨hcl, hsl⟩
        ·refine o_icmpYes X_805 Hq (pc' := 393) at_386 (feq hc386__808).2 (o_iconst X_805 Hq 0 at_393 rfl (o_icmpNo X_805 Hq at_394 (teq (if_neg hc386__808)).2 (o_iconst X_805 Hq 1 at_397 rfl (o_goto X_805 Hq (pc' := 402) at_398 ?_))))
         have Kp_811 : Keep h0 T_795.heap [] := (((Kh.trans K_726 (allS (Or.inr sz1) all0)).trans K_775 (allS (Or.inr sz1) all0)).trans K_795 (allS (Or.inr sz1) all0))
         have Ks_812 := (Nat.le_trans (Nat.le_trans (Nat.le_trans hk K_726.1) K_775.1) K_795.1)
         exact e_ZW X_805 hS e_805 Ks_812 Hq hlk hrt at_402 ⟨rfl, N_805, Kp_811⟩ ⟨hcl, hsl⟩
       ·refine o_ifNo X_775 Hq at_355 (feq hc355__794).1 (o_iconst X_775 Hq 1 at_358 rfl (o_goto X_775 Hq (pc' := 363) at_359 (o_iload X_775 Hq at_363 rfl ?_)))
        have Fa_814 := (Fa_776.keep K_775)
        have Fa_815 := (Fa_777.keep K_775 (ninS n21 nin0))
        have Fa_816 := (Fa_778.keep K_775)
        have Fa_817 := (Fa_779.keep K_775 (ninS n31 nin0))
        have Fa_818 := (Fa_780.keep K_775 (ninS n31 nin0))
        have Fa_819 := (Fa_781.keep K_775 (ninS nb1 nin0))
        have Fa_820 := (own_Sta_keep Fa_782 K_775 (nsS (Fa_776.nostat) ns0))
        have Fa_821 := (own_Sta_keep Fa_783 K_775 (nsS (Fa_776.nostat) ns0))
        have Zs_822 : n0 ≤ T_775.heap.size := (Nat.le_trans Zs_784 K_775.1)
        refine c_S6 X_775 Hq rfl hZ hown hml (k0_38 hw) (rmstep hw a1 a2 r__775 en (1 : Int32) p6 a3 kc vc dc b k1 Ln vs d1 w sfv f T_775.heap n0 Zs_822 Fa_814 g1 Fq_775_0 Fq_775_1 Fq_775_2 n31 nb1 Fa_815 hcs Fa_816 Fa_817 Fa_818 Fa_819 Fa_820 hw0 hat hf Fa_821 hsf Pq_775_0 Pq_775_1 hN1 hN3) at_365 ?_ 0 (sd := ⟨by decide, by decide, hcl, hsl⟩)
        rintro T_813 L_813 _ X_813 ⟨r__813, ⟨⟩, Nq_813, K_813, Fq_813_0, Fq_813_1, Fq_813_2, Pq_813_0, Pq_813_1⟩
        have N_813 := Fr.app N_775 Nq_813
        refine o_istore X_813 Hq at_368 (l' := #[iv p1, iv p2, iv p3, iv p4, iv p5, iv p6, iv c0, iv c1, iv c2, rv a2, iv nn, iv tr, iv kk, rv a3, rv a1, iv r__813, iv en, l17, l18]) rfl (o_iload X_813 Hq at_370 rfl (o_ifYes X_813 Hq (pc' := 377) at_372 (flt Pq_813_0).2.1 (o_aload X_813 Hq at_377 rfl rfl ?_)))
        have Zs_824 : n0 ≤ T_813.heap.size := (Nat.le_trans Zs_822 K_813.1)
        have Fa_825 := (Fa_814.keep K_813)
        refine c_U0 X_813 Hq rfl hZ hown hml (k0_34U1 hw) (rm12 hw a1 r__813 en T_813.heap n0 Zs_824 Fq_813_2 Fq_813_1) Fa_825 at_379 ?_ 0 (sd := ⟨by decide, by decide, hcl, hsl⟩)
        rintro T_823 L_823 _ X_823 ⟨⟨⟩, Nq_823, e_823⟩
        have N_823 := Fr.app N_813 Nq_823
        refine o_iload X_823 Hq at_382 rfl (o_iload X_823 Hq at_384 rfl ?_)
        by_cases hc386__826 : r__813 = en
        ·refine o_icmpNo X_823 Hq at_386 (teq hc386__826).2 (o_iconst X_823 Hq 1 at_389 rfl (o_goto X_823 Hq (pc' := 394) at_390 (o_icmpNo X_823 Hq at_394 (teq (if_pos hc386__826)).2 (o_iconst X_823 Hq 1 at_397 rfl (o_goto X_823 Hq (pc' := 402) at_398 ?_)))))
         have Kp_827 : Keep h0 T_813.heap [] := (((Kh.trans K_726 (allS (Or.inr sz1) all0)).trans K_775 (allS (Or.inr sz1) all0)).trans K_813 (allS (Or.inr sz1) all0))
         have Ks_828 := (Nat.le_trans (Nat.le_trans (Nat.le_trans hk K_726.1) K_775.1) K_813.1)
         exact e_ZW X_823 hS e_823 Ks_828 Hq hlk hrt at_402 ⟨rfl, N_823, Kp_827⟩ ⟨hcl, hsl⟩
        ·refine o_icmpYes X_823 Hq (pc' := 393) at_386 (feq hc386__826).2 (o_iconst X_823 Hq 0 at_393 rfl (o_icmpNo X_823 Hq at_394 (teq (if_neg hc386__826)).2 (o_iconst X_823 Hq 1 at_397 rfl (o_goto X_823 Hq (pc' := 402) at_398 ?_))))
         have Kp_829 : Keep h0 T_813.heap [] := (((Kh.trans K_726 (allS (Or.inr sz1) all0)).trans K_775 (allS (Or.inr sz1) all0)).trans K_813 (allS (Or.inr sz1) all0))
         have Ks_830 := (Nat.le_trans (Nat.le_trans (Nat.le_trans hk K_726.1) K_775.1) K_813.1)
         exact e_ZW X_823 hS e_823 Ks_830 Hq hlk hrt at_402 ⟨rfl, N_823, Kp_829⟩ ⟨hcl, hsl⟩
     ·refine o_ifNo X_726 Hq at_316 (feq hc316__774).1 (o_iconst X_726 Hq 1 at_319 rfl (o_goto X_726 Hq (pc' := 324) at_320 (o_iload X_726 Hq at_324 rfl ?_)))
      have Fa_832 := (E1.keep K_726)
      have Fa_833 := (V3.keep K_726 (ninS n21 nin0))
      have Fa_834 := (E_s.keep K_726)
      have Fa_835 := (F_v.keep K_726 (ninS n31 nin0))
      have Fa_836 := (F_c.keep K_726 (ninS n31 nin0))
      have Fa_837 := (V_s.keep K_726 (ninS nb1 nin0))
      have Fa_838 := (own_Sta_keep S1 K_726 (nsS (E1.nostat) ns0))
      have Fa_839 := (own_Sta_keep S2 K_726 (nsS (E1.nostat) ns0))
      have Zs_840 : n0 ≤ T_726.heap.size := (Nat.le_trans Zh K_726.1)
      refine c_S6 X_726 Hq rfl hZ hown hml (k0_38 hw) (rmstep hw a1 a2 r__726 en (1 : Int32) p5 a3 kc vc dc b k1 Ln vs d1 w sfv f T_726.heap n0 Zs_840 Fa_832 g1 Fq_726_0 Fq_726_1 Fq_726_2 n31 nb1 Fa_833 hcs Fa_834 Fa_835 Fa_836 Fa_837 Fa_838 hw0 hat hf Fa_839 hsf Pq_726_0 Pq_726_1 hN1 hN3) at_326 ?_ 0 (sd := ⟨by decide, by decide, hcl, hsl⟩)
      rintro T_831 L_831 _ X_831 ⟨r__831, ⟨⟩, Nq_831, K_831, Fq_831_0, Fq_831_1, Fq_831_2, Pq_831_0, Pq_831_1⟩
      have N_831 := Fr.app N_726 Nq_831
      refine o_istore X_831 Hq at_329 (l' := #[iv p1, iv p2, iv p3, iv p4, iv p5, iv p6, iv c0, iv c1, iv c2, rv a2, iv nn, iv tr, iv kk, rv a3, rv a1, iv r__831, iv en, l17, l18]) rfl (o_iload X_831 Hq at_331 rfl (o_ifYes X_831 Hq (pc' := 338) at_333 (flt Pq_831_0).2.1 (o_iload X_831 Hq at_338 rfl (o_iconst X_831 Hq 3 at_340 rfl ?_))))
      by_cases hc341__841 : kk < (3 : Int32)
      ·refine o_icmpYes X_831 Hq (pc' := 377) at_341 (tlt hc341__841).1 (o_aload X_831 Hq at_377 rfl rfl ?_)
       have Zs_843 : n0 ≤ T_831.heap.size := (Nat.le_trans Zs_840 K_831.1)
       have Fa_844 := (Fa_832.keep K_831)
       refine c_U0 X_831 Hq rfl hZ hown hml (k0_34U1 hw) (rm12 hw a1 r__831 en T_831.heap n0 Zs_843 Fq_831_2 Fq_831_1) Fa_844 at_379 ?_ 0 (sd := ⟨by decide, by decide, hcl, hsl⟩)
       rintro T_842 L_842 _ X_842 ⟨⟨⟩, Nq_842, e_842⟩
       have N_842 := Fr.app N_831 Nq_842
       refine o_iload X_842 Hq at_382 rfl (o_iload X_842 Hq at_384 rfl ?_)
       by_cases hc386__845 : r__831 = en
       ·refine o_icmpNo X_842 Hq at_386 (teq hc386__845).2 (o_iconst X_842 Hq 1 at_389 rfl (o_goto X_842 Hq (pc' := 394) at_390 (o_icmpNo X_842 Hq at_394 (teq (if_pos hc386__845)).2 (o_iconst X_842 Hq 1 at_397 rfl (o_goto X_842 Hq (pc' := 402) at_398 ?_)))))
        have Kp_846 : Keep h0 T_831.heap [] := ((Kh.trans K_726 (allS (Or.inr sz1) all0)).trans K_831 (allS (Or.inr sz1) all0))
        have Ks_847 := (Nat.le_trans (Nat.le_trans hk K_726.1) K_831.1)
        exact e_ZW X_842 hS e_842 Ks_847 Hq hlk hrt at_402 ⟨rfl, N_842, Kp_846⟩ ⟨hcl, hsl⟩
       ·refine o_icmpYes X_842 Hq (pc' := 393) at_386 (feq hc386__845).2 (o_iconst X_842 Hq 0 at_393 rfl (o_icmpNo X_842 Hq at_394 (teq (if_neg hc386__845)).2 (o_iconst X_842 Hq 1 at_397 rfl (o_goto X_842 Hq (pc' := 402) at_398 ?_))))
        have Kp_848 : Keep h0 T_831.heap [] := ((Kh.trans K_726 (allS (Or.inr sz1) all0)).trans K_831 (allS (Or.inr sz1) all0))
        have Ks_849 := (Nat.le_trans (Nat.le_trans hk K_726.1) K_831.1)
        exact e_ZW X_842 hS e_842 Ks_849 Hq hlk hrt at_402 ⟨rfl, N_842, Kp_848⟩ ⟨hcl, hsl⟩
      ·refine o_icmpNo X_831 Hq at_341 (flt hc341__841).1 (o_aload X_831 Hq at_344 rfl rfl (o_aload X_831 Hq at_346 rfl rfl (o_iload X_831 Hq at_348 rfl (o_iload X_831 Hq at_350 rfl (o_iloadN X_831 Hq at_352 rfl (o_iconst X_831 Hq 4 at_353 rfl (o_iand X_831 Hq at_354 ?_)))))))
       by_cases hc355__850 : (p4 &&& (4 : Int32)) = (0 : Int32)
       ·refine o_ifYes X_831 Hq (pc' := 362) at_355 (teq hc355__850).1 (o_iconst X_831 Hq 0 at_362 rfl (o_iload X_831 Hq at_363 rfl ?_))
        have Fa_852 := (Fa_832.keep K_831)
        have Fa_853 := (Fa_833.keep K_831 (ninS n21 nin0))
        have Fa_854 := (Fa_834.keep K_831)
        have Fa_855 := (Fa_835.keep K_831 (ninS n31 nin0))
        have Fa_856 := (Fa_836.keep K_831 (ninS n31 nin0))
        have Fa_857 := (Fa_837.keep K_831 (ninS nb1 nin0))
        have Fa_858 := (own_Sta_keep Fa_838 K_831 (nsS (Fa_832.nostat) ns0))
        have Fa_859 := (own_Sta_keep Fa_839 K_831 (nsS (Fa_832.nostat) ns0))
        have Zs_860 : n0 ≤ T_831.heap.size := (Nat.le_trans Zs_840 K_831.1)
        refine c_S6 X_831 Hq rfl hZ hown hml (k0_38 hw) (rmstep hw a1 a2 r__831 en (0 : Int32) p6 a3 kc vc dc b k1 Ln vs d1 w sfv f T_831.heap n0 Zs_860 Fa_852 g1 Fq_831_0 Fq_831_1 Fq_831_2 n31 nb1 Fa_853 hcs Fa_854 Fa_855 Fa_856 Fa_857 Fa_858 hw0 hat hf Fa_859 hsf Pq_831_0 Pq_831_1 hN1 hN3) at_365 ?_ 0 (sd := ⟨by decide, by decide, hcl, hsl⟩)
        rintro T_851 L_851 _ X_851 ⟨r__851, ⟨⟩, Nq_851, K_851, Fq_851_0, Fq_851_1, Fq_851_2, Pq_851_0, Pq_851_1⟩
        have N_851 := Fr.app N_831 Nq_851
        refine o_istore X_851 Hq at_368 (l' := #[iv p1, iv p2, iv p3, iv p4, iv p5, iv p6, iv c0, iv c1, iv c2, rv a2, iv nn, iv tr, iv kk, rv a3, rv a1, iv r__851, iv en, l17, l18]) rfl (o_iload X_851 Hq at_370 rfl (o_ifYes X_851 Hq (pc' := 377) at_372 (flt Pq_851_0).2.1 (o_aload X_851 Hq at_377 rfl rfl ?_)))
        have Zs_862 : n0 ≤ T_851.heap.size := (Nat.le_trans Zs_860 K_851.1)
        have Fa_863 := (Fa_852.keep K_851)
        refine c_U0 X_851 Hq rfl hZ hown hml (k0_34U1 hw) (rm12 hw a1 r__851 en T_851.heap n0 Zs_862 Fq_851_2 Fq_851_1) Fa_863 at_379 ?_ 0 (sd := ⟨by decide, by decide, hcl, hsl⟩)
        rintro T_861 L_861 _ X_861 ⟨⟨⟩, Nq_861, e_861⟩
        have N_861 := Fr.app N_851 Nq_861
        refine o_iload X_861 Hq at_382 rfl (o_iload X_861 Hq at_384 rfl ?_)
        by_cases hc386__864 : r__851 = en
        ·refine o_icmpNo X_861 Hq at_386 (teq hc386__864).2 (o_iconst X_861 Hq 1 at_389 rfl (o_goto X_861 Hq (pc' := 394) at_390 (o_icmpNo X_861 Hq at_394 (teq (if_pos hc386__864)).2 (o_iconst X_861 Hq 1 at_397 rfl (o_goto X_861 Hq (pc' := 402) at_398 ?_)))))
         have Kp_865 : Keep h0 T_851.heap [] := (((Kh.trans K_726 (allS (Or.inr sz1) all0)).trans K_831 (allS (Or.inr sz1) all0)).trans K_851 (allS (Or.inr sz1) all0))
         have Ks_866 := (Nat.le_trans (Nat.le_trans (Nat.le_trans hk K_726.1) K_831.1) K_851.1)
         exact e_ZW X_861 hS e_861 Ks_866 Hq hlk hrt at_402 ⟨rfl, N_861, Kp_865⟩ ⟨hcl, hsl⟩
        ·refine o_icmpYes X_861 Hq (pc' := 393) at_386 (feq hc386__864).2 (o_iconst X_861 Hq 0 at_393 rfl (o_icmpNo X_861 Hq at_394 (teq (if_neg hc386__864)).2 (o_iconst X_861 Hq 1 at_397 rfl (o_goto X_861 Hq (pc' := 402) at_398 ?_))))
         have Kp_867 : Keep h0 T_851.heap [] := (((Kh.trans K_726 (allS (Or.inr sz1) all0)).trans K_831 (allS (Or.inr sz1) all0)).trans K_851 (allS (Or.inr sz1) all0))
         have Ks_868 := (Nat.le_trans (Nat.le_trans (Nat.le_trans hk K_726.1) K_831.1) K_851.1)
         exact e_ZW X_861 hS e_861 Ks_868 Hq hlk hrt at_402 ⟨rfl, N_861, Kp_867⟩ ⟨hcl, hsl⟩
       ·refine o_ifNo X_831 Hq at_355 (feq hc355__850).1 (o_iconst X_831 Hq 1 at_358 rfl (o_goto X_831 Hq (pc' := 363) at_359 (o_iload X_831 Hq at_363 rfl ?_)))
        have Fa_870 := (Fa_832.keep K_831)
        have Fa_871 := (Fa_833.keep K_831 (ninS n21 nin0))
        have Fa_872 := (Fa_834.keep K_831)
        have Fa_873 := (Fa_835.keep K_831 (ninS n31 nin0))
        have Fa_874 := (Fa_836.keep K_831 (ninS n31 nin0))
        have Fa_875 := (Fa_837.keep K_831 (ninS nb1 nin0))
        have Fa_876 := (own_Sta_keep Fa_838 K_831 (nsS (Fa_832.nostat) ns0))
        have Fa_877 := (own_Sta_keep Fa_839 K_831 (nsS (Fa_832.nostat) ns0))
        have Zs_878 : n0 ≤ T_831.heap.size := (Nat.le_trans Zs_840 K_831.1)
        refine c_S6 X_831 Hq rfl hZ hown hml (k0_38 hw) (rmstep hw a1 a2 r__831 en (1 : Int32) p6 a3 kc vc dc b k1 Ln vs d1 w sfv f T_831.heap n0 Zs_878 Fa_870 g1 Fq_831_0 Fq_831_1 Fq_831_2 n31 nb1 Fa_871 hcs Fa_872 Fa_873 Fa_874 Fa_875 Fa_876 hw0 hat hf Fa_877 hsf Pq_831_0 Pq_831_1 hN1 hN3) at_365 ?_ 0 (sd := ⟨by decide, by decide, hcl, hsl⟩)
        rintro T_869 L_869 _ X_869 ⟨r__869, ⟨⟩, Nq_869, K_869, Fq_869_0, Fq_869_1, Fq_869_2, Pq_869_0, Pq_869_1⟩
        have N_869 := Fr.app N_831 Nq_869
        refine o_istore X_869 Hq at_368 (l' := #[iv p1, iv p2, iv p3, iv p4, iv p5, iv p6, iv c0, iv c1, iv c2, rv a2, iv nn, iv tr, iv kk, rv a3, rv a1, iv r__869, iv en, l17, l18]) rfl (o_iload X_869 Hq at_370 rfl (o_ifYes X_869 Hq (pc' := 377) at_372 (flt Pq_869_0).2.1 (o_aload X_869 Hq at_377 rfl rfl ?_)))
        have Zs_880 : n0 ≤ T_869.heap.size := (Nat.le_trans Zs_878 K_869.1)
        have Fa_881 := (Fa_870.keep K_869)
        refine c_U0 X_869 Hq rfl hZ hown hml (k0_34U1 hw) (rm12 hw a1 r__869 en T_869.heap n0 Zs_880 Fq_869_2 Fq_869_1) Fa_881 at_379 ?_ 0 (sd := ⟨by decide, by decide, hcl, hsl⟩)
        rintro T_879 L_879 _ X_879 ⟨⟨⟩, Nq_879, e_879⟩
        have N_879 := Fr.app N_869 Nq_879
        refine o_iload X_879 Hq at_382 rfl (o_iload X_879 Hq at_384 rfl ?_)
        by_cases hc386__882 : r__869 = en
        ·refine o_icmpNo X_879 Hq at_386 (teq hc386__882).2 (o_iconst X_879 Hq 1 at_389 rfl (o_goto X_879 Hq (pc' := 394) at_390 (o_icmpNo X_879 Hq at_394 (teq (if_pos hc386__882)).2 (o_iconst X_879 Hq 1 at_397 rfl (o_goto X_879 Hq (pc' := 402) at_398 ?_)))))
         have Kp_883 : Keep h0 T_869.heap [] := (((Kh.trans K_726 (allS (Or.inr sz1) all0)).trans K_831 (allS (Or.inr sz1) all0)).trans K_869 (allS (Or.inr sz1) all0))
         have Ks_884 := (Nat.le_trans (Nat.le_trans (Nat.le_trans hk K_726.1) K_831.1) K_869.1)
         exact e_ZW X_879 hS e_879 Ks_884 Hq hlk hrt at_402 ⟨rfl, N_879, Kp_883⟩ ⟨hcl, hsl⟩
        ·refine o_icmpYes X_879 Hq (pc' := 393) at_386 (feq hc386__882).2 (o_iconst X_879 Hq 0 at_393 rfl (o_icmpNo X_879 Hq at_394 (teq (if_neg hc386__882)).2 (o_iconst X_879 Hq 1 at_397 rfl (o_goto X_879 Hq (pc' := 402) at_398 ?_))))
         have Kp_885 : Keep h0 T_869.heap [] := (((Kh.trans K_726 (allS (Or.inr sz1) all0)).trans K_831 (allS (Or.inr sz1) all0)).trans K_869 (allS (Or.inr sz1) all0))
         have Ks_886 := (Nat.le_trans (Nat.le_trans (Nat.le_trans hk K_726.1) K_831.1) K_869.1)
         exact e_ZW X_879 hS e_879 Ks_886 Hq hlk hrt at_402 ⟨rfl, N_879, Kp_885⟩ ⟨hcl, hsl⟩
theorem k0_12 {a0 : Array Value} {Z : State} (hw : HW a0 Z) : own_KS a0 Z "com/example/vernum/vernum/VersionScannerAtEndPinLaw" "" 12 y9_ y9_ method_2_code 2 (some .char) 1 := ⟨⟨(w_ hw 0 rfl), ⟨_, _, pd_12, rfl⟩, by decide⟩, (w_ hw 1 rfl), (w_ hw 2 rfl), (w_ hw 3 rfl)⟩
theorem pd_15 : parseMethodDescriptor "(ICCC)Ljava/lang/String;" = some ⟨[.int, .char, .char, .char], some (.object "java/lang/String")⟩ := by decide +kernel
theorem pd_16 : parseMethodDescriptor "(Ljava/lang/String;)V" = some ⟨[(.object "java/lang/String")], none⟩ := by decide +kernel
theorem k0_28 {a0 : Array Value} {Z : State} (hw : HW a0 Z) : own_KI a0 Z "com/example/vernum/vernum/VersionScannerAtEndPinLaw" "" 28 y16_ y16_ prog_24_method_1_code 2 none 1 := ⟨⟨(w_ hw 40 rfl), ⟨_, _, pd_16, rfl⟩, by decide⟩, rfl, (w_ hw 41 rfl), (w_ hw 39 rfl), (w_ hw 42 rfl)⟩
section Sm
variable {p : Program} {l : Launch} {e : Env} {R : Room} {s : State} {m : MethodId} {args : Array Value} {below : List Frame} {meth : Method} {c : Code} {T : State} {locs : List Loc} {cells slots : Nat} {P : Outcome → State → Prop} {pc : Nat} {Ls : Array Slot} {st : List Value}
theorem c_S4 (X : Stand p l e R s m args below meth c T locs cells slots) {cb : ByteArray} (hq : p.tables.exec = Jvm.exec ∧ c.code = cb) {Z : State} {a0 : Array Value} {h : Heap} {own C : String} {index : Nat} {y z : MethodName} {bytes : ByteArray} {maxL ML : Nat} {ret : Option FieldType} {rm : Room} {Q : Option Value → Heap → List Loc → Prop} {v1 v2 v3 v4 : Value}
  (eT : T.heap = h) (hZ : Z.Warmed39 s.vm) (hown : s.vm.findClass own = some m.cls) (hml : c.maxLocals = ML) (hK : own_KS a0 Z own C index y z bytes maxL ret 4) (hM : own_Met l y bytes maxL ret rm #[v1, v2, v3, v4] Z h Q)
  (hd : decode cb pc = .ok (.invokestatic index, 3)) 
  (k : ∀ (T' : State) (L : List Loc) (w : Value), Stand p l e R s m args below meth c T' (locs ++ L) (cells + rm.cells) (slots + rm.slots) → Q (some w) T'.heap L → own_Go p.tables e below P (T'.setTop (mkF m (pc + 3) Ls (w :: st)))) (W : Nat) (hsz : Ls.size = ML := by rfl) (hW : (st.map fun v => v.category).sum = W := by rfl) (sd : rm.frames + 1 ≤ R.frames ∧ W + (maxL + 11) + rm.locals ≤ R.locals ∧ cells + rm.cells ≤ R.cells ∧ slots + rm.slots ≤ R.slots := by decide) (hv : ∀ v h L, Q v h L → ∃ w, v = some w := by intro v h L q; first | exact Exists.intro _ q.1 | (obtain ⟨_, q⟩ := q; exact Exists.intro _ q.1) | (obtain ⟨_, _, q⟩ := q; exact Exists.intro _ q.1) | (obtain ⟨_, _, _, q⟩ := q; exact Exists.intro _ q.1)) : own_Go p.tables e below P (T.setTop (mkF m pc Ls (v4 :: v3 :: v2 :: v1 :: st))) := by
 obtain ⟨⟨w1, ⟨ps, r, hp, hlen⟩, hy⟩, w2, w3, w4⟩ := hK
 obtain ⟨v, vm1, ⟨T', L0, k0, n0⟩, -, X', ⟨L, hQ, e1, e2, e3⟩, hst⟩ := Jvm.LawKit.callS X hq.1 (y := y) hown (mvT hZ w1) (mvT hZ w2) (mvT hZ w3) (mvT hZ w4) hy (backOf (W := W) (Q := Q) hM hZ w4 w3 sd.1 sd.2.1) (g := mkF m pc Ls (v4 :: v3 :: v2 :: v1 :: st)) rfl (by rw [hml]; exact hsz) (argsL := [v1, v2, v3, v4]) (rest := st) (lenOf hp hlen) rfl (by show 2 * 0 + _ ≤ _; rw [Nat.mul_zero, Nat.zero_add]; exact Nat.le_of_eq hW) (hb hq.2 hd) (fun _ _ => ⟨rfl, eT, sd.2.2.1, sd.2.2.2⟩)
 dsimp only [Pt.U, Pt.locs, Pt.cells, Pt.slots] at X' e1 e2 e3 hst hQ
 subst e1 e2 e3
 obtain ⟨w, rfl⟩ := hv _ _ _ hQ
 exact own_st hst (k _ _ _ X' hQ)
end Sm
theorem k0_24 {a0 : Array Value} {Z : State} (hw : HW a0 Z) : own_KS a0 Z "com/example/vernum/vernum/VersionScannerAtEndPinLaw" "" 24 y1_ y1_ method_3_code 4 (some (.object "java/lang/String")) 4 := ⟨⟨(w_ hw 5 rfl), ⟨_, _, pd_15, rfl⟩, by decide⟩, (w_ hw 6 rfl), (w_ hw 2 rfl), (w_ hw 7 rfl)⟩
theorem pd_17 : parseMethodDescriptor "()V" = some ⟨[], none⟩ := by decide +kernel
section Sm
variable {p : Program} {l : Launch} {e : Env} {R : Room} {s : State} {m : MethodId} {args : Array Value} {below : List Frame} {meth : Method} {c : Code} {T : State} {locs : List Loc} {cells slots : Nat} {P : Outcome → State → Prop} {pc : Nat} {Ls : Array Slot} {st : List Value}
theorem c_U0v (X : Stand p l e R s m args below meth c T locs cells slots) {cb : ByteArray} (hq : p.tables.exec = Jvm.exec ∧ c.code = cb) {Z : State} {a0 : Array Value} {h : Heap} {own C : String} {index : Nat} {y z : MethodName} {bytes : ByteArray} {maxL ML : Nat} {ret : Option FieldType} {rm : Room} {Q : Option Value → Heap → List Loc → Prop} {a : Addr}
  (eT : T.heap = h) (hZ : Z.Warmed39 s.vm) (hown : s.vm.findClass own = some m.cls) (hml : c.maxLocals = ML) (hK : own_KU a0 Z own C index y z bytes maxL ret 0) (hM : own_Met l y bytes maxL ret rm #[(.ref a)] Z h Q) (E : Exa Z h a C)
  (hd : decode cb pc = .ok (.invokevirtual index, 3)) 
  (k : ∀ (T' : State) (L : List Loc), Stand p l e R s m args below meth c T' (locs ++ L) (cells + rm.cells) (slots + rm.slots) → Q none T'.heap L → own_Go p.tables e below P (T'.setTop (mkF m (pc + 3) Ls st))) (W : Nat) (hsz : Ls.size = ML := by rfl) (hW : (st.map fun v => v.category).sum = W := by rfl) (sd : rm.frames + 1 ≤ R.frames ∧ W + (maxL + 11) + rm.locals ≤ R.locals ∧ cells + rm.cells ≤ R.cells ∧ slots + rm.slots ≤ R.slots := by decide) (hv : ∀ v h L, Q v h L → v = none := by intro v h L q; first | exact id q.1 | (obtain ⟨_, q⟩ := q; exact id q.1) | (obtain ⟨_, _, q⟩ := q; exact id q.1) | (obtain ⟨_, _, _, q⟩ := q; exact id q.1)) : own_Go p.tables e below P (T.setTop (mkF m pc Ls ((.ref a) :: st))) := by
 obtain ⟨⟨w1, ⟨ps, r, hp, hlen⟩, hy⟩, w2, w5, w6, w3, w4⟩ := hK
 obtain ⟨cB, kB, q1, -, q3⟩ := isOf hZ eT E
 have nf : NotFace s y := notFace_of_selects (args := #[]) (mvT hZ w5)
 obtain ⟨v, vm1, ⟨T', L0, k0, n0⟩, -, X', ⟨L, hQ, e1, e2, e3⟩, hst⟩ := X.virtualBack hq.1 (y := y) (z := y) hown (mvT hZ w1) (mvT hZ w2) nf (mvT hZ w5) (mvT hZ w6) hy (backOf (W := W) (Q := Q) hM hZ w4 w3 sd.1 sd.2.1) q1 q3 (g := mkF m pc Ls ((.ref a) :: st)) rfl (by rw [hml]; exact hsz) (Steps.refl _) (argsL := []) (rest := st) (lenOf hp hlen) rfl (by show 2 * 0 + _ ≤ _; rw [Nat.mul_zero, Nat.zero_add]; exact Nat.le_of_eq hW) (hb hq.2 hd) (fun _ _ => ⟨rfl, eT, sd.2.2.1, sd.2.2.2⟩)
 dsimp only [Pt.U, Pt.locs, Pt.cells, Pt.slots] at X' e1 e2 e3 hst hQ
 subst e1 e2 e3
 obtain rfl := hv _ _ _ hQ
 exact own_tr hst (k _ _ X' hQ)
end Sm
theorem k0_31U1 {a0 : Array Value} {Z : State} (hw : HW a0 Z) : own_KU a0 Z "com/example/vernum/vernum/VersionScannerAtEndPinLaw" "com/example/vernum/vernum/VersionScanner" 31 y0_ y0_ prog_24_method_4_code 1 none 0 := ⟨⟨(w_ hw 98 rfl), ⟨_, _, pd_17, rfl⟩, by decide⟩, (w_ hw 99 rfl), (w_ hw 101 rfl), (w_ hw 100 rfl), (w_ hw 39 rfl), (w_ hw 102 rfl)⟩
theorem ef_rm0 (m : MethodId) (p1 p2 p3 p4 p5 p6 : Int32) : entryFrame m #[(.int p1), (.int p2), (.int p3), (.int p4), (.int p5), (.int p6)] maxLocals = mkF m 0 #[iv p1, iv p2, iv p3, iv p4, iv p5, iv p6, .unset, .unset, .unset, .unset, .unset, .unset, .unset, .unset, .unset, .unset, .unset, .unset, .unset] [] := by first | (simp [entryFrame, mkF, argsToLocals, Value.category, maxLocals]; done) | rfl
theorem rm0 (l : Launch) (Z : State) (a0 : Array Value) (hw : HW a0 Z) (ws : List Jvm.Cond) (p1 p2 p3 p4 p5 p6 w : Int32) (sfv : Value) (h0 : Heap) (n0 : Nat) (Z0 : n0 ≤ h0.size) (S1 : Sta Z h0 "java/lang/String" "COMPACT_STRINGS" "Z" (.int w)) (hw0 : ¬ w = (0 : Int32)) (S2 : Sta Z h0 "jdk/internal/util/Preconditions" "SIOOBE_FORMATTER" "Ljava/util/function/BiFunction;" sfv) (hsf : sfv.isRef = true) :
  MetFree l x (head1 (Jvm.Cond.code x code maxLocals ret :: ws) room_1) (fun a U => a = #[(.int p1), (.int p2), (.int p3), (.int p4), (.int p5), (.int p6)] ∧ Z.Warmed39 U.vm ∧ U.heap = h0 ∧ CHv Z consts_1 U.vm h0) (fun _ _ _ _ _ => True) (fun _ U o U' => ∃ v L, o = .returned v ∧ Q_rm0 Z a0 p1 p2 p3 p4 p5 p6 w sfv h0 n0 v U'.heap L ∧ ReturnedEndW U o U' L room_1.cells room_1.slots) := by
 refine MetFree.of_bodySF (plainFor_of_name pn_1) hisR ?_
 intro p e s m args below meth c s₁ Bd hml0 hP hK
 obtain ⟨rfl, hZ, hh, hC0⟩ := hP
 have hx := Bd.exec
 have hby := Bd.bytes
 have hml : c.maxLocals = 19 := hml0
 have hown : s.vm.findClass "com/example/vernum/vernum/VersionScannerAtEndPinLaw" = some m.cls := findClass_of_methodNamed Bd.named
 have hnm := (name_of_methodNamed Bd.named Bd.method).1
 have hlk : meth.locks = false := BodyLoose.notSynchronized (by assumption)
 have X0 : Stand p l e room_1 (s.setVm s.vm) m #[(.int p1), (.int p2), (.int p3), (.int p4), (.int p5), (.int p6)] below meth c s₁ [] 0 0 := Stand.of_body Bd
 have e0 : s₁.heap = h0 := by rw [← hh, Bd.state]; rfl
 have N0 := Fr.nil n0
 have Hq := And.intro hx hby
 have hrt := Bd.returns
 show own_Go p.tables e below (own_PW s (Q_rm0 Z a0 p1 p2 p3 p4 p5 p6 w sfv h0 n0) room_1) (s₁.setTop (entryFrame m #[(.int p1), (.int p2), (.int p3), (.int p4), (.int p5), (.int p6)] maxLocals))
 refine own_st (fun t k => castTop (ef_rm0 m p1 p2 p3 p4 p5 p6) k) ?_
 have hEL : EW Z a0 consts_1 := own_EW hw
 have hS0 : s.Since s.vm h0.size := (State.WarmedH.refl s).since _
 show own_Go _ _ _ _ (s₁.setTop (mkF m 0 #[iv p1, iv p2, iv p3, iv p4, iv p5, iv p6, .unset, .unset, .unset, .unset, .unset, .unset, .unset, .unset, .unset, .unset, .unset, .unset, .unset] []))
 refine o_iloadN X0 Hq at_0 rfl ?_
 refine c_S1 X0 Hq e0 hZ hown hml (k0_12 hw) (rm1 hw p1  h0 n0 Z0) at_1 ?_ 0
 rintro T_1 L_1 _ X_1 ⟨⟨⟩, Nq_1, e_1⟩
 have N_1 := Fr.app N0 Nq_1
 refine o_istore X_1 Hq at_4 (l' := #[iv p1, iv p2, iv p3, iv p4, iv p5, iv p6, iv (own_draw p1), .unset, .unset, .unset, .unset, .unset, .unset, .unset, .unset, .unset, .unset, .unset, .unset]) rfl (o_iloadN X_1 Hq at_6 rfl (o_bipush X_1 Hq 10 at_7 rfl (o_iushr X_1 Hq at_9 ?_)))
 refine c_S1 X_1 Hq e_1 hZ hown hml (k0_12 hw) (rm1 hw ((p1.toUInt32 >>> ((10 : Int32) &&& 31).toUInt32).toInt32)  h0 n0 Z0) at_10 ?_ 0
 rintro T_2 L_2 _ X_2 ⟨⟨⟩, Nq_2, e_2⟩
 have N_2 := Fr.app N_1 Nq_2
 refine o_istore X_2 Hq at_13 (l' := #[iv p1, iv p2, iv p3, iv p4, iv p5, iv p6, iv (own_draw p1), iv (own_draw ((p1.toUInt32 >>> ((10 : Int32) &&& 31).toUInt32).toInt32)), .unset, .unset, .unset, .unset, .unset, .unset, .unset, .unset, .unset, .unset, .unset]) rfl (o_iloadN X_2 Hq at_15 rfl (o_bipush X_2 Hq 20 at_16 rfl (o_iushr X_2 Hq at_18 ?_)))
 refine c_S1 X_2 Hq e_2 hZ hown hml (k0_12 hw) (rm1 hw ((p1.toUInt32 >>> ((20 : Int32) &&& 31).toUInt32).toInt32)  h0 n0 Z0) at_19 ?_ 0
 rintro T_3 L_3 _ X_3 ⟨⟨⟩, Nq_3, e_3⟩
 have N_3 := Fr.app N_2 Nq_3
 refine o_istore X_3 Hq at_22 (l' := #[iv p1, iv p2, iv p3, iv p4, iv p5, iv p6, iv (own_draw p1), iv (own_draw ((p1.toUInt32 >>> ((10 : Int32) &&& 31).toUInt32).toInt32)), iv (own_draw ((p1.toUInt32 >>> ((20 : Int32) &&& 31).toUInt32).toInt32)), .unset, .unset, .unset, .unset, .unset, .unset, .unset, .unset, .unset, .unset]) rfl (o_iconst X_3 Hq 3 at_24 rfl ?_)
 obtain ⟨T_4, h_4, k_4, X_4, e_4, E_4, A_4, st_4⟩ := newP X_3 hx hZ (w_ hw 4 rfl) e_3 (g := (mkF m 25 #[iv p1, iv p2, iv p3, iv p4, iv p5, iv p6, iv (own_draw p1), iv (own_draw ((p1.toUInt32 >>> ((10 : Int32) &&& 31).toUInt32).toInt32)), iv (own_draw ((p1.toUInt32 >>> ((20 : Int32) &&& 31).toUInt32).toInt32)), .unset, .unset, .unset, .unset, .unset, .unset, .unset, .unset, .unset, .unset] [(.int 3)])) rfl (hb hby at_25) rfl (by decide) (cap := 3) (by decide) (by decide) (by decide) (by decide)
 obtain ⟨b_4, g_4⟩ : ∃ z, z = h0.size := ⟨_, rfl⟩
 rw [← g_4] at A_4 st_4
 have V_4 : Arv Z h_4 b_4 k_4 .char (3 : Int32) [(.int (0 : Int32)), (.int (0 : Int32)), (.int (0 : Int32))] (.int (0 : Int32)) := (Arv.new A_4 (by decide)).pad (pad_rep [] (.int (0 : Int32)) 3)
 have gg_4 : n0 ≤ b_4 := Nat.le_trans Z0 (Nat.le_of_eq g_4.symm)
 have sz_4 : h0.size ≤ b_4 := Nat.le_trans (Keep.refl h0 []).1 (Nat.le_of_eq g_4.symm)
 refine own_st st_4 ?_
 show own_Go _ _ _ _ (T_4.setTop (mkF m 27 #[iv p1, iv p2, iv p3, iv p4, iv p5, iv p6, iv (own_draw p1), iv (own_draw ((p1.toUInt32 >>> ((10 : Int32) &&& 31).toUInt32).toInt32)), iv (own_draw ((p1.toUInt32 >>> ((20 : Int32) &&& 31).toUInt32).toInt32)), .unset, .unset, .unset, .unset, .unset, .unset, .unset, .unset, .unset, .unset] [(.ref b_4)]))
 refine o_dup X_4 Hq at_27 rfl (o_iconst X_4 Hq 0 at_28 rfl (o_iload X_4 Hq at_29 rfl ?_))
 obtain ⟨cl_5, Ar_5, qk_5, Sz_5, Ng_5, Hs_5, Gs_5⟩ := id V_4
 obtain ⟨T_6, h_6, X_6, e_6, W_6, st_6⟩ := stC X_4 hx hZ e_4 Ar_5 (j := (0 : Int32)) (inb_of Sz_5 ⟨by decide, by decide⟩) (g := (mkF m 31 #[iv p1, iv p2, iv p3, iv p4, iv p5, iv p6, iv (own_draw p1), iv (own_draw ((p1.toUInt32 >>> ((10 : Int32) &&& 31).toUInt32).toInt32)), iv (own_draw ((p1.toUInt32 >>> ((20 : Int32) &&& 31).toUInt32).toInt32)), .unset, .unset, .unset, .unset, .unset, .unset, .unset, .unset, .unset, .unset] [(.int (own_draw p1)), (.int 0), (.ref b_4), (.ref b_4)])) rfl rfl (hb hby at_31)
 refine own_st st_6 ?_
 have V_6 : Arv Z h_6 b_4 k_4 .char (3 : Int32) [(.int (own_draw p1)), (.int (0 : Int32)), (.int (0 : Int32))] (.int (0 : Int32)) := by have q := Arv.set Ar_5 qk_5 Sz_5 Ng_5 Hs_5 Gs_5 (fits_nar_char _) W_6 0 rfl (Nat.le_of_ble_eq_true rfl); rw [own_drn] at q; exact q
 have N_6 := Fr.snoc X_6 N_3 gg_4
 show own_Go _ _ _ _ (T_6.setTop (mkF m 32 #[iv p1, iv p2, iv p3, iv p4, iv p5, iv p6, iv (own_draw p1), iv (own_draw ((p1.toUInt32 >>> ((10 : Int32) &&& 31).toUInt32).toInt32)), iv (own_draw ((p1.toUInt32 >>> ((20 : Int32) &&& 31).toUInt32).toInt32)), .unset, .unset, .unset, .unset, .unset, .unset, .unset, .unset, .unset, .unset] [(.ref b_4)]))
 refine o_dup X_6 Hq at_32 rfl (o_iconst X_6 Hq 1 at_33 rfl (o_iload X_6 Hq at_34 rfl ?_))
 obtain ⟨cl_7, Ar_7, qk_7, Sz_7, Ng_7, Hs_7, Gs_7⟩ := id V_6
 obtain ⟨T_8, h_8, X_8, e_8, W_8, st_8⟩ := stC X_6 hx hZ e_6 Ar_7 (j := (1 : Int32)) (inb_of Sz_7 ⟨by decide, by decide⟩) (g := (mkF m 36 #[iv p1, iv p2, iv p3, iv p4, iv p5, iv p6, iv (own_draw p1), iv (own_draw ((p1.toUInt32 >>> ((10 : Int32) &&& 31).toUInt32).toInt32)), iv (own_draw ((p1.toUInt32 >>> ((20 : Int32) &&& 31).toUInt32).toInt32)), .unset, .unset, .unset, .unset, .unset, .unset, .unset, .unset, .unset, .unset] [(.int (own_draw ((p1.toUInt32 >>> ((10 : Int32) &&& 31).toUInt32).toInt32))), (.int 1), (.ref b_4), (.ref b_4)])) rfl rfl (hb hby at_36)
 refine own_st st_8 ?_
 have V_8 : Arv Z h_8 b_4 k_4 .char (3 : Int32) [(.int (own_draw p1)), (.int (own_draw ((p1.toUInt32 >>> ((10 : Int32) &&& 31).toUInt32).toInt32))), (.int (0 : Int32))] (.int (0 : Int32)) := by have q := Arv.set Ar_7 qk_7 Sz_7 Ng_7 Hs_7 Gs_7 (fits_nar_char _) W_8 1 rfl (Nat.le_of_ble_eq_true rfl); rw [own_drn] at q; exact q
 have N_8 := Fr.snoc X_8 N_6 gg_4
 show own_Go _ _ _ _ (T_8.setTop (mkF m 37 #[iv p1, iv p2, iv p3, iv p4, iv p5, iv p6, iv (own_draw p1), iv (own_draw ((p1.toUInt32 >>> ((10 : Int32) &&& 31).toUInt32).toInt32)), iv (own_draw ((p1.toUInt32 >>> ((20 : Int32) &&& 31).toUInt32).toInt32)), .unset, .unset, .unset, .unset, .unset, .unset, .unset, .unset, .unset, .unset] [(.ref b_4)]))
 refine o_dup X_8 Hq at_37 rfl (o_iconst X_8 Hq 2 at_38 rfl (o_iload X_8 Hq at_39 rfl ?_))
 obtain ⟨cl_9, Ar_9, qk_9, Sz_9, Ng_9, Hs_9, Gs_9⟩ := id V_8
 obtain ⟨T_10, h_10, X_10, e_10, W_10, st_10⟩ := stC X_8 hx hZ e_8 Ar_9 (j := (2 : Int32)) (inb_of Sz_9 ⟨by decide, by decide⟩) (g := (mkF m 41 #[iv p1, iv p2, iv p3, iv p4, iv p5, iv p6, iv (own_draw p1), iv (own_draw ((p1.toUInt32 >>> ((10 : Int32) &&& 31).toUInt32).toInt32)), iv (own_draw ((p1.toUInt32 >>> ((20 : Int32) &&& 31).toUInt32).toInt32)), .unset, .unset, .unset, .unset, .unset, .unset, .unset, .unset, .unset, .unset] [(.int (own_draw ((p1.toUInt32 >>> ((20 : Int32) &&& 31).toUInt32).toInt32))), (.int 2), (.ref b_4), (.ref b_4)])) rfl rfl (hb hby at_41)
 refine own_st st_10 ?_
 have V_10 : Arv Z h_10 b_4 k_4 .char (3 : Int32) [(.int (own_draw p1)), (.int (own_draw ((p1.toUInt32 >>> ((10 : Int32) &&& 31).toUInt32).toInt32))), (.int (own_draw ((p1.toUInt32 >>> ((20 : Int32) &&& 31).toUInt32).toInt32)))] (.int (0 : Int32)) := by have q := Arv.set Ar_9 qk_9 Sz_9 Ng_9 Hs_9 Gs_9 (fits_nar_char _) W_10 2 rfl (Nat.le_of_ble_eq_true rfl); rw [own_drn] at q; exact q
 have N_10 := Fr.snoc X_10 N_8 gg_4
 show own_Go _ _ _ _ (T_10.setTop (mkF m 42 #[iv p1, iv p2, iv p3, iv p4, iv p5, iv p6, iv (own_draw p1), iv (own_draw ((p1.toUInt32 >>> ((10 : Int32) &&& 31).toUInt32).toInt32)), iv (own_draw ((p1.toUInt32 >>> ((20 : Int32) &&& 31).toUInt32).toInt32)), .unset, .unset, .unset, .unset, .unset, .unset, .unset, .unset, .unset, .unset] [(.ref b_4)]))
 refine o_astore X_10 Hq at_42 rfl (l' := #[iv p1, iv p2, iv p3, iv p4, iv p5, iv p6, iv (own_draw p1), iv (own_draw ((p1.toUInt32 >>> ((10 : Int32) &&& 31).toUInt32).toInt32)), iv (own_draw ((p1.toUInt32 >>> ((20 : Int32) &&& 31).toUInt32).toInt32)), rv b_4, .unset, .unset, .unset, .unset, .unset, .unset, .unset, .unset, .unset]) rfl (o_iloadN X_10 Hq at_44 rfl (o_iconst X_10 Hq 3 at_45 rfl (o_iand X_10 Hq at_46 (o_istore X_10 Hq at_47 (l' := #[iv p1, iv p2, iv p3, iv p4, iv p5, iv p6, iv (own_draw p1), iv (own_draw ((p1.toUInt32 >>> ((10 : Int32) &&& 31).toUInt32).toInt32)), iv (own_draw ((p1.toUInt32 >>> ((20 : Int32) &&& 31).toUInt32).toInt32)), rv b_4, iv (p2 &&& (3 : Int32)), .unset, .unset, .unset, .unset, .unset, .unset, .unset, .unset]) rfl (o_iloadN X_10 Hq at_49 rfl (o_iconst X_10 Hq 4 at_50 rfl (o_iand X_10 Hq at_51 ?_)))))))
 by_cases hc52__11 : (p2 &&& (4 : Int32)) = (0 : Int32)
 ·refine o_ifYes X_10 Hq (pc' := 59) at_52 (teq hc52__11).1 (o_iconst X_10 Hq 0 at_59 rfl (o_istore X_10 Hq at_60 (l' := #[iv p1, iv p2, iv p3, iv p4, iv p5, iv p6, iv (own_draw p1), iv (own_draw ((p1.toUInt32 >>> ((10 : Int32) &&& 31).toUInt32).toInt32)), iv (own_draw ((p1.toUInt32 >>> ((20 : Int32) &&& 31).toUInt32).toInt32)), rv b_4, iv (p2 &&& (3 : Int32)), iv 0, .unset, .unset, .unset, .unset, .unset, .unset, .unset]) rfl (o_iloadN X_10 Hq at_62 rfl (o_iconst X_10 Hq 3 at_63 rfl (o_iushr X_10 Hq at_64 (o_iconst X_10 Hq 3 at_65 rfl (o_iand X_10 Hq at_66 (o_istore X_10 Hq at_67 (l' := #[iv p1, iv p2, iv p3, iv p4, iv p5, iv p6, iv (own_draw p1), iv (own_draw ((p1.toUInt32 >>> ((10 : Int32) &&& 31).toUInt32).toInt32)), iv (own_draw ((p1.toUInt32 >>> ((20 : Int32) &&& 31).toUInt32).toInt32)), rv b_4, iv (p2 &&& (3 : Int32)), iv 0, iv (((p2.toUInt32 >>> ((3 : Int32) &&& 31).toUInt32).toInt32) &&& (3 : Int32)), .unset, .unset, .unset, .unset, .unset, .unset]) rfl ?_))))))))
  rcases own_four p2 with hN | hN | hN | hN
  ·rw [hN]
   show own_Go _ _ _ _ (T_10.setTop (mkF m 69 #[iv p1, iv p2, iv p3, iv p4, iv p5, iv p6, iv (own_draw p1), iv (own_draw ((p1.toUInt32 >>> ((10 : Int32) &&& 31).toUInt32).toInt32)), iv (own_draw ((p1.toUInt32 >>> ((20 : Int32) &&& 31).toUInt32).toInt32)), rv b_4, iv 0, iv 0, iv (((p2.toUInt32 >>> ((3 : Int32) &&& 31).toUInt32).toInt32) &&& (3 : Int32)), .unset, .unset, .unset, .unset, .unset, .unset] []))
   refine o_iload X_10 Hq at_69 rfl (o_iload X_10 Hq at_71 rfl (o_iload X_10 Hq at_73 rfl (o_iload X_10 Hq at_75 rfl ?_)))
   have Zs_13 : n0 ≤ h_10.size := (Nat.le_trans (Nat.le_trans (Nat.le_trans (Nat.le_trans Z0 E_4.1) (Keep.of_wr W_6).1) (Keep.of_wr W_8).1) (Keep.of_wr W_10).1)
   have Ks_14 := (Nat.le_trans (Nat.le_trans (Nat.le_trans (Nat.le_trans (Nat.le_refl h0.size) E_4.1) (Keep.of_wr W_6).1) (Keep.of_wr W_8).1) (Keep.of_wr W_10).1)
   have Kp_15 : Keep h0 h_10 [] := (((((Keep.refl h0 []).ext E_4).wr W_6 (Or.inr sz_4)).wr W_8 (Or.inr sz_4)).wr W_10 (Or.inr sz_4))
   obtain ⟨_, _, ⟨T_12, L_12, k_12, n_12⟩, -, X_12, hSq_12, hgq_12, ⟨Lc_12, hQ_12, l_12, y_12, z_12, hCq_12⟩, st_12⟩ := callSS X_10 hx (y := y1_) hown (v_ hZ hw 5 rfl) (v_ hZ hw 6 rfl) (v_ hZ hw 2 rfl) (v_ hZ hw 7 rfl) (by decide) (backOfSH (W := 0) (rmmake0 l Z a0 hw [] (own_draw p1) (own_draw ((p1.toUInt32 >>> ((10 : Int32) &&& 31).toUInt32).toInt32)) (own_draw ((p1.toUInt32 >>> ((20 : Int32) &&& 31).toUInt32).toInt32))  h_10 n0 Zs_13) hZ (w_ hw 7 rfl) (w_ hw 2 rfl) (by decide) (by decide) hEL (hC0.keep Kp_15 sf0)) (g := (mkF m 77 #[iv p1, iv p2, iv p3, iv p4, iv p5, iv p6, iv (own_draw p1), iv (own_draw ((p1.toUInt32 >>> ((10 : Int32) &&& 31).toUInt32).toInt32)), iv (own_draw ((p1.toUInt32 >>> ((20 : Int32) &&& 31).toUInt32).toInt32)), rv b_4, iv 0, iv 0, iv (((p2.toUInt32 >>> ((3 : Int32) &&& 31).toUInt32).toInt32) &&& (3 : Int32)), .unset, .unset, .unset, .unset, .unset, .unset] [(.int (own_draw ((p1.toUInt32 >>> ((20 : Int32) &&& 31).toUInt32).toInt32))), (.int (own_draw ((p1.toUInt32 >>> ((10 : Int32) &&& 31).toUInt32).toInt32))), (.int (own_draw p1)), (.int 0)])) rfl (by rw [hml]; rfl) (argsL := [(.int 0), (.int (own_draw p1)), (.int (own_draw ((p1.toUInt32 >>> ((10 : Int32) &&& 31).toUInt32).toInt32))), (.int (own_draw ((p1.toUInt32 >>> ((20 : Int32) &&& 31).toUInt32).toInt32)))]) (rest := []) (lenOf pd_15 rfl) rfl (z_ rfl) (hb hby at_77) (fun _ _ => ⟨rfl, e_10, (by decide : 1 + 6 ≤ _), (by decide : 3 + 12 ≤ _)⟩)
   dsimp only [Pt.U, Pt.locs, Pt.cells, Pt.slots] at X_12 l_12 y_12 z_12 st_12 hQ_12 hSq_12 hgq_12 hCq_12
   subst l_12 y_12 z_12
   obtain ⟨Xr_12, hSr_12, hZr_12, hownr_12⟩ := rebS hS0 (Nat.le_trans Ks_14 (Nat.le_of_eq (congrArg Array.size (e_10).symm))) X_12 hSq_12 hgq_12 hZ hown
   obtain ⟨b__12, t__12, kt__12, rfl, Nq_12, K_12, gq_12_b, sq_12_b, Fq_12_0, Fq_12_1, Fq_12_2, Fq_12_3⟩ := hQ_12
   have N_12 := Fr.app N_10 Nq_12
   have szq_12_b : h0.size ≤ b__12 := Nat.le_trans Kp_15.1 sq_12_b
   refine own_tr st_12 ?_
   show own_Go _ _ _ _ (T_12.setTop (mkF m 80 #[iv p1, iv p2, iv p3, iv p4, iv p5, iv p6, iv (own_draw p1), iv (own_draw ((p1.toUInt32 >>> ((10 : Int32) &&& 31).toUInt32).toInt32)), iv (own_draw ((p1.toUInt32 >>> ((20 : Int32) &&& 31).toUInt32).toInt32)), rv b_4, iv 0, iv 0, iv (((p2.toUInt32 >>> ((3 : Int32) &&& 31).toUInt32).toInt32) &&& (3 : Int32)), .unset, .unset, .unset, .unset, .unset, .unset] [(.ref b__12)]))
   refine o_astore Xr_12 Hq at_80 rfl (l' := #[iv p1, iv p2, iv p3, iv p4, iv p5, iv p6, iv (own_draw p1), iv (own_draw ((p1.toUInt32 >>> ((10 : Int32) &&& 31).toUInt32).toInt32)), iv (own_draw ((p1.toUInt32 >>> ((20 : Int32) &&& 31).toUInt32).toInt32)), rv b_4, iv 0, iv 0, iv (((p2.toUInt32 >>> ((3 : Int32) &&& 31).toUInt32).toInt32) &&& (3 : Int32)), rv b__12, .unset, .unset, .unset, .unset, .unset]) rfl ?_
   have Zs_16 : n0 ≤ T_12.heap.size := (Nat.le_trans Zs_13 K_12.1)
   have Kp_17 : Keep h0 T_12.heap [] := (Kp_15.trans K_12 all0)
   obtain ⟨T_18, h_18, X_18, e_18, E_18, A_18, D_18, -, st_18⟩ := newO Xr_12 hx hZr_12 hownr_12 (w_ hw 37 rfl) (w_ hw 38 rfl) (w_ hw 39 rfl) rfl (g := (mkF m 82 #[iv p1, iv p2, iv p3, iv p4, iv p5, iv p6, iv (own_draw p1), iv (own_draw ((p1.toUInt32 >>> ((10 : Int32) &&& 31).toUInt32).toInt32)), iv (own_draw ((p1.toUInt32 >>> ((20 : Int32) &&& 31).toUInt32).toInt32)), rv b_4, iv 0, iv 0, iv (((p2.toUInt32 >>> ((3 : Int32) &&& 31).toUInt32).toInt32) &&& (3 : Int32)), rv b__12, .unset, .unset, .unset, .unset, .unset] [])) rfl (hb hby at_82) (by decide) (by decide)
   obtain ⟨b_18, g_18⟩ : ∃ z, z = T_12.heap.size := ⟨_, rfl⟩
   rw [← g_18] at A_18 D_18 st_18
   have gg_18 : n0 ≤ b_18 := Nat.le_trans Zs_16 (Nat.le_of_eq g_18.symm)
   have sz_18 : h0.size ≤ b_18 := Nat.le_trans Kp_17.1 (Nat.le_of_eq g_18.symm)
   have Fi_18_input : Fld Z h_18 b_18 "com/example/vernum/vernum/VersionScanner" "input" "Ljava/lang/String;" .null := D_18 (Or.inr (w_ hw 45 rfl)) (ty := (.object "java/lang/String")) (by decide)
   have Fi_18_end : Fld Z h_18 b_18 "com/example/vernum/vernum/VersionScanner" "end" "I" (.int (0 : Int32)) := D_18 (Or.inl (w_ hw 57 rfl)) (ty := .int) (by decide)
   have Fi_18_position : Fld Z h_18 b_18 "com/example/vernum/vernum/VersionScanner" "position" "I" (.int (0 : Int32)) := D_18 (Or.inl (w_ hw 64 rfl)) (ty := .int) (by decide)
   have Fi_18_peeked : Fld Z h_18 b_18 "com/example/vernum/vernum/VersionScanner" "peeked" "I" (.int (0 : Int32)) := D_18 (Or.inl (w_ hw 104 rfl)) (ty := .int) (by decide)
   refine own_st st_18 ?_
   show own_Go _ _ _ _ (T_18.setTop (mkF m 85 #[iv p1, iv p2, iv p3, iv p4, iv p5, iv p6, iv (own_draw p1), iv (own_draw ((p1.toUInt32 >>> ((10 : Int32) &&& 31).toUInt32).toInt32)), iv (own_draw ((p1.toUInt32 >>> ((20 : Int32) &&& 31).toUInt32).toInt32)), rv b_4, iv 0, iv 0, iv (((p2.toUInt32 >>> ((3 : Int32) &&& 31).toUInt32).toInt32) &&& (3 : Int32)), rv b__12, .unset, .unset, .unset, .unset, .unset] [(.ref b_18)]))
   refine o_dup X_18 Hq at_85 rfl (o_aload X_18 Hq at_86 rfl rfl ?_)
   have Fa_20 := (Fq_12_0.ext E_18)
   have Fa_21 := (Fq_12_1.ext E_18)
   have Fa_22 := (Fq_12_2.ext E_18)
   have Fa_23 := (Fq_12_3.ext E_18)
   have Fa_24 := ((own_Sta_keep ((((S1.ext E_4).wr W_6).wr W_8).wr W_10) K_12 ns0).ext E_18)
   have Zs_25 : n0 ≤ h_18.size := (Nat.le_trans Zs_16 E_18.1)
   refine c_I1v X_18 Hq e_18 hZr_12 hownr_12 hml (k0_28 hw) (rm9 hw b_18 b__12 t__12 kt__12 (0 : Int32) [] (.int (0 : Int32)) w h_18 n0 Zs_25 A_18 gg_18 Fi_18_input Fi_18_end Fi_18_position Fi_18_peeked (Nat.ne_of_lt (Nat.lt_of_lt_of_le Fq_12_0.lt (Nat.le_of_eq g_18.symm))) (Nat.ne_of_lt (Nat.lt_of_lt_of_le Fq_12_3.lt (Nat.le_of_eq g_18.symm))) Fa_20 Fa_21 Fa_22 Fa_23 Fa_24 hw0) at_88 ?_ 1
   rintro T_19 L_19 X_19 ⟨-, Nq_19, K_19, Fq_19_0, Fq_19_1, Fq_19_2, Fq_19_3⟩
   have N_19 := Fr.app N_12 Nq_19
   refine o_astore X_19 Hq at_91 rfl (l' := #[iv p1, iv p2, iv p3, iv p4, iv p5, iv p6, iv (own_draw p1), iv (own_draw ((p1.toUInt32 >>> ((10 : Int32) &&& 31).toUInt32).toInt32)), iv (own_draw ((p1.toUInt32 >>> ((20 : Int32) &&& 31).toUInt32).toInt32)), rv b_4, iv 0, iv 0, iv (((p2.toUInt32 >>> ((3 : Int32) &&& 31).toUInt32).toInt32) &&& (3 : Int32)), rv b__12, rv b_18, .unset, .unset, .unset, .unset]) rfl (o_iconst X_19 Hq 0 at_93 rfl (o_istore X_19 Hq at_94 (l' := #[iv p1, iv p2, iv p3, iv p4, iv p5, iv p6, iv (own_draw p1), iv (own_draw ((p1.toUInt32 >>> ((10 : Int32) &&& 31).toUInt32).toInt32)), iv (own_draw ((p1.toUInt32 >>> ((20 : Int32) &&& 31).toUInt32).toInt32)), rv b_4, iv 0, iv 0, iv (((p2.toUInt32 >>> ((3 : Int32) &&& 31).toUInt32).toInt32) &&& (3 : Int32)), rv b__12, rv b_18, iv 0, .unset, .unset, .unset]) rfl (o_iload X_19 Hq at_96 rfl (o_istore X_19 Hq at_98 (l' := #[iv p1, iv p2, iv p3, iv p4, iv p5, iv p6, iv (own_draw p1), iv (own_draw ((p1.toUInt32 >>> ((10 : Int32) &&& 31).toUInt32).toInt32)), iv (own_draw ((p1.toUInt32 >>> ((20 : Int32) &&& 31).toUInt32).toInt32)), rv b_4, iv 0, iv 0, iv (((p2.toUInt32 >>> ((3 : Int32) &&& 31).toUInt32).toInt32) &&& (3 : Int32)), rv b__12, rv b_18, iv 0, iv 0, .unset, .unset]) rfl (o_iload X_19 Hq at_100 rfl (o_ifYes X_19 Hq (pc' := 239) at_102 (by decide) ?_))))))
   have Fa_26 := (A_18.keep K_19)
   have Fa_27 := (((V_10.keep K_12 nin0).ext E_18).keep K_19 (ninS (Nat.ne_of_lt (Nat.lt_of_lt_of_le (V_10.keep K_12 nin0).lt (Nat.le_of_eq g_18.symm))) nin0))
   have Fa_28 := (Fa_20.keep K_19)
   have Fa_29 := (Fa_21.keep K_19 (ninS (Nat.ne_of_lt (Nat.lt_of_lt_of_le Fq_12_0.lt (Nat.le_of_eq g_18.symm))) nin0))
   have Fa_30 := (Fa_22.keep K_19 (ninS (Nat.ne_of_lt (Nat.lt_of_lt_of_le Fq_12_0.lt (Nat.le_of_eq g_18.symm))) nin0))
   have Fa_31 := (Fa_23.keep K_19 (ninS (Nat.ne_of_lt (Nat.lt_of_lt_of_le Fq_12_3.lt (Nat.le_of_eq g_18.symm))) nin0))
   have Fa_32 := (own_Sta_keep Fa_24 K_19 (nsS (A_18.nostat) ns0))
   have Fa_33 := (own_Sta_keep ((own_Sta_keep ((((S2.ext E_4).wr W_6).wr W_8).wr W_10) K_12 ns0).ext E_18) K_19 (nsS (A_18.nostat) ns0))
   have Zs_34 : n0 ≤ T_19.heap.size := (Nat.le_trans Zs_25 K_19.1)
   have Kp_35 : Keep h0 T_19.heap [] := ((Kp_17.ext E_18).trans K_19 (allS (Or.inr sz_18) all0))
   have Ks_36 := (Nat.le_trans (Nat.le_trans (Nat.le_refl T_12.heap.size) E_18.1) K_19.1)
   exact own_tail p1 p2 p3 p4 p5 p6 w sfv (own_draw p1) (own_draw ((p1.toUInt32 >>> ((10 : Int32) &&& 31).toUInt32).toInt32)) (own_draw ((p1.toUInt32 >>> ((20 : Int32) &&& 31).toUInt32).toInt32)) (0 : Int32) (0 : Int32) (((p2.toUInt32 >>> ((3 : Int32) &&& 31).toUInt32).toInt32) &&& (3 : Int32)) (0 : Int32) (0 : Int32) (0 : Int32) b_18 b_4 b__12 t__12 k_4 [(.int (own_draw p1)), (.int (own_draw ((p1.toUInt32 >>> ((10 : Int32) &&& 31).toUInt32).toInt32))), (.int (own_draw ((p1.toUInt32 >>> ((20 : Int32) &&& 31).toUInt32).toInt32)))] (.int (0 : Int32)) kt__12 [] (.int (0 : Int32)) (own_f (own_draw p1) (own_draw ((p1.toUInt32 >>> ((10 : Int32) &&& 31).toUInt32).toInt32)) (own_draw ((p1.toUInt32 >>> ((20 : Int32) &&& 31).toUInt32).toInt32))) _ _ X_19 hx hZr_12 hw hby hml hownr_12 Bd.returns hlk rfl N_19 Zs_34 Kp_35 hSr_12 Ks_36 (by decide) (by decide) Fa_26 gg_18 sz_18 Fq_19_0 Fq_19_1 Fq_19_2 Fa_27 Fa_28 Fa_29 Fa_30 Fa_31 Fa_32 Fa_33 (Nat.ne_of_lt (Nat.lt_of_lt_of_le Fq_12_0.lt (Nat.le_of_eq g_18.symm))) (Nat.ne_of_lt (Nat.lt_of_lt_of_le Fq_12_3.lt (Nat.le_of_eq g_18.symm))) (Nat.ne_of_lt (Nat.lt_of_lt_of_le (V_10.keep K_12 nin0).lt (Nat.le_of_eq g_18.symm))) hw0 hsf (own_fcs _ _ _) (own_fat0 _ _ _) (own_fbd (own_drb _) (own_drb _) (own_drb _)) (by decide) (by decide) (by decide) (by decide)
  ·rw [hN]
   show own_Go _ _ _ _ (T_10.setTop (mkF m 69 #[iv p1, iv p2, iv p3, iv p4, iv p5, iv p6, iv (own_draw p1), iv (own_draw ((p1.toUInt32 >>> ((10 : Int32) &&& 31).toUInt32).toInt32)), iv (own_draw ((p1.toUInt32 >>> ((20 : Int32) &&& 31).toUInt32).toInt32)), rv b_4, iv 1, iv 0, iv (((p2.toUInt32 >>> ((3 : Int32) &&& 31).toUInt32).toInt32) &&& (3 : Int32)), .unset, .unset, .unset, .unset, .unset, .unset] []))
   refine o_iload X_10 Hq at_69 rfl (o_iload X_10 Hq at_71 rfl (o_iload X_10 Hq at_73 rfl (o_iload X_10 Hq at_75 rfl ?_)))
   have Fa_38 := ((((S1.ext E_4).wr W_6).wr W_8).wr W_10)
   have Zs_39 : n0 ≤ h_10.size := (Nat.le_trans (Nat.le_trans (Nat.le_trans (Nat.le_trans Z0 E_4.1) (Keep.of_wr W_6).1) (Keep.of_wr W_8).1) (Keep.of_wr W_10).1)
   refine c_S4 X_10 Hq e_10 hZ hown hml (k0_24 hw) (rmmake1 hw (own_draw p1) (own_draw ((p1.toUInt32 >>> ((10 : Int32) &&& 31).toUInt32).toInt32)) (own_draw ((p1.toUInt32 >>> ((20 : Int32) &&& 31).toUInt32).toInt32)) w h_10 n0 Zs_39 Fa_38 hw0 (own_drn _) (own_drb _).1) at_77 ?_ 0
   rintro T_37 L_37 _ X_37 ⟨b__37, t__37, kt__37, ⟨⟩, Nq_37, K_37, gq_37_b, sq_37_b, Fq_37_0, Fq_37_1, Fq_37_2, Fq_37_3⟩
   have N_37 := Fr.app N_10 Nq_37
   have Kp_40 : Keep h0 h_10 [] := (((((Keep.refl h0 []).ext E_4).wr W_6 (Or.inr sz_4)).wr W_8 (Or.inr sz_4)).wr W_10 (Or.inr sz_4))
   have szq_37_b : h0.size ≤ b__37 := Nat.le_trans Kp_40.1 sq_37_b
   refine o_astore X_37 Hq at_80 rfl (l' := #[iv p1, iv p2, iv p3, iv p4, iv p5, iv p6, iv (own_draw p1), iv (own_draw ((p1.toUInt32 >>> ((10 : Int32) &&& 31).toUInt32).toInt32)), iv (own_draw ((p1.toUInt32 >>> ((20 : Int32) &&& 31).toUInt32).toInt32)), rv b_4, iv 1, iv 0, iv (((p2.toUInt32 >>> ((3 : Int32) &&& 31).toUInt32).toInt32) &&& (3 : Int32)), rv b__37, .unset, .unset, .unset, .unset, .unset]) rfl ?_
   have Zs_41 : n0 ≤ T_37.heap.size := (Nat.le_trans Zs_39 K_37.1)
   have Kp_42 : Keep h0 T_37.heap [] := (Kp_40.trans K_37 all0)
   obtain ⟨T_43, h_43, X_43, e_43, E_43, A_43, D_43, -, st_43⟩ := newO X_37 hx hZ hown (w_ hw 37 rfl) (w_ hw 38 rfl) (w_ hw 39 rfl) rfl (g := (mkF m 82 #[iv p1, iv p2, iv p3, iv p4, iv p5, iv p6, iv (own_draw p1), iv (own_draw ((p1.toUInt32 >>> ((10 : Int32) &&& 31).toUInt32).toInt32)), iv (own_draw ((p1.toUInt32 >>> ((20 : Int32) &&& 31).toUInt32).toInt32)), rv b_4, iv 1, iv 0, iv (((p2.toUInt32 >>> ((3 : Int32) &&& 31).toUInt32).toInt32) &&& (3 : Int32)), rv b__37, .unset, .unset, .unset, .unset, .unset] [])) rfl (hb hby at_82) (by decide) (by decide)
   obtain ⟨b_43, g_43⟩ : ∃ z, z = T_37.heap.size := ⟨_, rfl⟩
   rw [← g_43] at A_43 D_43 st_43
   have gg_43 : n0 ≤ b_43 := Nat.le_trans Zs_41 (Nat.le_of_eq g_43.symm)
   have sz_43 : h0.size ≤ b_43 := Nat.le_trans Kp_42.1 (Nat.le_of_eq g_43.symm)
   have Fi_43_input : Fld Z h_43 b_43 "com/example/vernum/vernum/VersionScanner" "input" "Ljava/lang/String;" .null := D_43 (Or.inr (w_ hw 45 rfl)) (ty := (.object "java/lang/String")) (by decide)
   have Fi_43_end : Fld Z h_43 b_43 "com/example/vernum/vernum/VersionScanner" "end" "I" (.int (0 : Int32)) := D_43 (Or.inl (w_ hw 57 rfl)) (ty := .int) (by decide)
   have Fi_43_position : Fld Z h_43 b_43 "com/example/vernum/vernum/VersionScanner" "position" "I" (.int (0 : Int32)) := D_43 (Or.inl (w_ hw 64 rfl)) (ty := .int) (by decide)
   have Fi_43_peeked : Fld Z h_43 b_43 "com/example/vernum/vernum/VersionScanner" "peeked" "I" (.int (0 : Int32)) := D_43 (Or.inl (w_ hw 104 rfl)) (ty := .int) (by decide)
   refine own_st st_43 ?_
   show own_Go _ _ _ _ (T_43.setTop (mkF m 85 #[iv p1, iv p2, iv p3, iv p4, iv p5, iv p6, iv (own_draw p1), iv (own_draw ((p1.toUInt32 >>> ((10 : Int32) &&& 31).toUInt32).toInt32)), iv (own_draw ((p1.toUInt32 >>> ((20 : Int32) &&& 31).toUInt32).toInt32)), rv b_4, iv 1, iv 0, iv (((p2.toUInt32 >>> ((3 : Int32) &&& 31).toUInt32).toInt32) &&& (3 : Int32)), rv b__37, .unset, .unset, .unset, .unset, .unset] [(.ref b_43)]))
   refine o_dup X_43 Hq at_85 rfl (o_aload X_43 Hq at_86 rfl rfl ?_)
   have Fa_45 := (Fq_37_0.ext E_43)
   have Fa_46 := (Fq_37_1.ext E_43)
   have Fa_47 := (Fq_37_2.ext E_43)
   have Fa_48 := (Fq_37_3.ext E_43)
   have Fa_49 := ((own_Sta_keep Fa_38 K_37 ns0).ext E_43)
   have Zs_50 : n0 ≤ h_43.size := (Nat.le_trans Zs_41 E_43.1)
   refine c_I1v X_43 Hq e_43 hZ hown hml (k0_28 hw) (rm9 hw b_43 b__37 t__37 kt__37 (1 : Int32) [(.int (((own_draw p1).toInt8.toInt32).toInt8.toInt32))] (.int (0 : Int32)) w h_43 n0 Zs_50 A_43 gg_43 Fi_43_input Fi_43_end Fi_43_position Fi_43_peeked (Nat.ne_of_lt (Nat.lt_of_lt_of_le Fq_37_0.lt (Nat.le_of_eq g_43.symm))) (Nat.ne_of_lt (Nat.lt_of_lt_of_le Fq_37_3.lt (Nat.le_of_eq g_43.symm))) Fa_45 Fa_46 Fa_47 Fa_48 Fa_49 hw0) at_88 ?_ 1
   rintro T_44 L_44 X_44 ⟨-, Nq_44, K_44, Fq_44_0, Fq_44_1, Fq_44_2, Fq_44_3⟩
   have N_44 := Fr.app N_37 Nq_44
   refine o_astore X_44 Hq at_91 rfl (l' := #[iv p1, iv p2, iv p3, iv p4, iv p5, iv p6, iv (own_draw p1), iv (own_draw ((p1.toUInt32 >>> ((10 : Int32) &&& 31).toUInt32).toInt32)), iv (own_draw ((p1.toUInt32 >>> ((20 : Int32) &&& 31).toUInt32).toInt32)), rv b_4, iv 1, iv 0, iv (((p2.toUInt32 >>> ((3 : Int32) &&& 31).toUInt32).toInt32) &&& (3 : Int32)), rv b__37, rv b_43, .unset, .unset, .unset, .unset]) rfl (o_iconst X_44 Hq 0 at_93 rfl (o_istore X_44 Hq at_94 (l' := #[iv p1, iv p2, iv p3, iv p4, iv p5, iv p6, iv (own_draw p1), iv (own_draw ((p1.toUInt32 >>> ((10 : Int32) &&& 31).toUInt32).toInt32)), iv (own_draw ((p1.toUInt32 >>> ((20 : Int32) &&& 31).toUInt32).toInt32)), rv b_4, iv 1, iv 0, iv (((p2.toUInt32 >>> ((3 : Int32) &&& 31).toUInt32).toInt32) &&& (3 : Int32)), rv b__37, rv b_43, iv 0, .unset, .unset, .unset]) rfl (o_iload X_44 Hq at_96 rfl (o_istore X_44 Hq at_98 (l' := #[iv p1, iv p2, iv p3, iv p4, iv p5, iv p6, iv (own_draw p1), iv (own_draw ((p1.toUInt32 >>> ((10 : Int32) &&& 31).toUInt32).toInt32)), iv (own_draw ((p1.toUInt32 >>> ((20 : Int32) &&& 31).toUInt32).toInt32)), rv b_4, iv 1, iv 0, iv (((p2.toUInt32 >>> ((3 : Int32) &&& 31).toUInt32).toInt32) &&& (3 : Int32)), rv b__37, rv b_43, iv 0, iv 1, .unset, .unset]) rfl (o_iload X_44 Hq at_100 rfl (o_ifYes X_44 Hq (pc' := 239) at_102 (by decide) ?_))))))
   have Fa_51 := (A_43.keep K_44)
   have Fa_52 := (((V_10.keep K_37 nin0).ext E_43).keep K_44 (ninS (Nat.ne_of_lt (Nat.lt_of_lt_of_le (V_10.keep K_37 nin0).lt (Nat.le_of_eq g_43.symm))) nin0))
   have Fa_53 := (Fa_45.keep K_44)
   have Fa_54 := (Fa_46.keep K_44 (ninS (Nat.ne_of_lt (Nat.lt_of_lt_of_le Fq_37_0.lt (Nat.le_of_eq g_43.symm))) nin0))
   have Fa_55 := (Fa_47.keep K_44 (ninS (Nat.ne_of_lt (Nat.lt_of_lt_of_le Fq_37_0.lt (Nat.le_of_eq g_43.symm))) nin0))
   have Fa_56 := (Fa_48.keep K_44 (ninS (Nat.ne_of_lt (Nat.lt_of_lt_of_le Fq_37_3.lt (Nat.le_of_eq g_43.symm))) nin0))
   have Fa_57 := (own_Sta_keep Fa_49 K_44 (nsS (A_43.nostat) ns0))
   have Fa_58 := (own_Sta_keep ((own_Sta_keep ((((S2.ext E_4).wr W_6).wr W_8).wr W_10) K_37 ns0).ext E_43) K_44 (nsS (A_43.nostat) ns0))
   have Zs_59 : n0 ≤ T_44.heap.size := (Nat.le_trans Zs_50 K_44.1)
   have Kp_60 : Keep h0 T_44.heap [] := ((Kp_42.ext E_43).trans K_44 (allS (Or.inr sz_43) all0))
   have Ks_61 := (Nat.le_trans (Nat.le_trans (Nat.le_trans (Nat.le_trans (Nat.le_trans (Nat.le_trans (Nat.le_trans (Nat.le_refl h0.size) E_4.1) (Keep.of_wr W_6).1) (Keep.of_wr W_8).1) (Keep.of_wr W_10).1) K_37.1) E_43.1) K_44.1)
   exact own_tail p1 p2 p3 p4 p5 p6 w sfv (own_draw p1) (own_draw ((p1.toUInt32 >>> ((10 : Int32) &&& 31).toUInt32).toInt32)) (own_draw ((p1.toUInt32 >>> ((20 : Int32) &&& 31).toUInt32).toInt32)) (1 : Int32) (0 : Int32) (((p2.toUInt32 >>> ((3 : Int32) &&& 31).toUInt32).toInt32) &&& (3 : Int32)) (0 : Int32) (1 : Int32) (1 : Int32) b_43 b_4 b__37 t__37 k_4 [(.int (own_draw p1)), (.int (own_draw ((p1.toUInt32 >>> ((10 : Int32) &&& 31).toUInt32).toInt32))), (.int (own_draw ((p1.toUInt32 >>> ((20 : Int32) &&& 31).toUInt32).toInt32)))] (.int (0 : Int32)) kt__37 [(.int (((own_draw p1).toInt8.toInt32).toInt8.toInt32))] (.int (0 : Int32)) (own_f (own_draw p1) (own_draw ((p1.toUInt32 >>> ((10 : Int32) &&& 31).toUInt32).toInt32)) (own_draw ((p1.toUInt32 >>> ((20 : Int32) &&& 31).toUInt32).toInt32))) _ _ X_44 hx hZ hw hby hml hown Bd.returns hlk rfl N_44 Zs_59 Kp_60 hS0 Ks_61 (by decide) (by decide) Fa_51 gg_43 sz_43 Fq_44_0 Fq_44_1 Fq_44_2 Fa_52 Fa_53 Fa_54 Fa_55 Fa_56 Fa_57 Fa_58 (Nat.ne_of_lt (Nat.lt_of_lt_of_le Fq_37_0.lt (Nat.le_of_eq g_43.symm))) (Nat.ne_of_lt (Nat.lt_of_lt_of_le Fq_37_3.lt (Nat.le_of_eq g_43.symm))) (Nat.ne_of_lt (Nat.lt_of_lt_of_le (V_10.keep K_37 nin0).lt (Nat.le_of_eq g_43.symm))) hw0 hsf (own_fcs _ _ _) (own_fat1 _ _ _) (own_fbd (own_drb _) (own_drb _) (own_drb _)) (by decide) (by decide) (by decide) (by decide)
  ·rw [hN]
   show own_Go _ _ _ _ (T_10.setTop (mkF m 69 #[iv p1, iv p2, iv p3, iv p4, iv p5, iv p6, iv (own_draw p1), iv (own_draw ((p1.toUInt32 >>> ((10 : Int32) &&& 31).toUInt32).toInt32)), iv (own_draw ((p1.toUInt32 >>> ((20 : Int32) &&& 31).toUInt32).toInt32)), rv b_4, iv 2, iv 0, iv (((p2.toUInt32 >>> ((3 : Int32) &&& 31).toUInt32).toInt32) &&& (3 : Int32)), .unset, .unset, .unset, .unset, .unset, .unset] []))
   refine o_iload X_10 Hq at_69 rfl (o_iload X_10 Hq at_71 rfl (o_iload X_10 Hq at_73 rfl (o_iload X_10 Hq at_75 rfl ?_)))
   have Fa_63 := ((((S1.ext E_4).wr W_6).wr W_8).wr W_10)
   have Zs_64 : n0 ≤ h_10.size := (Nat.le_trans (Nat.le_trans (Nat.le_trans (Nat.le_trans Z0 E_4.1) (Keep.of_wr W_6).1) (Keep.of_wr W_8).1) (Keep.of_wr W_10).1)
   refine c_S4 X_10 Hq e_10 hZ hown hml (k0_24 hw) (rmmake2 hw (own_draw p1) (own_draw ((p1.toUInt32 >>> ((10 : Int32) &&& 31).toUInt32).toInt32)) (own_draw ((p1.toUInt32 >>> ((20 : Int32) &&& 31).toUInt32).toInt32)) w h_10 n0 Zs_64 Fa_63 hw0 (own_drn _) (own_drn _) (own_drb _).1 (own_drb _).1) at_77 ?_ 0
   rintro T_62 L_62 _ X_62 ⟨b__62, t__62, kt__62, ⟨⟩, Nq_62, K_62, gq_62_b, sq_62_b, Fq_62_0, Fq_62_1, Fq_62_2, Fq_62_3⟩
   have N_62 := Fr.app N_10 Nq_62
   have Kp_65 : Keep h0 h_10 [] := (((((Keep.refl h0 []).ext E_4).wr W_6 (Or.inr sz_4)).wr W_8 (Or.inr sz_4)).wr W_10 (Or.inr sz_4))
   have szq_62_b : h0.size ≤ b__62 := Nat.le_trans Kp_65.1 sq_62_b
   refine o_astore X_62 Hq at_80 rfl (l' := #[iv p1, iv p2, iv p3, iv p4, iv p5, iv p6, iv (own_draw p1), iv (own_draw ((p1.toUInt32 >>> ((10 : Int32) &&& 31).toUInt32).toInt32)), iv (own_draw ((p1.toUInt32 >>> ((20 : Int32) &&& 31).toUInt32).toInt32)), rv b_4, iv 2, iv 0, iv (((p2.toUInt32 >>> ((3 : Int32) &&& 31).toUInt32).toInt32) &&& (3 : Int32)), rv b__62, .unset, .unset, .unset, .unset, .unset]) rfl ?_
   have Zs_66 : n0 ≤ T_62.heap.size := (Nat.le_trans Zs_64 K_62.1)
   have Kp_67 : Keep h0 T_62.heap [] := (Kp_65.trans K_62 all0)
   obtain ⟨T_68, h_68, X_68, e_68, E_68, A_68, D_68, -, st_68⟩ := newO X_62 hx hZ hown (w_ hw 37 rfl) (w_ hw 38 rfl) (w_ hw 39 rfl) rfl (g := (mkF m 82 #[iv p1, iv p2, iv p3, iv p4, iv p5, iv p6, iv (own_draw p1), iv (own_draw ((p1.toUInt32 >>> ((10 : Int32) &&& 31).toUInt32).toInt32)), iv (own_draw ((p1.toUInt32 >>> ((20 : Int32) &&& 31).toUInt32).toInt32)), rv b_4, iv 2, iv 0, iv (((p2.toUInt32 >>> ((3 : Int32) &&& 31).toUInt32).toInt32) &&& (3 : Int32)), rv b__62, .unset, .unset, .unset, .unset, .unset] [])) rfl (hb hby at_82) (by decide) (by decide)
   obtain ⟨b_68, g_68⟩ : ∃ z, z = T_62.heap.size := ⟨_, rfl⟩
   rw [← g_68] at A_68 D_68 st_68
   have gg_68 : n0 ≤ b_68 := Nat.le_trans Zs_66 (Nat.le_of_eq g_68.symm)
   have sz_68 : h0.size ≤ b_68 := Nat.le_trans Kp_67.1 (Nat.le_of_eq g_68.symm)
   have Fi_68_input : Fld Z h_68 b_68 "com/example/vernum/vernum/VersionScanner" "input" "Ljava/lang/String;" .null := D_68 (Or.inr (w_ hw 45 rfl)) (ty := (.object "java/lang/String")) (by decide)
   have Fi_68_end : Fld Z h_68 b_68 "com/example/vernum/vernum/VersionScanner" "end" "I" (.int (0 : Int32)) := D_68 (Or.inl (w_ hw 57 rfl)) (ty := .int) (by decide)
   have Fi_68_position : Fld Z h_68 b_68 "com/example/vernum/vernum/VersionScanner" "position" "I" (.int (0 : Int32)) := D_68 (Or.inl (w_ hw 64 rfl)) (ty := .int) (by decide)
   have Fi_68_peeked : Fld Z h_68 b_68 "com/example/vernum/vernum/VersionScanner" "peeked" "I" (.int (0 : Int32)) := D_68 (Or.inl (w_ hw 104 rfl)) (ty := .int) (by decide)
   refine own_st st_68 ?_
   show own_Go _ _ _ _ (T_68.setTop (mkF m 85 #[iv p1, iv p2, iv p3, iv p4, iv p5, iv p6, iv (own_draw p1), iv (own_draw ((p1.toUInt32 >>> ((10 : Int32) &&& 31).toUInt32).toInt32)), iv (own_draw ((p1.toUInt32 >>> ((20 : Int32) &&& 31).toUInt32).toInt32)), rv b_4, iv 2, iv 0, iv (((p2.toUInt32 >>> ((3 : Int32) &&& 31).toUInt32).toInt32) &&& (3 : Int32)), rv b__62, .unset, .unset, .unset, .unset, .unset] [(.ref b_68)]))
   refine o_dup X_68 Hq at_85 rfl (o_aload X_68 Hq at_86 rfl rfl ?_)
   have Fa_70 := (Fq_62_0.ext E_68)
   have Fa_71 := (Fq_62_1.ext E_68)
   have Fa_72 := (Fq_62_2.ext E_68)
   have Fa_73 := (Fq_62_3.ext E_68)
   have Fa_74 := ((own_Sta_keep Fa_63 K_62 ns0).ext E_68)
   have Zs_75 : n0 ≤ h_68.size := (Nat.le_trans Zs_66 E_68.1)
   refine c_I1v X_68 Hq e_68 hZ hown hml (k0_28 hw) (rm9 hw b_68 b__62 t__62 kt__62 (2 : Int32) [(.int (((own_draw p1).toInt8.toInt32).toInt8.toInt32)), (.int (((own_draw ((p1.toUInt32 >>> ((10 : Int32) &&& 31).toUInt32).toInt32)).toInt8.toInt32).toInt8.toInt32))] (.int (0 : Int32)) w h_68 n0 Zs_75 A_68 gg_68 Fi_68_input Fi_68_end Fi_68_position Fi_68_peeked (Nat.ne_of_lt (Nat.lt_of_lt_of_le Fq_62_0.lt (Nat.le_of_eq g_68.symm))) (Nat.ne_of_lt (Nat.lt_of_lt_of_le Fq_62_3.lt (Nat.le_of_eq g_68.symm))) Fa_70 Fa_71 Fa_72 Fa_73 Fa_74 hw0) at_88 ?_ 1
   rintro T_69 L_69 X_69 ⟨-, Nq_69, K_69, Fq_69_0, Fq_69_1, Fq_69_2, Fq_69_3⟩
   have N_69 := Fr.app N_62 Nq_69
   refine o_astore X_69 Hq at_91 rfl (l' := #[iv p1, iv p2, iv p3, iv p4, iv p5, iv p6, iv (own_draw p1), iv (own_draw ((p1.toUInt32 >>> ((10 : Int32) &&& 31).toUInt32).toInt32)), iv (own_draw ((p1.toUInt32 >>> ((20 : Int32) &&& 31).toUInt32).toInt32)), rv b_4, iv 2, iv 0, iv (((p2.toUInt32 >>> ((3 : Int32) &&& 31).toUInt32).toInt32) &&& (3 : Int32)), rv b__62, rv b_68, .unset, .unset, .unset, .unset]) rfl (o_iconst X_69 Hq 0 at_93 rfl (o_istore X_69 Hq at_94 (l' := #[iv p1, iv p2, iv p3, iv p4, iv p5, iv p6, iv (own_draw p1), iv (own_draw ((p1.toUInt32 >>> ((10 : Int32) &&& 31).toUInt32).toInt32)), iv (own_draw ((p1.toUInt32 >>> ((20 : Int32) &&& 31).toUInt32).toInt32)), rv b_4, iv 2, iv 0, iv (((p2.toUInt32 >>> ((3 : Int32) &&& 31).toUInt32).toInt32) &&& (3 : Int32)), rv b__62, rv b_68, iv 0, .unset, .unset, .unset]) rfl (o_iload X_69 Hq at_96 rfl (o_istore X_69 Hq at_98 (l' := #[iv p1, iv p2, iv p3, iv p4, iv p5, iv p6, iv (own_draw p1), iv (own_draw ((p1.toUInt32 >>> ((10 : Int32) &&& 31).toUInt32).toInt32)), iv (own_draw ((p1.toUInt32 >>> ((20 : Int32) &&& 31).toUInt32).toInt32)), rv b_4, iv 2, iv 0, iv (((p2.toUInt32 >>> ((3 : Int32) &&& 31).toUInt32).toInt32) &&& (3 : Int32)), rv b__62, rv b_68, iv 0, iv 2, .unset, .unset]) rfl (o_iload X_69 Hq at_100 rfl (o_ifYes X_69 Hq (pc' := 239) at_102 (by decide) ?_))))))
   have Fa_76 := (A_68.keep K_69)
   have Fa_77 := (((V_10.keep K_62 nin0).ext E_68).keep K_69 (ninS (Nat.ne_of_lt (Nat.lt_of_lt_of_le (V_10.keep K_62 nin0).lt (Nat.le_of_eq g_68.symm))) nin0))
   have Fa_78 := (Fa_70.keep K_69)
   have Fa_79 := (Fa_71.keep K_69 (ninS (Nat.ne_of_lt (Nat.lt_of_lt_of_le Fq_62_0.lt (Nat.le_of_eq g_68.symm))) nin0))
   have Fa_80 := (Fa_72.keep K_69 (ninS (Nat.ne_of_lt (Nat.lt_of_lt_of_le Fq_62_0.lt (Nat.le_of_eq g_68.symm))) nin0))
   have Fa_81 := (Fa_73.keep K_69 (ninS (Nat.ne_of_lt (Nat.lt_of_lt_of_le Fq_62_3.lt (Nat.le_of_eq g_68.symm))) nin0))
   have Fa_82 := (own_Sta_keep Fa_74 K_69 (nsS (A_68.nostat) ns0))
   have Fa_83 := (own_Sta_keep ((own_Sta_keep ((((S2.ext E_4).wr W_6).wr W_8).wr W_10) K_62 ns0).ext E_68) K_69 (nsS (A_68.nostat) ns0))
   have Zs_84 : n0 ≤ T_69.heap.size := (Nat.le_trans Zs_75 K_69.1)
   have Kp_85 : Keep h0 T_69.heap [] := ((Kp_67.ext E_68).trans K_69 (allS (Or.inr sz_68) all0))
   have Ks_86 := (Nat.le_trans (Nat.le_trans (Nat.le_trans (Nat.le_trans (Nat.le_trans (Nat.le_trans (Nat.le_trans (Nat.le_refl h0.size) E_4.1) (Keep.of_wr W_6).1) (Keep.of_wr W_8).1) (Keep.of_wr W_10).1) K_62.1) E_68.1) K_69.1)
   exact own_tail p1 p2 p3 p4 p5 p6 w sfv (own_draw p1) (own_draw ((p1.toUInt32 >>> ((10 : Int32) &&& 31).toUInt32).toInt32)) (own_draw ((p1.toUInt32 >>> ((20 : Int32) &&& 31).toUInt32).toInt32)) (2 : Int32) (0 : Int32) (((p2.toUInt32 >>> ((3 : Int32) &&& 31).toUInt32).toInt32) &&& (3 : Int32)) (0 : Int32) (2 : Int32) (2 : Int32) b_68 b_4 b__62 t__62 k_4 [(.int (own_draw p1)), (.int (own_draw ((p1.toUInt32 >>> ((10 : Int32) &&& 31).toUInt32).toInt32))), (.int (own_draw ((p1.toUInt32 >>> ((20 : Int32) &&& 31).toUInt32).toInt32)))] (.int (0 : Int32)) kt__62 [(.int (((own_draw p1).toInt8.toInt32).toInt8.toInt32)), (.int (((own_draw ((p1.toUInt32 >>> ((10 : Int32) &&& 31).toUInt32).toInt32)).toInt8.toInt32).toInt8.toInt32))] (.int (0 : Int32)) (own_f (own_draw p1) (own_draw ((p1.toUInt32 >>> ((10 : Int32) &&& 31).toUInt32).toInt32)) (own_draw ((p1.toUInt32 >>> ((20 : Int32) &&& 31).toUInt32).toInt32))) _ _ X_69 hx hZ hw hby hml hown Bd.returns hlk rfl N_69 Zs_84 Kp_85 hS0 Ks_86 (by decide) (by decide) Fa_76 gg_68 sz_68 Fq_69_0 Fq_69_1 Fq_69_2 Fa_77 Fa_78 Fa_79 Fa_80 Fa_81 Fa_82 Fa_83 (Nat.ne_of_lt (Nat.lt_of_lt_of_le Fq_62_0.lt (Nat.le_of_eq g_68.symm))) (Nat.ne_of_lt (Nat.lt_of_lt_of_le Fq_62_3.lt (Nat.le_of_eq g_68.symm))) (Nat.ne_of_lt (Nat.lt_of_lt_of_le (V_10.keep K_62 nin0).lt (Nat.le_of_eq g_68.symm))) hw0 hsf (own_fcs _ _ _) (own_fat2 _ _ _) (own_fbd (own_drb _) (own_drb _) (own_drb _)) (by decide) (by decide) (by decide) (by decide)
  ·rw [hN]
   show own_Go _ _ _ _ (T_10.setTop (mkF m 69 #[iv p1, iv p2, iv p3, iv p4, iv p5, iv p6, iv (own_draw p1), iv (own_draw ((p1.toUInt32 >>> ((10 : Int32) &&& 31).toUInt32).toInt32)), iv (own_draw ((p1.toUInt32 >>> ((20 : Int32) &&& 31).toUInt32).toInt32)), rv b_4, iv 3, iv 0, iv (((p2.toUInt32 >>> ((3 : Int32) &&& 31).toUInt32).toInt32) &&& (3 : Int32)), .unset, .unset, .unset, .unset, .unset, .unset] []))
   refine o_iload X_10 Hq at_69 rfl (o_iload X_10 Hq at_71 rfl (o_iload X_10 Hq at_73 rfl (o_iload X_10 Hq at_75 rfl ?_)))
   have Fa_88 := ((((S1.ext E_4).wr W_6).wr W_8).wr W_10)
   have Zs_89 : n0 ≤ h_10.size := (Nat.le_trans (Nat.le_trans (Nat.le_trans (Nat.le_trans Z0 E_4.1) (Keep.of_wr W_6).1) (Keep.of_wr W_8).1) (Keep.of_wr W_10).1)
   refine c_S4 X_10 Hq e_10 hZ hown hml (k0_24 hw) (rmmake3 hw (own_draw p1) (own_draw ((p1.toUInt32 >>> ((10 : Int32) &&& 31).toUInt32).toInt32)) (own_draw ((p1.toUInt32 >>> ((20 : Int32) &&& 31).toUInt32).toInt32)) w h_10 n0 Zs_89 Fa_88 hw0 (own_drn _) (own_drn _) (own_drn _) (own_drb _).1 (own_drb _).1 (own_drb _).1) at_77 ?_ 0
   rintro T_87 L_87 _ X_87 ⟨b__87, t__87, kt__87, ⟨⟩, Nq_87, K_87, gq_87_b, sq_87_b, Fq_87_0, Fq_87_1, Fq_87_2, Fq_87_3⟩
   have N_87 := Fr.app N_10 Nq_87
   have Kp_90 : Keep h0 h_10 [] := (((((Keep.refl h0 []).ext E_4).wr W_6 (Or.inr sz_4)).wr W_8 (Or.inr sz_4)).wr W_10 (Or.inr sz_4))
   have szq_87_b : h0.size ≤ b__87 := Nat.le_trans Kp_90.1 sq_87_b
   refine o_astore X_87 Hq at_80 rfl (l' := #[iv p1, iv p2, iv p3, iv p4, iv p5, iv p6, iv (own_draw p1), iv (own_draw ((p1.toUInt32 >>> ((10 : Int32) &&& 31).toUInt32).toInt32)), iv (own_draw ((p1.toUInt32 >>> ((20 : Int32) &&& 31).toUInt32).toInt32)), rv b_4, iv 3, iv 0, iv (((p2.toUInt32 >>> ((3 : Int32) &&& 31).toUInt32).toInt32) &&& (3 : Int32)), rv b__87, .unset, .unset, .unset, .unset, .unset]) rfl ?_
   have Zs_91 : n0 ≤ T_87.heap.size := (Nat.le_trans Zs_89 K_87.1)
   have Kp_92 : Keep h0 T_87.heap [] := (Kp_90.trans K_87 all0)
   obtain ⟨T_93, h_93, X_93, e_93, E_93, A_93, D_93, -, st_93⟩ := newO X_87 hx hZ hown (w_ hw 37 rfl) (w_ hw 38 rfl) (w_ hw 39 rfl) rfl (g := (mkF m 82 #[iv p1, iv p2, iv p3, iv p4, iv p5, iv p6, iv (own_draw p1), iv (own_draw ((p1.toUInt32 >>> ((10 : Int32) &&& 31).toUInt32).toInt32)), iv (own_draw ((p1.toUInt32 >>> ((20 : Int32) &&& 31).toUInt32).toInt32)), rv b_4, iv 3, iv 0, iv (((p2.toUInt32 >>> ((3 : Int32) &&& 31).toUInt32).toInt32) &&& (3 : Int32)), rv b__87, .unset, .unset, .unset, .unset, .unset] [])) rfl (hb hby at_82) (by decide) (by decide)
   obtain ⟨b_93, g_93⟩ : ∃ z, z = T_87.heap.size := ⟨_, rfl⟩
   rw [← g_93] at A_93 D_93 st_93
   have gg_93 : n0 ≤ b_93 := Nat.le_trans Zs_91 (Nat.le_of_eq g_93.symm)
   have sz_93 : h0.size ≤ b_93 := Nat.le_trans Kp_92.1 (Nat.le_of_eq g_93.symm)
   have Fi_93_input : Fld Z h_93 b_93 "com/example/vernum/vernum/VersionScanner" "input" "Ljava/lang/String;" .null := D_93 (Or.inr (w_ hw 45 rfl)) (ty := (.object "java/lang/String")) (by decide)
   have Fi_93_end : Fld Z h_93 b_93 "com/example/vernum/vernum/VersionScanner" "end" "I" (.int (0 : Int32)) := D_93 (Or.inl (w_ hw 57 rfl)) (ty := .int) (by decide)
   have Fi_93_position : Fld Z h_93 b_93 "com/example/vernum/vernum/VersionScanner" "position" "I" (.int (0 : Int32)) := D_93 (Or.inl (w_ hw 64 rfl)) (ty := .int) (by decide)
   have Fi_93_peeked : Fld Z h_93 b_93 "com/example/vernum/vernum/VersionScanner" "peeked" "I" (.int (0 : Int32)) := D_93 (Or.inl (w_ hw 104 rfl)) (ty := .int) (by decide)
   refine own_st st_93 ?_
   show own_Go _ _ _ _ (T_93.setTop (mkF m 85 #[iv p1, iv p2, iv p3, iv p4, iv p5, iv p6, iv (own_draw p1), iv (own_draw ((p1.toUInt32 >>> ((10 : Int32) &&& 31).toUInt32).toInt32)), iv (own_draw ((p1.toUInt32 >>> ((20 : Int32) &&& 31).toUInt32).toInt32)), rv b_4, iv 3, iv 0, iv (((p2.toUInt32 >>> ((3 : Int32) &&& 31).toUInt32).toInt32) &&& (3 : Int32)), rv b__87, .unset, .unset, .unset, .unset, .unset] [(.ref b_93)]))
   refine o_dup X_93 Hq at_85 rfl (o_aload X_93 Hq at_86 rfl rfl ?_)
   have Fa_95 := (Fq_87_0.ext E_93)
   have Fa_96 := (Fq_87_1.ext E_93)
   have Fa_97 := (Fq_87_2.ext E_93)
   have Fa_98 := (Fq_87_3.ext E_93)
   have Fa_99 := ((own_Sta_keep Fa_88 K_87 ns0).ext E_93)
   have Zs_100 : n0 ≤ h_93.size := (Nat.le_trans Zs_91 E_93.1)
   refine c_I1v X_93 Hq e_93 hZ hown hml (k0_28 hw) (rm9 hw b_93 b__87 t__87 kt__87 (3 : Int32) [(.int (((own_draw p1).toInt8.toInt32).toInt8.toInt32)), (.int (((own_draw ((p1.toUInt32 >>> ((10 : Int32) &&& 31).toUInt32).toInt32)).toInt8.toInt32).toInt8.toInt32)), (.int (((own_draw ((p1.toUInt32 >>> ((20 : Int32) &&& 31).toUInt32).toInt32)).toInt8.toInt32).toInt8.toInt32))] (.int (0 : Int32)) w h_93 n0 Zs_100 A_93 gg_93 Fi_93_input Fi_93_end Fi_93_position Fi_93_peeked (Nat.ne_of_lt (Nat.lt_of_lt_of_le Fq_87_0.lt (Nat.le_of_eq g_93.symm))) (Nat.ne_of_lt (Nat.lt_of_lt_of_le Fq_87_3.lt (Nat.le_of_eq g_93.symm))) Fa_95 Fa_96 Fa_97 Fa_98 Fa_99 hw0) at_88 ?_ 1
   rintro T_94 L_94 X_94 ⟨-, Nq_94, K_94, Fq_94_0, Fq_94_1, Fq_94_2, Fq_94_3⟩
   have N_94 := Fr.app N_87 Nq_94
   refine o_astore X_94 Hq at_91 rfl (l' := #[iv p1, iv p2, iv p3, iv p4, iv p5, iv p6, iv (own_draw p1), iv (own_draw ((p1.toUInt32 >>> ((10 : Int32) &&& 31).toUInt32).toInt32)), iv (own_draw ((p1.toUInt32 >>> ((20 : Int32) &&& 31).toUInt32).toInt32)), rv b_4, iv 3, iv 0, iv (((p2.toUInt32 >>> ((3 : Int32) &&& 31).toUInt32).toInt32) &&& (3 : Int32)), rv b__87, rv b_93, .unset, .unset, .unset, .unset]) rfl (o_iconst X_94 Hq 0 at_93 rfl (o_istore X_94 Hq at_94 (l' := #[iv p1, iv p2, iv p3, iv p4, iv p5, iv p6, iv (own_draw p1), iv (own_draw ((p1.toUInt32 >>> ((10 : Int32) &&& 31).toUInt32).toInt32)), iv (own_draw ((p1.toUInt32 >>> ((20 : Int32) &&& 31).toUInt32).toInt32)), rv b_4, iv 3, iv 0, iv (((p2.toUInt32 >>> ((3 : Int32) &&& 31).toUInt32).toInt32) &&& (3 : Int32)), rv b__87, rv b_93, iv 0, .unset, .unset, .unset]) rfl (o_iload X_94 Hq at_96 rfl (o_istore X_94 Hq at_98 (l' := #[iv p1, iv p2, iv p3, iv p4, iv p5, iv p6, iv (own_draw p1), iv (own_draw ((p1.toUInt32 >>> ((10 : Int32) &&& 31).toUInt32).toInt32)), iv (own_draw ((p1.toUInt32 >>> ((20 : Int32) &&& 31).toUInt32).toInt32)), rv b_4, iv 3, iv 0, iv (((p2.toUInt32 >>> ((3 : Int32) &&& 31).toUInt32).toInt32) &&& (3 : Int32)), rv b__87, rv b_93, iv 0, iv 3, .unset, .unset]) rfl (o_iload X_94 Hq at_100 rfl (o_ifYes X_94 Hq (pc' := 239) at_102 (by decide) ?_))))))
   have Fa_101 := (A_93.keep K_94)
   have Fa_102 := (((V_10.keep K_87 nin0).ext E_93).keep K_94 (ninS (Nat.ne_of_lt (Nat.lt_of_lt_of_le (V_10.keep K_87 nin0).lt (Nat.le_of_eq g_93.symm))) nin0))
   have Fa_103 := (Fa_95.keep K_94)
   have Fa_104 := (Fa_96.keep K_94 (ninS (Nat.ne_of_lt (Nat.lt_of_lt_of_le Fq_87_0.lt (Nat.le_of_eq g_93.symm))) nin0))
   have Fa_105 := (Fa_97.keep K_94 (ninS (Nat.ne_of_lt (Nat.lt_of_lt_of_le Fq_87_0.lt (Nat.le_of_eq g_93.symm))) nin0))
   have Fa_106 := (Fa_98.keep K_94 (ninS (Nat.ne_of_lt (Nat.lt_of_lt_of_le Fq_87_3.lt (Nat.le_of_eq g_93.symm))) nin0))
   have Fa_107 := (own_Sta_keep Fa_99 K_94 (nsS (A_93.nostat) ns0))
   have Fa_108 := (own_Sta_keep ((own_Sta_keep ((((S2.ext E_4).wr W_6).wr W_8).wr W_10) K_87 ns0).ext E_93) K_94 (nsS (A_93.nostat) ns0))
   have Zs_109 : n0 ≤ T_94.heap.size := (Nat.le_trans Zs_100 K_94.1)
   have Kp_110 : Keep h0 T_94.heap [] := ((Kp_92.ext E_93).trans K_94 (allS (Or.inr sz_93) all0))
   have Ks_111 := (Nat.le_trans (Nat.le_trans (Nat.le_trans (Nat.le_trans (Nat.le_trans (Nat.le_trans (Nat.le_trans (Nat.le_refl h0.size) E_4.1) (Keep.of_wr W_6).1) (Keep.of_wr W_8).1) (Keep.of_wr W_10).1) K_87.1) E_93.1) K_94.1)
   exact own_tail p1 p2 p3 p4 p5 p6 w sfv (own_draw p1) (own_draw ((p1.toUInt32 >>> ((10 : Int32) &&& 31).toUInt32).toInt32)) (own_draw ((p1.toUInt32 >>> ((20 : Int32) &&& 31).toUInt32).toInt32)) (3 : Int32) (0 : Int32) (((p2.toUInt32 >>> ((3 : Int32) &&& 31).toUInt32).toInt32) &&& (3 : Int32)) (0 : Int32) (3 : Int32) (3 : Int32) b_93 b_4 b__87 t__87 k_4 [(.int (own_draw p1)), (.int (own_draw ((p1.toUInt32 >>> ((10 : Int32) &&& 31).toUInt32).toInt32))), (.int (own_draw ((p1.toUInt32 >>> ((20 : Int32) &&& 31).toUInt32).toInt32)))] (.int (0 : Int32)) kt__87 [(.int (((own_draw p1).toInt8.toInt32).toInt8.toInt32)), (.int (((own_draw ((p1.toUInt32 >>> ((10 : Int32) &&& 31).toUInt32).toInt32)).toInt8.toInt32).toInt8.toInt32)), (.int (((own_draw ((p1.toUInt32 >>> ((20 : Int32) &&& 31).toUInt32).toInt32)).toInt8.toInt32).toInt8.toInt32))] (.int (0 : Int32)) (own_f (own_draw p1) (own_draw ((p1.toUInt32 >>> ((10 : Int32) &&& 31).toUInt32).toInt32)) (own_draw ((p1.toUInt32 >>> ((20 : Int32) &&& 31).toUInt32).toInt32))) _ _ X_94 hx hZ hw hby hml hown Bd.returns hlk rfl N_94 Zs_109 Kp_110 hS0 Ks_111 (by decide) (by decide) Fa_101 gg_93 sz_93 Fq_94_0 Fq_94_1 Fq_94_2 Fa_102 Fa_103 Fa_104 Fa_105 Fa_106 Fa_107 Fa_108 (Nat.ne_of_lt (Nat.lt_of_lt_of_le Fq_87_0.lt (Nat.le_of_eq g_93.symm))) (Nat.ne_of_lt (Nat.lt_of_lt_of_le Fq_87_3.lt (Nat.le_of_eq g_93.symm))) (Nat.ne_of_lt (Nat.lt_of_lt_of_le (V_10.keep K_87 nin0).lt (Nat.le_of_eq g_93.symm))) hw0 hsf (own_fcs _ _ _) (own_fat3 _ _ _) (own_fbd (own_drb _) (own_drb _) (own_drb _)) (by decide) (by decide) (by decide) (by decide)
 ·refine o_ifNo X_10 Hq at_52 (feq hc52__11).1 (o_iconst X_10 Hq 1 at_55 rfl (o_goto X_10 Hq (pc' := 60) at_56 (o_istore X_10 Hq at_60 (l' := #[iv p1, iv p2, iv p3, iv p4, iv p5, iv p6, iv (own_draw p1), iv (own_draw ((p1.toUInt32 >>> ((10 : Int32) &&& 31).toUInt32).toInt32)), iv (own_draw ((p1.toUInt32 >>> ((20 : Int32) &&& 31).toUInt32).toInt32)), rv b_4, iv (p2 &&& (3 : Int32)), iv 1, .unset, .unset, .unset, .unset, .unset, .unset, .unset]) rfl (o_iloadN X_10 Hq at_62 rfl (o_iconst X_10 Hq 3 at_63 rfl (o_iushr X_10 Hq at_64 (o_iconst X_10 Hq 3 at_65 rfl (o_iand X_10 Hq at_66 (o_istore X_10 Hq at_67 (l' := #[iv p1, iv p2, iv p3, iv p4, iv p5, iv p6, iv (own_draw p1), iv (own_draw ((p1.toUInt32 >>> ((10 : Int32) &&& 31).toUInt32).toInt32)), iv (own_draw ((p1.toUInt32 >>> ((20 : Int32) &&& 31).toUInt32).toInt32)), rv b_4, iv (p2 &&& (3 : Int32)), iv 1, iv (((p2.toUInt32 >>> ((3 : Int32) &&& 31).toUInt32).toInt32) &&& (3 : Int32)), .unset, .unset, .unset, .unset, .unset, .unset]) rfl ?_)))))))))
  rcases own_four p2 with hN | hN | hN | hN
  ·rw [hN]
   show own_Go _ _ _ _ (T_10.setTop (mkF m 69 #[iv p1, iv p2, iv p3, iv p4, iv p5, iv p6, iv (own_draw p1), iv (own_draw ((p1.toUInt32 >>> ((10 : Int32) &&& 31).toUInt32).toInt32)), iv (own_draw ((p1.toUInt32 >>> ((20 : Int32) &&& 31).toUInt32).toInt32)), rv b_4, iv 0, iv 1, iv (((p2.toUInt32 >>> ((3 : Int32) &&& 31).toUInt32).toInt32) &&& (3 : Int32)), .unset, .unset, .unset, .unset, .unset, .unset] []))
   refine o_iload X_10 Hq at_69 rfl (o_iload X_10 Hq at_71 rfl (o_iload X_10 Hq at_73 rfl (o_iload X_10 Hq at_75 rfl ?_)))
   have Zs_113 : n0 ≤ h_10.size := (Nat.le_trans (Nat.le_trans (Nat.le_trans (Nat.le_trans Z0 E_4.1) (Keep.of_wr W_6).1) (Keep.of_wr W_8).1) (Keep.of_wr W_10).1)
   have Ks_114 := (Nat.le_trans (Nat.le_trans (Nat.le_trans (Nat.le_trans (Nat.le_refl h0.size) E_4.1) (Keep.of_wr W_6).1) (Keep.of_wr W_8).1) (Keep.of_wr W_10).1)
   have Kp_115 : Keep h0 h_10 [] := (((((Keep.refl h0 []).ext E_4).wr W_6 (Or.inr sz_4)).wr W_8 (Or.inr sz_4)).wr W_10 (Or.inr sz_4))
   obtain ⟨_, _, ⟨T_112, L_112, k_112, n_112⟩, -, X_112, hSq_112, hgq_112, ⟨Lc_112, hQ_112, l_112, y_112, z_112, hCq_112⟩, st_112⟩ := callSS X_10 hx (y := y1_) hown (v_ hZ hw 5 rfl) (v_ hZ hw 6 rfl) (v_ hZ hw 2 rfl) (v_ hZ hw 7 rfl) (by decide) (backOfSH (W := 0) (rmmake0 l Z a0 hw [] (own_draw p1) (own_draw ((p1.toUInt32 >>> ((10 : Int32) &&& 31).toUInt32).toInt32)) (own_draw ((p1.toUInt32 >>> ((20 : Int32) &&& 31).toUInt32).toInt32))  h_10 n0 Zs_113) hZ (w_ hw 7 rfl) (w_ hw 2 rfl) (by decide) (by decide) hEL (hC0.keep Kp_115 sf0)) (g := (mkF m 77 #[iv p1, iv p2, iv p3, iv p4, iv p5, iv p6, iv (own_draw p1), iv (own_draw ((p1.toUInt32 >>> ((10 : Int32) &&& 31).toUInt32).toInt32)), iv (own_draw ((p1.toUInt32 >>> ((20 : Int32) &&& 31).toUInt32).toInt32)), rv b_4, iv 0, iv 1, iv (((p2.toUInt32 >>> ((3 : Int32) &&& 31).toUInt32).toInt32) &&& (3 : Int32)), .unset, .unset, .unset, .unset, .unset, .unset] [(.int (own_draw ((p1.toUInt32 >>> ((20 : Int32) &&& 31).toUInt32).toInt32))), (.int (own_draw ((p1.toUInt32 >>> ((10 : Int32) &&& 31).toUInt32).toInt32))), (.int (own_draw p1)), (.int 0)])) rfl (by rw [hml]; rfl) (argsL := [(.int 0), (.int (own_draw p1)), (.int (own_draw ((p1.toUInt32 >>> ((10 : Int32) &&& 31).toUInt32).toInt32))), (.int (own_draw ((p1.toUInt32 >>> ((20 : Int32) &&& 31).toUInt32).toInt32)))]) (rest := []) (lenOf pd_15 rfl) rfl (z_ rfl) (hb hby at_77) (fun _ _ => ⟨rfl, e_10, (by decide : 1 + 6 ≤ _), (by decide : 3 + 12 ≤ _)⟩)
   dsimp only [Pt.U, Pt.locs, Pt.cells, Pt.slots] at X_112 l_112 y_112 z_112 st_112 hQ_112 hSq_112 hgq_112 hCq_112
   subst l_112 y_112 z_112
   obtain ⟨Xr_112, hSr_112, hZr_112, hownr_112⟩ := rebS hS0 (Nat.le_trans Ks_114 (Nat.le_of_eq (congrArg Array.size (e_10).symm))) X_112 hSq_112 hgq_112 hZ hown
   obtain ⟨b__112, t__112, kt__112, rfl, Nq_112, K_112, gq_112_b, sq_112_b, Fq_112_0, Fq_112_1, Fq_112_2, Fq_112_3⟩ := hQ_112
   have N_112 := Fr.app N_10 Nq_112
   have szq_112_b : h0.size ≤ b__112 := Nat.le_trans Kp_115.1 sq_112_b
   refine own_tr st_112 ?_
   show own_Go _ _ _ _ (T_112.setTop (mkF m 80 #[iv p1, iv p2, iv p3, iv p4, iv p5, iv p6, iv (own_draw p1), iv (own_draw ((p1.toUInt32 >>> ((10 : Int32) &&& 31).toUInt32).toInt32)), iv (own_draw ((p1.toUInt32 >>> ((20 : Int32) &&& 31).toUInt32).toInt32)), rv b_4, iv 0, iv 1, iv (((p2.toUInt32 >>> ((3 : Int32) &&& 31).toUInt32).toInt32) &&& (3 : Int32)), .unset, .unset, .unset, .unset, .unset, .unset] [(.ref b__112)]))
   refine o_astore Xr_112 Hq at_80 rfl (l' := #[iv p1, iv p2, iv p3, iv p4, iv p5, iv p6, iv (own_draw p1), iv (own_draw ((p1.toUInt32 >>> ((10 : Int32) &&& 31).toUInt32).toInt32)), iv (own_draw ((p1.toUInt32 >>> ((20 : Int32) &&& 31).toUInt32).toInt32)), rv b_4, iv 0, iv 1, iv (((p2.toUInt32 >>> ((3 : Int32) &&& 31).toUInt32).toInt32) &&& (3 : Int32)), rv b__112, .unset, .unset, .unset, .unset, .unset]) rfl ?_
   have Zs_116 : n0 ≤ T_112.heap.size := (Nat.le_trans Zs_113 K_112.1)
   have Kp_117 : Keep h0 T_112.heap [] := (Kp_115.trans K_112 all0)
   obtain ⟨T_118, h_118, X_118, e_118, E_118, A_118, D_118, -, st_118⟩ := newO Xr_112 hx hZr_112 hownr_112 (w_ hw 37 rfl) (w_ hw 38 rfl) (w_ hw 39 rfl) rfl (g := (mkF m 82 #[iv p1, iv p2, iv p3, iv p4, iv p5, iv p6, iv (own_draw p1), iv (own_draw ((p1.toUInt32 >>> ((10 : Int32) &&& 31).toUInt32).toInt32)), iv (own_draw ((p1.toUInt32 >>> ((20 : Int32) &&& 31).toUInt32).toInt32)), rv b_4, iv 0, iv 1, iv (((p2.toUInt32 >>> ((3 : Int32) &&& 31).toUInt32).toInt32) &&& (3 : Int32)), rv b__112, .unset, .unset, .unset, .unset, .unset] [])) rfl (hb hby at_82) (by decide) (by decide)
   obtain ⟨b_118, g_118⟩ : ∃ z, z = T_112.heap.size := ⟨_, rfl⟩
   rw [← g_118] at A_118 D_118 st_118
   have gg_118 : n0 ≤ b_118 := Nat.le_trans Zs_116 (Nat.le_of_eq g_118.symm)
   have sz_118 : h0.size ≤ b_118 := Nat.le_trans Kp_117.1 (Nat.le_of_eq g_118.symm)
   have Fi_118_input : Fld Z h_118 b_118 "com/example/vernum/vernum/VersionScanner" "input" "Ljava/lang/String;" .null := D_118 (Or.inr (w_ hw 45 rfl)) (ty := (.object "java/lang/String")) (by decide)
   have Fi_118_end : Fld Z h_118 b_118 "com/example/vernum/vernum/VersionScanner" "end" "I" (.int (0 : Int32)) := D_118 (Or.inl (w_ hw 57 rfl)) (ty := .int) (by decide)
   have Fi_118_position : Fld Z h_118 b_118 "com/example/vernum/vernum/VersionScanner" "position" "I" (.int (0 : Int32)) := D_118 (Or.inl (w_ hw 64 rfl)) (ty := .int) (by decide)
   have Fi_118_peeked : Fld Z h_118 b_118 "com/example/vernum/vernum/VersionScanner" "peeked" "I" (.int (0 : Int32)) := D_118 (Or.inl (w_ hw 104 rfl)) (ty := .int) (by decide)
   refine own_st st_118 ?_
   show own_Go _ _ _ _ (T_118.setTop (mkF m 85 #[iv p1, iv p2, iv p3, iv p4, iv p5, iv p6, iv (own_draw p1), iv (own_draw ((p1.toUInt32 >>> ((10 : Int32) &&& 31).toUInt32).toInt32)), iv (own_draw ((p1.toUInt32 >>> ((20 : Int32) &&& 31).toUInt32).toInt32)), rv b_4, iv 0, iv 1, iv (((p2.toUInt32 >>> ((3 : Int32) &&& 31).toUInt32).toInt32) &&& (3 : Int32)), rv b__112, .unset, .unset, .unset, .unset, .unset] [(.ref b_118)]))
   refine o_dup X_118 Hq at_85 rfl (o_aload X_118 Hq at_86 rfl rfl ?_)
   have Fa_120 := (Fq_112_0.ext E_118)
   have Fa_121 := (Fq_112_1.ext E_118)
   have Fa_122 := (Fq_112_2.ext E_118)
   have Fa_123 := (Fq_112_3.ext E_118)
   have Fa_124 := ((own_Sta_keep ((((S1.ext E_4).wr W_6).wr W_8).wr W_10) K_112 ns0).ext E_118)
   have Zs_125 : n0 ≤ h_118.size := (Nat.le_trans Zs_116 E_118.1)
   refine c_I1v X_118 Hq e_118 hZr_112 hownr_112 hml (k0_28 hw) (rm9 hw b_118 b__112 t__112 kt__112 (0 : Int32) [] (.int (0 : Int32)) w h_118 n0 Zs_125 A_118 gg_118 Fi_118_input Fi_118_end Fi_118_position Fi_118_peeked (Nat.ne_of_lt (Nat.lt_of_lt_of_le Fq_112_0.lt (Nat.le_of_eq g_118.symm))) (Nat.ne_of_lt (Nat.lt_of_lt_of_le Fq_112_3.lt (Nat.le_of_eq g_118.symm))) Fa_120 Fa_121 Fa_122 Fa_123 Fa_124 hw0) at_88 ?_ 1
   rintro T_119 L_119 X_119 ⟨-, Nq_119, K_119, Fq_119_0, Fq_119_1, Fq_119_2, Fq_119_3⟩
   have N_119 := Fr.app N_112 Nq_119
   refine o_astore X_119 Hq at_91 rfl (l' := #[iv p1, iv p2, iv p3, iv p4, iv p5, iv p6, iv (own_draw p1), iv (own_draw ((p1.toUInt32 >>> ((10 : Int32) &&& 31).toUInt32).toInt32)), iv (own_draw ((p1.toUInt32 >>> ((20 : Int32) &&& 31).toUInt32).toInt32)), rv b_4, iv 0, iv 1, iv (((p2.toUInt32 >>> ((3 : Int32) &&& 31).toUInt32).toInt32) &&& (3 : Int32)), rv b__112, rv b_118, .unset, .unset, .unset, .unset]) rfl (o_iconst X_119 Hq 0 at_93 rfl (o_istore X_119 Hq at_94 (l' := #[iv p1, iv p2, iv p3, iv p4, iv p5, iv p6, iv (own_draw p1), iv (own_draw ((p1.toUInt32 >>> ((10 : Int32) &&& 31).toUInt32).toInt32)), iv (own_draw ((p1.toUInt32 >>> ((20 : Int32) &&& 31).toUInt32).toInt32)), rv b_4, iv 0, iv 1, iv (((p2.toUInt32 >>> ((3 : Int32) &&& 31).toUInt32).toInt32) &&& (3 : Int32)), rv b__112, rv b_118, iv 0, .unset, .unset, .unset]) rfl (o_iload X_119 Hq at_96 rfl (o_istore X_119 Hq at_98 (l' := #[iv p1, iv p2, iv p3, iv p4, iv p5, iv p6, iv (own_draw p1), iv (own_draw ((p1.toUInt32 >>> ((10 : Int32) &&& 31).toUInt32).toInt32)), iv (own_draw ((p1.toUInt32 >>> ((20 : Int32) &&& 31).toUInt32).toInt32)), rv b_4, iv 0, iv 1, iv (((p2.toUInt32 >>> ((3 : Int32) &&& 31).toUInt32).toInt32) &&& (3 : Int32)), rv b__112, rv b_118, iv 0, iv 0, .unset, .unset]) rfl (o_iload X_119 Hq at_100 rfl (o_ifNo X_119 Hq at_102 (by decide) (o_aload X_119 Hq at_105 rfl rfl ?_)))))))
   have Fa_127 := (A_118.keep K_119)
   have Fa_128 := (Fa_120.keep K_119)
   have Fa_129 := (Fa_121.keep K_119 (ninS (Nat.ne_of_lt (Nat.lt_of_lt_of_le Fq_112_0.lt (Nat.le_of_eq g_118.symm))) nin0))
   have Fa_130 := (Fa_122.keep K_119 (ninS (Nat.ne_of_lt (Nat.lt_of_lt_of_le Fq_112_0.lt (Nat.le_of_eq g_118.symm))) nin0))
   have Fa_131 := (Fa_123.keep K_119 (ninS (Nat.ne_of_lt (Nat.lt_of_lt_of_le Fq_112_3.lt (Nat.le_of_eq g_118.symm))) nin0))
   have Fa_132 := (own_Sta_keep Fa_124 K_119 (nsS (A_118.nostat) ns0))
   have Fa_133 := (own_Sta_keep ((own_Sta_keep ((((S2.ext E_4).wr W_6).wr W_8).wr W_10) K_112 ns0).ext E_118) K_119 (nsS (A_118.nostat) ns0))
   have Zs_134 : n0 ≤ T_119.heap.size := (Nat.le_trans Zs_125 K_119.1)
   refine c_U0v X_119 Hq rfl hZr_112 hownr_112 hml (k0_31U1 hw) (rmtrim0_ hw b_118 b__112 t__112 kt__112 [] (.int (0 : Int32)) w sfv (own_f (own_draw p1) (own_draw ((p1.toUInt32 >>> ((10 : Int32) &&& 31).toUInt32).toInt32)) (own_draw ((p1.toUInt32 >>> ((20 : Int32) &&& 31).toUInt32).toInt32))) T_119.heap n0 Zs_134 Fa_127 gg_118 Fq_119_0 Fq_119_1 Fq_119_2 Fq_119_3 (Nat.ne_of_lt (Nat.lt_of_lt_of_le Fq_112_0.lt (Nat.le_of_eq g_118.symm))) (Nat.ne_of_lt (Nat.lt_of_lt_of_le Fq_112_3.lt (Nat.le_of_eq g_118.symm))) Fa_128 Fa_129 Fa_130 Fa_131 Fa_132 hw0 (own_fat0 _ _ _) (own_fbd (own_drb _) (own_drb _) (own_drb _)) Fa_133 hsf) Fa_127 at_107 ?_ 0
   rintro T_126 L_126 X_126 ⟨-, Nq_126, K_126, Fq_126_0, Fq_126_1, Fq_126_2⟩
   have N_126 := Fr.app N_119 Nq_126
   refine o_iconst X_126 Hq 0 at_110 rfl (o_istore X_126 Hq at_111 (l' := #[iv p1, iv p2, iv p3, iv p4, iv p5, iv p6, iv (own_draw p1), iv (own_draw ((p1.toUInt32 >>> ((10 : Int32) &&& 31).toUInt32).toInt32)), iv (own_draw ((p1.toUInt32 >>> ((20 : Int32) &&& 31).toUInt32).toInt32)), rv b_4, iv 0, iv 1, iv (((p2.toUInt32 >>> ((3 : Int32) &&& 31).toUInt32).toInt32) &&& (3 : Int32)), rv b__112, rv b_118, iv 0, iv 0, iv 0, .unset]) rfl (o_iload X_126 Hq at_113 rfl (o_iconst X_126 Hq 1 at_115 rfl (o_icmpYes X_126 Hq (pc' := 161) at_116 (by decide) (o_iload X_126 Hq at_161 rfl (o_istore X_126 Hq at_163 (l' := #[iv p1, iv p2, iv p3, iv p4, iv p5, iv p6, iv (own_draw p1), iv (own_draw ((p1.toUInt32 >>> ((10 : Int32) &&& 31).toUInt32).toInt32)), iv (own_draw ((p1.toUInt32 >>> ((20 : Int32) &&& 31).toUInt32).toInt32)), rv b_4, iv 0, iv 1, iv (((p2.toUInt32 >>> ((3 : Int32) &&& 31).toUInt32).toInt32) &&& (3 : Int32)), rv b__112, rv b_118, iv 0, iv 0, iv 0, iv 0]) rfl (o_iload X_126 Hq at_165 rfl (o_iload X_126 Hq at_167 rfl (o_icmpYes X_126 Hq (pc' := 231) at_169 (by decide) (o_iload X_126 Hq at_231 rfl (o_istore X_126 Hq at_233 (l' := #[iv p1, iv p2, iv p3, iv p4, iv p5, iv p6, iv (own_draw p1), iv (own_draw ((p1.toUInt32 >>> ((10 : Int32) &&& 31).toUInt32).toInt32)), iv (own_draw ((p1.toUInt32 >>> ((20 : Int32) &&& 31).toUInt32).toInt32)), rv b_4, iv 0, iv 1, iv (((p2.toUInt32 >>> ((3 : Int32) &&& 31).toUInt32).toInt32) &&& (3 : Int32)), rv b__112, rv b_118, iv 0, iv 0, iv 0, iv 0]) rfl (o_iload X_126 Hq at_235 rfl (o_istore X_126 Hq at_237 (l' := #[iv p1, iv p2, iv p3, iv p4, iv p5, iv p6, iv (own_draw p1), iv (own_draw ((p1.toUInt32 >>> ((10 : Int32) &&& 31).toUInt32).toInt32)), iv (own_draw ((p1.toUInt32 >>> ((20 : Int32) &&& 31).toUInt32).toInt32)), rv b_4, iv 0, iv 1, iv (((p2.toUInt32 >>> ((3 : Int32) &&& 31).toUInt32).toInt32) &&& (3 : Int32)), rv b__112, rv b_118, iv 0, iv 0, iv 0, iv 0]) rfl ?_)))))))))))))
   have Fa_135 := (Fa_127.keep K_126)
   have Fa_136 := ((((V_10.keep K_112 nin0).ext E_118).keep K_119 (ninS (Nat.ne_of_lt (Nat.lt_of_lt_of_le (V_10.keep K_112 nin0).lt (Nat.le_of_eq g_118.symm))) nin0)).keep K_126 (ninS (Nat.ne_of_lt (Nat.lt_of_lt_of_le (V_10.keep K_112 nin0).lt (Nat.le_of_eq g_118.symm))) nin0))
   have Fa_137 := (Fa_128.keep K_126)
   have Fa_138 := (Fa_129.keep K_126 (ninS (Nat.ne_of_lt (Nat.lt_of_lt_of_le Fq_112_0.lt (Nat.le_of_eq g_118.symm))) nin0))
   have Fa_139 := (Fa_130.keep K_126 (ninS (Nat.ne_of_lt (Nat.lt_of_lt_of_le Fq_112_0.lt (Nat.le_of_eq g_118.symm))) nin0))
   have Fa_140 := (Fa_131.keep K_126 (ninS (Nat.ne_of_lt (Nat.lt_of_lt_of_le Fq_112_3.lt (Nat.le_of_eq g_118.symm))) nin0))
   have Fa_141 := (own_Sta_keep Fa_132 K_126 (nsS (Fa_127.nostat) ns0))
   have Fa_142 := (own_Sta_keep Fa_133 K_126 (nsS (Fa_127.nostat) ns0))
   have Zs_143 : n0 ≤ T_126.heap.size := (Nat.le_trans Zs_134 K_126.1)
   have Kp_144 : Keep h0 T_126.heap [] := (((Kp_117.ext E_118).trans K_119 (allS (Or.inr sz_118) all0)).trans K_126 (allS (Or.inr sz_118) all0))
   have Ks_145 := (Nat.le_trans (Nat.le_trans (Nat.le_trans (Nat.le_refl T_112.heap.size) E_118.1) K_119.1) K_126.1)
   exact own_tail p1 p2 p3 p4 p5 p6 w sfv (own_draw p1) (own_draw ((p1.toUInt32 >>> ((10 : Int32) &&& 31).toUInt32).toInt32)) (own_draw ((p1.toUInt32 >>> ((20 : Int32) &&& 31).toUInt32).toInt32)) (0 : Int32) (1 : Int32) (((p2.toUInt32 >>> ((3 : Int32) &&& 31).toUInt32).toInt32) &&& (3 : Int32)) (0 : Int32) (0 : Int32) (0 : Int32) b_118 b_4 b__112 t__112 k_4 [(.int (own_draw p1)), (.int (own_draw ((p1.toUInt32 >>> ((10 : Int32) &&& 31).toUInt32).toInt32))), (.int (own_draw ((p1.toUInt32 >>> ((20 : Int32) &&& 31).toUInt32).toInt32)))] (.int (0 : Int32)) kt__112 [] (.int (0 : Int32)) (own_f (own_draw p1) (own_draw ((p1.toUInt32 >>> ((10 : Int32) &&& 31).toUInt32).toInt32)) (own_draw ((p1.toUInt32 >>> ((20 : Int32) &&& 31).toUInt32).toInt32))) _ _ X_126 hx hZr_112 hw hby hml hownr_112 Bd.returns hlk rfl N_126 Zs_143 Kp_144 hSr_112 Ks_145 (by decide) (by decide) Fa_135 gg_118 sz_118 Fq_126_0 Fq_126_1 Fq_126_2 Fa_136 Fa_137 Fa_138 Fa_139 Fa_140 Fa_141 Fa_142 (Nat.ne_of_lt (Nat.lt_of_lt_of_le Fq_112_0.lt (Nat.le_of_eq g_118.symm))) (Nat.ne_of_lt (Nat.lt_of_lt_of_le Fq_112_3.lt (Nat.le_of_eq g_118.symm))) (Nat.ne_of_lt (Nat.lt_of_lt_of_le (V_10.keep K_112 nin0).lt (Nat.le_of_eq g_118.symm))) hw0 hsf (own_fcs _ _ _) (own_fat0 _ _ _) (own_fbd (own_drb _) (own_drb _) (own_drb _)) (by decide) (by decide) (by decide) (by decide)
  ·rw [hN]
   show own_Go _ _ _ _ (T_10.setTop (mkF m 69 #[iv p1, iv p2, iv p3, iv p4, iv p5, iv p6, iv (own_draw p1), iv (own_draw ((p1.toUInt32 >>> ((10 : Int32) &&& 31).toUInt32).toInt32)), iv (own_draw ((p1.toUInt32 >>> ((20 : Int32) &&& 31).toUInt32).toInt32)), rv b_4, iv 1, iv 1, iv (((p2.toUInt32 >>> ((3 : Int32) &&& 31).toUInt32).toInt32) &&& (3 : Int32)), .unset, .unset, .unset, .unset, .unset, .unset] []))
   refine o_iload X_10 Hq at_69 rfl (o_iload X_10 Hq at_71 rfl (o_iload X_10 Hq at_73 rfl (o_iload X_10 Hq at_75 rfl ?_)))
   have Fa_147 := ((((S1.ext E_4).wr W_6).wr W_8).wr W_10)
   have Zs_148 : n0 ≤ h_10.size := (Nat.le_trans (Nat.le_trans (Nat.le_trans (Nat.le_trans Z0 E_4.1) (Keep.of_wr W_6).1) (Keep.of_wr W_8).1) (Keep.of_wr W_10).1)
   refine c_S4 X_10 Hq e_10 hZ hown hml (k0_24 hw) (rmmake1 hw (own_draw p1) (own_draw ((p1.toUInt32 >>> ((10 : Int32) &&& 31).toUInt32).toInt32)) (own_draw ((p1.toUInt32 >>> ((20 : Int32) &&& 31).toUInt32).toInt32)) w h_10 n0 Zs_148 Fa_147 hw0 (own_drn _) (own_drb _).1) at_77 ?_ 0
   rintro T_146 L_146 _ X_146 ⟨b__146, t__146, kt__146, ⟨⟩, Nq_146, K_146, gq_146_b, sq_146_b, Fq_146_0, Fq_146_1, Fq_146_2, Fq_146_3⟩
   have N_146 := Fr.app N_10 Nq_146
   have Kp_149 : Keep h0 h_10 [] := (((((Keep.refl h0 []).ext E_4).wr W_6 (Or.inr sz_4)).wr W_8 (Or.inr sz_4)).wr W_10 (Or.inr sz_4))
   have szq_146_b : h0.size ≤ b__146 := Nat.le_trans Kp_149.1 sq_146_b
   refine o_astore X_146 Hq at_80 rfl (l' := #[iv p1, iv p2, iv p3, iv p4, iv p5, iv p6, iv (own_draw p1), iv (own_draw ((p1.toUInt32 >>> ((10 : Int32) &&& 31).toUInt32).toInt32)), iv (own_draw ((p1.toUInt32 >>> ((20 : Int32) &&& 31).toUInt32).toInt32)), rv b_4, iv 1, iv 1, iv (((p2.toUInt32 >>> ((3 : Int32) &&& 31).toUInt32).toInt32) &&& (3 : Int32)), rv b__146, .unset, .unset, .unset, .unset, .unset]) rfl ?_
   have Zs_150 : n0 ≤ T_146.heap.size := (Nat.le_trans Zs_148 K_146.1)
   have Kp_151 : Keep h0 T_146.heap [] := (Kp_149.trans K_146 all0)
   obtain ⟨T_152, h_152, X_152, e_152, E_152, A_152, D_152, -, st_152⟩ := newO X_146 hx hZ hown (w_ hw 37 rfl) (w_ hw 38 rfl) (w_ hw 39 rfl) rfl (g := (mkF m 82 #[iv p1, iv p2, iv p3, iv p4, iv p5, iv p6, iv (own_draw p1), iv (own_draw ((p1.toUInt32 >>> ((10 : Int32) &&& 31).toUInt32).toInt32)), iv (own_draw ((p1.toUInt32 >>> ((20 : Int32) &&& 31).toUInt32).toInt32)), rv b_4, iv 1, iv 1, iv (((p2.toUInt32 >>> ((3 : Int32) &&& 31).toUInt32).toInt32) &&& (3 : Int32)), rv b__146, .unset, .unset, .unset, .unset, .unset] [])) rfl (hb hby at_82) (by decide) (by decide)
   obtain ⟨b_152, g_152⟩ : ∃ z, z = T_146.heap.size := ⟨_, rfl⟩
   rw [← g_152] at A_152 D_152 st_152
   have gg_152 : n0 ≤ b_152 := Nat.le_trans Zs_150 (Nat.le_of_eq g_152.symm)
   have sz_152 : h0.size ≤ b_152 := Nat.le_trans Kp_151.1 (Nat.le_of_eq g_152.symm)
   have Fi_152_input : Fld Z h_152 b_152 "com/example/vernum/vernum/VersionScanner" "input" "Ljava/lang/String;" .null := D_152 (Or.inr (w_ hw 45 rfl)) (ty := (.object "java/lang/String")) (by decide)
   have Fi_152_end : Fld Z h_152 b_152 "com/example/vernum/vernum/VersionScanner" "end" "I" (.int (0 : Int32)) := D_152 (Or.inl (w_ hw 57 rfl)) (ty := .int) (by decide)
   have Fi_152_position : Fld Z h_152 b_152 "com/example/vernum/vernum/VersionScanner" "position" "I" (.int (0 : Int32)) := D_152 (Or.inl (w_ hw 64 rfl)) (ty := .int) (by decide)
   have Fi_152_peeked : Fld Z h_152 b_152 "com/example/vernum/vernum/VersionScanner" "peeked" "I" (.int (0 : Int32)) := D_152 (Or.inl (w_ hw 104 rfl)) (ty := .int) (by decide)
   refine own_st st_152 ?_
   show own_Go _ _ _ _ (T_152.setTop (mkF m 85 #[iv p1, iv p2, iv p3, iv p4, iv p5, iv p6, iv (own_draw p1), iv (own_draw ((p1.toUInt32 >>> ((10 : Int32) &&& 31).toUInt32).toInt32)), iv (own_draw ((p1.toUInt32 >>> ((20 : Int32) &&& 31).toUInt32).toInt32)), rv b_4, iv 1, iv 1, iv (((p2.toUInt32 >>> ((3 : Int32) &&& 31).toUInt32).toInt32) &&& (3 : Int32)), rv b__146, .unset, .unset, .unset, .unset, .unset] [(.ref b_152)]))
   refine o_dup X_152 Hq at_85 rfl (o_aload X_152 Hq at_86 rfl rfl ?_)
   have Fa_154 := (Fq_146_0.ext E_152)
   have Fa_155 := (Fq_146_1.ext E_152)
   have Fa_156 := (Fq_146_2.ext E_152)
   have Fa_157 := (Fq_146_3.ext E_152)
   have Fa_158 := ((own_Sta_keep Fa_147 K_146 ns0).ext E_152)
   have Zs_159 : n0 ≤ h_152.size := (Nat.le_trans Zs_150 E_152.1)
   refine c_I1v X_152 Hq e_152 hZ hown hml (k0_28 hw) (rm9 hw b_152 b__146 t__146 kt__146 (1 : Int32) [(.int (((own_draw p1).toInt8.toInt32).toInt8.toInt32))] (.int (0 : Int32)) w h_152 n0 Zs_159 A_152 gg_152 Fi_152_input Fi_152_end Fi_152_position Fi_152_peeked (Nat.ne_of_lt (Nat.lt_of_lt_of_le Fq_146_0.lt (Nat.le_of_eq g_152.symm))) (Nat.ne_of_lt (Nat.lt_of_lt_of_le Fq_146_3.lt (Nat.le_of_eq g_152.symm))) Fa_154 Fa_155 Fa_156 Fa_157 Fa_158 hw0) at_88 ?_ 1
   rintro T_153 L_153 X_153 ⟨-, Nq_153, K_153, Fq_153_0, Fq_153_1, Fq_153_2, Fq_153_3⟩
   have N_153 := Fr.app N_146 Nq_153
   refine o_astore X_153 Hq at_91 rfl (l' := #[iv p1, iv p2, iv p3, iv p4, iv p5, iv p6, iv (own_draw p1), iv (own_draw ((p1.toUInt32 >>> ((10 : Int32) &&& 31).toUInt32).toInt32)), iv (own_draw ((p1.toUInt32 >>> ((20 : Int32) &&& 31).toUInt32).toInt32)), rv b_4, iv 1, iv 1, iv (((p2.toUInt32 >>> ((3 : Int32) &&& 31).toUInt32).toInt32) &&& (3 : Int32)), rv b__146, rv b_152, .unset, .unset, .unset, .unset]) rfl (o_iconst X_153 Hq 0 at_93 rfl (o_istore X_153 Hq at_94 (l' := #[iv p1, iv p2, iv p3, iv p4, iv p5, iv p6, iv (own_draw p1), iv (own_draw ((p1.toUInt32 >>> ((10 : Int32) &&& 31).toUInt32).toInt32)), iv (own_draw ((p1.toUInt32 >>> ((20 : Int32) &&& 31).toUInt32).toInt32)), rv b_4, iv 1, iv 1, iv (((p2.toUInt32 >>> ((3 : Int32) &&& 31).toUInt32).toInt32) &&& (3 : Int32)), rv b__146, rv b_152, iv 0, .unset, .unset, .unset]) rfl (o_iload X_153 Hq at_96 rfl (o_istore X_153 Hq at_98 (l' := #[iv p1, iv p2, iv p3, iv p4, iv p5, iv p6, iv (own_draw p1), iv (own_draw ((p1.toUInt32 >>> ((10 : Int32) &&& 31).toUInt32).toInt32)), iv (own_draw ((p1.toUInt32 >>> ((20 : Int32) &&& 31).toUInt32).toInt32)), rv b_4, iv 1, iv 1, iv (((p2.toUInt32 >>> ((3 : Int32) &&& 31).toUInt32).toInt32) &&& (3 : Int32)), rv b__146, rv b_152, iv 0, iv 1, .unset, .unset]) rfl (o_iload X_153 Hq at_100 rfl (o_ifNo X_153 Hq at_102 (by decide) ?_))))))
   by_cases ht0 : (32 : Int32) < (own_draw p1)
   ·refine o_aload X_153 Hq at_105 rfl rfl ?_
    have Fa_161 := (A_152.keep K_153)
    have Fa_162 := (Fa_154.keep K_153)
    have Fa_163 := (Fa_155.keep K_153 (ninS (Nat.ne_of_lt (Nat.lt_of_lt_of_le Fq_146_0.lt (Nat.le_of_eq g_152.symm))) nin0))
    have Fa_164 := (Fa_156.keep K_153 (ninS (Nat.ne_of_lt (Nat.lt_of_lt_of_le Fq_146_0.lt (Nat.le_of_eq g_152.symm))) nin0))
    have Fa_165 := (Fa_157.keep K_153 (ninS (Nat.ne_of_lt (Nat.lt_of_lt_of_le Fq_146_3.lt (Nat.le_of_eq g_152.symm))) nin0))
    have Fa_166 := (own_Sta_keep Fa_158 K_153 (nsS (A_152.nostat) ns0))
    have Fa_167 := (own_Sta_keep ((own_Sta_keep ((((S2.ext E_4).wr W_6).wr W_8).wr W_10) K_146 ns0).ext E_152) K_153 (nsS (A_152.nostat) ns0))
    have Zs_168 : n0 ≤ T_153.heap.size := (Nat.le_trans Zs_159 K_153.1)
    refine c_U0v X_153 Hq rfl hZ hown hml (k0_31U1 hw) (rmtrim1_t hw b_152 b__146 t__146 kt__146 [(.int (((own_draw p1).toInt8.toInt32).toInt8.toInt32))] (.int (0 : Int32)) w sfv (own_f (own_draw p1) (own_draw ((p1.toUInt32 >>> ((10 : Int32) &&& 31).toUInt32).toInt32)) (own_draw ((p1.toUInt32 >>> ((20 : Int32) &&& 31).toUInt32).toInt32))) T_153.heap n0 Zs_168 Fa_161 gg_152 Fq_153_0 Fq_153_1 Fq_153_2 Fq_153_3 (Nat.ne_of_lt (Nat.lt_of_lt_of_le Fq_146_0.lt (Nat.le_of_eq g_152.symm))) (Nat.ne_of_lt (Nat.lt_of_lt_of_le Fq_146_3.lt (Nat.le_of_eq g_152.symm))) Fa_162 Fa_163 Fa_164 Fa_165 Fa_166 hw0 (own_fat1 _ _ _) (own_fbd (own_drb _) (own_drb _) (own_drb _)) Fa_167 hsf ht0) Fa_161 at_107 ?_ 0
    rintro T_160 L_160 X_160 ⟨-, Nq_160, K_160, Fq_160_0, Fq_160_1, Fq_160_2⟩
    have N_160 := Fr.app N_153 Nq_160
    refine o_iconst X_160 Hq 0 at_110 rfl (o_istore X_160 Hq at_111 (l' := #[iv p1, iv p2, iv p3, iv p4, iv p5, iv p6, iv (own_draw p1), iv (own_draw ((p1.toUInt32 >>> ((10 : Int32) &&& 31).toUInt32).toInt32)), iv (own_draw ((p1.toUInt32 >>> ((20 : Int32) &&& 31).toUInt32).toInt32)), rv b_4, iv 1, iv 1, iv (((p2.toUInt32 >>> ((3 : Int32) &&& 31).toUInt32).toInt32) &&& (3 : Int32)), rv b__146, rv b_152, iv 0, iv 1, iv 0, .unset]) rfl (o_iload X_160 Hq at_113 rfl (o_iconst X_160 Hq 1 at_115 rfl (o_icmpNo X_160 Hq at_116 (by decide) (o_iload X_160 Hq at_119 rfl (o_bipush X_160 Hq 32 at_121 rfl (o_icmpYes X_160 Hq (pc' := 161) at_123 (tlt ht0).2.2.1 (o_iload X_160 Hq at_161 rfl (o_istore X_160 Hq at_163 (l' := #[iv p1, iv p2, iv p3, iv p4, iv p5, iv p6, iv (own_draw p1), iv (own_draw ((p1.toUInt32 >>> ((10 : Int32) &&& 31).toUInt32).toInt32)), iv (own_draw ((p1.toUInt32 >>> ((20 : Int32) &&& 31).toUInt32).toInt32)), rv b_4, iv 1, iv 1, iv (((p2.toUInt32 >>> ((3 : Int32) &&& 31).toUInt32).toInt32) &&& (3 : Int32)), rv b__146, rv b_152, iv 0, iv 1, iv 0, iv 1]) rfl (o_iload X_160 Hq at_165 rfl (o_iload X_160 Hq at_167 rfl (o_icmpNo X_160 Hq at_169 (by decide) (o_aload X_160 Hq at_172 rfl rfl (o_iload X_160 Hq at_174 rfl (o_iconst X_160 Hq 1 at_176 rfl ?_)))))))))))))))
    refine o_isub X_160 Hq at_177 ?_
    show own_Go _ _ _ _ (T_160.setTop (mkF m 178 #[iv p1, iv p2, iv p3, iv p4, iv p5, iv p6, iv (own_draw p1), iv (own_draw ((p1.toUInt32 >>> ((10 : Int32) &&& 31).toUInt32).toInt32)), iv (own_draw ((p1.toUInt32 >>> ((20 : Int32) &&& 31).toUInt32).toInt32)), rv b_4, iv 1, iv 1, iv (((p2.toUInt32 >>> ((3 : Int32) &&& 31).toUInt32).toInt32) &&& (3 : Int32)), rv b__146, rv b_152, iv 0, iv 1, iv 0, iv 1] [(.int 0), (.ref b_4)]))
    have Fa_169 := ((((V_10.keep K_146 nin0).ext E_152).keep K_153 (ninS (Nat.ne_of_lt (Nat.lt_of_lt_of_le (V_10.keep K_146 nin0).lt (Nat.le_of_eq g_152.symm))) nin0)).keep K_160 (ninS (Nat.ne_of_lt (Nat.lt_of_lt_of_le (V_10.keep K_146 nin0).lt (Nat.le_of_eq g_152.symm))) nin0))
    obtain ⟨cl_170, Ar_170, qk_170, Sz_170, Ng_170, Hs_170, Gs_170⟩ := id Fa_169
    refine own_st (X_160.caload hx (j := (0 : Int32)) (v := (.int (own_draw p1))) Ar_170.1 (State.isArrayOf_alike hZ.alike Ar_170.2.1) Ar_170.2.2 (inb_of Sz_170 ⟨by decide, by decide⟩) (Hs_170.at (j := (0 : Int32)) (inb_of Sz_170 ⟨by decide, by decide⟩) rfl) (g := (mkF m 178 #[iv p1, iv p2, iv p3, iv p4, iv p5, iv p6, iv (own_draw p1), iv (own_draw ((p1.toUInt32 >>> ((10 : Int32) &&& 31).toUInt32).toInt32)), iv (own_draw ((p1.toUInt32 >>> ((20 : Int32) &&& 31).toUInt32).toInt32)), rv b_4, iv 1, iv 1, iv (((p2.toUInt32 >>> ((3 : Int32) &&& 31).toUInt32).toInt32) &&& (3 : Int32)), rv b__146, rv b_152, iv 0, iv 1, iv 0, iv 1] [(.int 0), (.ref b_4)])) rfl rfl (hb hby at_178)) ?_
    show own_Go _ _ _ _ (T_160.setTop (mkF m 179 #[iv p1, iv p2, iv p3, iv p4, iv p5, iv p6, iv (own_draw p1), iv (own_draw ((p1.toUInt32 >>> ((10 : Int32) &&& 31).toUInt32).toInt32)), iv (own_draw ((p1.toUInt32 >>> ((20 : Int32) &&& 31).toUInt32).toInt32)), rv b_4, iv 1, iv 1, iv (((p2.toUInt32 >>> ((3 : Int32) &&& 31).toUInt32).toInt32) &&& (3 : Int32)), rv b__146, rv b_152, iv 0, iv 1, iv 0, iv 1] [(.int (own_draw p1))]))
    refine o_bipush X_160 Hq 32 at_179 rfl (o_icmpYes X_160 Hq (pc' := 231) at_181 (tlt ht0).2.2.1 (o_iload X_160 Hq at_231 rfl (o_istore X_160 Hq at_233 (l' := #[iv p1, iv p2, iv p3, iv p4, iv p5, iv p6, iv (own_draw p1), iv (own_draw ((p1.toUInt32 >>> ((10 : Int32) &&& 31).toUInt32).toInt32)), iv (own_draw ((p1.toUInt32 >>> ((20 : Int32) &&& 31).toUInt32).toInt32)), rv b_4, iv 1, iv 1, iv (((p2.toUInt32 >>> ((3 : Int32) &&& 31).toUInt32).toInt32) &&& (3 : Int32)), rv b__146, rv b_152, iv 0, iv 1, iv 0, iv 1]) rfl (o_iload X_160 Hq at_235 rfl (o_istore X_160 Hq at_237 (l' := #[iv p1, iv p2, iv p3, iv p4, iv p5, iv p6, iv (own_draw p1), iv (own_draw ((p1.toUInt32 >>> ((10 : Int32) &&& 31).toUInt32).toInt32)), iv (own_draw ((p1.toUInt32 >>> ((20 : Int32) &&& 31).toUInt32).toInt32)), rv b_4, iv 1, iv 1, iv (((p2.toUInt32 >>> ((3 : Int32) &&& 31).toUInt32).toInt32) &&& (3 : Int32)), rv b__146, rv b_152, iv 0, iv 1, iv 0, iv 1]) rfl ?_)))))
    have Fa_171 := (Fa_161.keep K_160)
    have Fa_172 := (Fa_162.keep K_160)
    have Fa_173 := (Fa_163.keep K_160 (ninS (Nat.ne_of_lt (Nat.lt_of_lt_of_le Fq_146_0.lt (Nat.le_of_eq g_152.symm))) nin0))
    have Fa_174 := (Fa_164.keep K_160 (ninS (Nat.ne_of_lt (Nat.lt_of_lt_of_le Fq_146_0.lt (Nat.le_of_eq g_152.symm))) nin0))
    have Fa_175 := (Fa_165.keep K_160 (ninS (Nat.ne_of_lt (Nat.lt_of_lt_of_le Fq_146_3.lt (Nat.le_of_eq g_152.symm))) nin0))
    have Fa_176 := (own_Sta_keep Fa_166 K_160 (nsS (Fa_161.nostat) ns0))
    have Fa_177 := (own_Sta_keep Fa_167 K_160 (nsS (Fa_161.nostat) ns0))
    have Zs_178 : n0 ≤ T_160.heap.size := (Nat.le_trans Zs_168 K_160.1)
    have Kp_179 : Keep h0 T_160.heap [] := (((Kp_151.ext E_152).trans K_153 (allS (Or.inr sz_152) all0)).trans K_160 (allS (Or.inr sz_152) all0))
    have Ks_180 := (Nat.le_trans (Nat.le_trans (Nat.le_trans (Nat.le_trans (Nat.le_trans (Nat.le_trans (Nat.le_trans (Nat.le_trans (Nat.le_refl h0.size) E_4.1) (Keep.of_wr W_6).1) (Keep.of_wr W_8).1) (Keep.of_wr W_10).1) K_146.1) E_152.1) K_153.1) K_160.1)
    exact own_tail p1 p2 p3 p4 p5 p6 w sfv (own_draw p1) (own_draw ((p1.toUInt32 >>> ((10 : Int32) &&& 31).toUInt32).toInt32)) (own_draw ((p1.toUInt32 >>> ((20 : Int32) &&& 31).toUInt32).toInt32)) (1 : Int32) (1 : Int32) (((p2.toUInt32 >>> ((3 : Int32) &&& 31).toUInt32).toInt32) &&& (3 : Int32)) (0 : Int32) (1 : Int32) (1 : Int32) b_152 b_4 b__146 t__146 k_4 [(.int (own_draw p1)), (.int (own_draw ((p1.toUInt32 >>> ((10 : Int32) &&& 31).toUInt32).toInt32))), (.int (own_draw ((p1.toUInt32 >>> ((20 : Int32) &&& 31).toUInt32).toInt32)))] (.int (0 : Int32)) kt__146 [(.int (((own_draw p1).toInt8.toInt32).toInt8.toInt32))] (.int (0 : Int32)) (own_f (own_draw p1) (own_draw ((p1.toUInt32 >>> ((10 : Int32) &&& 31).toUInt32).toInt32)) (own_draw ((p1.toUInt32 >>> ((20 : Int32) &&& 31).toUInt32).toInt32))) _ _ X_160 hx hZ hw hby hml hown Bd.returns hlk rfl N_160 Zs_178 Kp_179 hS0 Ks_180 (by decide) (by decide) Fa_171 gg_152 sz_152 Fq_160_0 Fq_160_1 Fq_160_2 Fa_169 Fa_172 Fa_173 Fa_174 Fa_175 Fa_176 Fa_177 (Nat.ne_of_lt (Nat.lt_of_lt_of_le Fq_146_0.lt (Nat.le_of_eq g_152.symm))) (Nat.ne_of_lt (Nat.lt_of_lt_of_le Fq_146_3.lt (Nat.le_of_eq g_152.symm))) (Nat.ne_of_lt (Nat.lt_of_lt_of_le (V_10.keep K_146 nin0).lt (Nat.le_of_eq g_152.symm))) hw0 hsf (own_fcs _ _ _) (own_fat1 _ _ _) (own_fbd (own_drb _) (own_drb _) (own_drb _)) (by decide) (by decide) (by decide) (by decide)
   ·refine o_aload X_153 Hq at_105 rfl rfl ?_
    have Fa_182 := (A_152.keep K_153)
    have Fa_183 := (Fa_154.keep K_153)
    have Fa_184 := (Fa_155.keep K_153 (ninS (Nat.ne_of_lt (Nat.lt_of_lt_of_le Fq_146_0.lt (Nat.le_of_eq g_152.symm))) nin0))
    have Fa_185 := (Fa_156.keep K_153 (ninS (Nat.ne_of_lt (Nat.lt_of_lt_of_le Fq_146_0.lt (Nat.le_of_eq g_152.symm))) nin0))
    have Fa_186 := (Fa_157.keep K_153 (ninS (Nat.ne_of_lt (Nat.lt_of_lt_of_le Fq_146_3.lt (Nat.le_of_eq g_152.symm))) nin0))
    have Fa_187 := (own_Sta_keep Fa_158 K_153 (nsS (A_152.nostat) ns0))
    have Fa_188 := (own_Sta_keep ((own_Sta_keep ((((S2.ext E_4).wr W_6).wr W_8).wr W_10) K_146 ns0).ext E_152) K_153 (nsS (A_152.nostat) ns0))
    have Zs_189 : n0 ≤ T_153.heap.size := (Nat.le_trans Zs_159 K_153.1)
    refine c_U0v X_153 Hq rfl hZ hown hml (k0_31U1 hw) (rmtrim1_f hw b_152 b__146 t__146 kt__146 [(.int (((own_draw p1).toInt8.toInt32).toInt8.toInt32))] (.int (0 : Int32)) w sfv (own_f (own_draw p1) (own_draw ((p1.toUInt32 >>> ((10 : Int32) &&& 31).toUInt32).toInt32)) (own_draw ((p1.toUInt32 >>> ((20 : Int32) &&& 31).toUInt32).toInt32))) T_153.heap n0 Zs_189 Fa_182 gg_152 Fq_153_0 Fq_153_1 Fq_153_2 Fq_153_3 (Nat.ne_of_lt (Nat.lt_of_lt_of_le Fq_146_0.lt (Nat.le_of_eq g_152.symm))) (Nat.ne_of_lt (Nat.lt_of_lt_of_le Fq_146_3.lt (Nat.le_of_eq g_152.symm))) Fa_183 Fa_184 Fa_185 Fa_186 Fa_187 hw0 (own_fat1 _ _ _) (own_fbd (own_drb _) (own_drb _) (own_drb _)) Fa_188 hsf ht0) Fa_182 at_107 ?_ 0
    rintro T_181 L_181 X_181 ⟨-, Nq_181, K_181, Fq_181_0, Fq_181_1, Fq_181_2⟩
    have N_181 := Fr.app N_153 Nq_181
    refine o_iconst X_181 Hq 0 at_110 rfl (o_istore X_181 Hq at_111 (l' := #[iv p1, iv p2, iv p3, iv p4, iv p5, iv p6, iv (own_draw p1), iv (own_draw ((p1.toUInt32 >>> ((10 : Int32) &&& 31).toUInt32).toInt32)), iv (own_draw ((p1.toUInt32 >>> ((20 : Int32) &&& 31).toUInt32).toInt32)), rv b_4, iv 1, iv 1, iv (((p2.toUInt32 >>> ((3 : Int32) &&& 31).toUInt32).toInt32) &&& (3 : Int32)), rv b__146, rv b_152, iv 0, iv 1, iv 0, .unset]) rfl (o_iload X_181 Hq at_113 rfl (o_iconst X_181 Hq 1 at_115 rfl (o_icmpNo X_181 Hq at_116 (by decide) (o_iload X_181 Hq at_119 rfl (o_bipush X_181 Hq 32 at_121 rfl (o_icmpNo X_181 Hq at_123 (flt ht0).2.2.1 (o_iconst X_181 Hq 1 at_126 rfl (o_istore X_181 Hq at_127 (l' := #[iv p1, iv p2, iv p3, iv p4, iv p5, iv p6, iv (own_draw p1), iv (own_draw ((p1.toUInt32 >>> ((10 : Int32) &&& 31).toUInt32).toInt32)), iv (own_draw ((p1.toUInt32 >>> ((20 : Int32) &&& 31).toUInt32).toInt32)), rv b_4, iv 1, iv 1, iv (((p2.toUInt32 >>> ((3 : Int32) &&& 31).toUInt32).toInt32) &&& (3 : Int32)), rv b__146, rv b_152, iv 0, iv 1, iv 1, .unset]) rfl (o_iload X_181 Hq at_129 rfl (o_iconst X_181 Hq 2 at_131 rfl (o_icmpYes X_181 Hq (pc' := 161) at_132 (by decide) (o_iload X_181 Hq at_161 rfl (o_istore X_181 Hq at_163 (l' := #[iv p1, iv p2, iv p3, iv p4, iv p5, iv p6, iv (own_draw p1), iv (own_draw ((p1.toUInt32 >>> ((10 : Int32) &&& 31).toUInt32).toInt32)), iv (own_draw ((p1.toUInt32 >>> ((20 : Int32) &&& 31).toUInt32).toInt32)), rv b_4, iv 1, iv 1, iv (((p2.toUInt32 >>> ((3 : Int32) &&& 31).toUInt32).toInt32) &&& (3 : Int32)), rv b__146, rv b_152, iv 0, iv 1, iv 1, iv 1]) rfl (o_iload X_181 Hq at_165 rfl ?_)))))))))))))))
    refine o_iload X_181 Hq at_167 rfl (o_icmpYes X_181 Hq (pc' := 231) at_169 (by decide) (o_iload X_181 Hq at_231 rfl (o_istore X_181 Hq at_233 (l' := #[iv p1, iv p2, iv p3, iv p4, iv p5, iv p6, iv (own_draw p1), iv (own_draw ((p1.toUInt32 >>> ((10 : Int32) &&& 31).toUInt32).toInt32)), iv (own_draw ((p1.toUInt32 >>> ((20 : Int32) &&& 31).toUInt32).toInt32)), rv b_4, iv 1, iv 1, iv (((p2.toUInt32 >>> ((3 : Int32) &&& 31).toUInt32).toInt32) &&& (3 : Int32)), rv b__146, rv b_152, iv 1, iv 1, iv 1, iv 1]) rfl (o_iload X_181 Hq at_235 rfl (o_istore X_181 Hq at_237 (l' := #[iv p1, iv p2, iv p3, iv p4, iv p5, iv p6, iv (own_draw p1), iv (own_draw ((p1.toUInt32 >>> ((10 : Int32) &&& 31).toUInt32).toInt32)), iv (own_draw ((p1.toUInt32 >>> ((20 : Int32) &&& 31).toUInt32).toInt32)), rv b_4, iv 1, iv 1, iv (((p2.toUInt32 >>> ((3 : Int32) &&& 31).toUInt32).toInt32) &&& (3 : Int32)), rv b__146, rv b_152, iv 1, iv 1, iv 1, iv 1]) rfl ?_)))))
    have Fa_190 := (Fa_182.keep K_181)
    have Fa_191 := ((((V_10.keep K_146 nin0).ext E_152).keep K_153 (ninS (Nat.ne_of_lt (Nat.lt_of_lt_of_le (V_10.keep K_146 nin0).lt (Nat.le_of_eq g_152.symm))) nin0)).keep K_181 (ninS (Nat.ne_of_lt (Nat.lt_of_lt_of_le (V_10.keep K_146 nin0).lt (Nat.le_of_eq g_152.symm))) nin0))
    have Fa_192 := (Fa_183.keep K_181)
    have Fa_193 := (Fa_184.keep K_181 (ninS (Nat.ne_of_lt (Nat.lt_of_lt_of_le Fq_146_0.lt (Nat.le_of_eq g_152.symm))) nin0))
    have Fa_194 := (Fa_185.keep K_181 (ninS (Nat.ne_of_lt (Nat.lt_of_lt_of_le Fq_146_0.lt (Nat.le_of_eq g_152.symm))) nin0))
    have Fa_195 := (Fa_186.keep K_181 (ninS (Nat.ne_of_lt (Nat.lt_of_lt_of_le Fq_146_3.lt (Nat.le_of_eq g_152.symm))) nin0))
    have Fa_196 := (own_Sta_keep Fa_187 K_181 (nsS (Fa_182.nostat) ns0))
    have Fa_197 := (own_Sta_keep Fa_188 K_181 (nsS (Fa_182.nostat) ns0))
    have Zs_198 : n0 ≤ T_181.heap.size := (Nat.le_trans Zs_189 K_181.1)
    have Kp_199 : Keep h0 T_181.heap [] := (((Kp_151.ext E_152).trans K_153 (allS (Or.inr sz_152) all0)).trans K_181 (allS (Or.inr sz_152) all0))
    have Ks_200 := (Nat.le_trans (Nat.le_trans (Nat.le_trans (Nat.le_trans (Nat.le_trans (Nat.le_trans (Nat.le_trans (Nat.le_trans (Nat.le_refl h0.size) E_4.1) (Keep.of_wr W_6).1) (Keep.of_wr W_8).1) (Keep.of_wr W_10).1) K_146.1) E_152.1) K_153.1) K_181.1)
    exact own_tail p1 p2 p3 p4 p5 p6 w sfv (own_draw p1) (own_draw ((p1.toUInt32 >>> ((10 : Int32) &&& 31).toUInt32).toInt32)) (own_draw ((p1.toUInt32 >>> ((20 : Int32) &&& 31).toUInt32).toInt32)) (1 : Int32) (1 : Int32) (((p2.toUInt32 >>> ((3 : Int32) &&& 31).toUInt32).toInt32) &&& (3 : Int32)) (1 : Int32) (1 : Int32) (1 : Int32) b_152 b_4 b__146 t__146 k_4 [(.int (own_draw p1)), (.int (own_draw ((p1.toUInt32 >>> ((10 : Int32) &&& 31).toUInt32).toInt32))), (.int (own_draw ((p1.toUInt32 >>> ((20 : Int32) &&& 31).toUInt32).toInt32)))] (.int (0 : Int32)) kt__146 [(.int (((own_draw p1).toInt8.toInt32).toInt8.toInt32))] (.int (0 : Int32)) (own_f (own_draw p1) (own_draw ((p1.toUInt32 >>> ((10 : Int32) &&& 31).toUInt32).toInt32)) (own_draw ((p1.toUInt32 >>> ((20 : Int32) &&& 31).toUInt32).toInt32))) _ _ X_181 hx hZ hw hby hml hown Bd.returns hlk rfl N_181 Zs_198 Kp_199 hS0 Ks_200 (by decide) (by decide) Fa_190 gg_152 sz_152 Fq_181_0 Fq_181_1 Fq_181_2 Fa_191 Fa_192 Fa_193 Fa_194 Fa_195 Fa_196 Fa_197 (Nat.ne_of_lt (Nat.lt_of_lt_of_le Fq_146_0.lt (Nat.le_of_eq g_152.symm))) (Nat.ne_of_lt (Nat.lt_of_lt_of_le Fq_146_3.lt (Nat.le_of_eq g_152.symm))) (Nat.ne_of_lt (Nat.lt_of_lt_of_le (V_10.keep K_146 nin0).lt (Nat.le_of_eq g_152.symm))) hw0 hsf (own_fcs _ _ _) (own_fat1 _ _ _) (own_fbd (own_drb _) (own_drb _) (own_drb _)) (by decide) (by decide) (by decide) (by decide)
  ·rw [hN]
   show own_Go _ _ _ _ (T_10.setTop (mkF m 69 #[iv p1, iv p2, iv p3, iv p4, iv p5, iv p6, iv (own_draw p1), iv (own_draw ((p1.toUInt32 >>> ((10 : Int32) &&& 31).toUInt32).toInt32)), iv (own_draw ((p1.toUInt32 >>> ((20 : Int32) &&& 31).toUInt32).toInt32)), rv b_4, iv 2, iv 1, iv (((p2.toUInt32 >>> ((3 : Int32) &&& 31).toUInt32).toInt32) &&& (3 : Int32)), .unset, .unset, .unset, .unset, .unset, .unset] []))
   refine o_iload X_10 Hq at_69 rfl (o_iload X_10 Hq at_71 rfl (o_iload X_10 Hq at_73 rfl (o_iload X_10 Hq at_75 rfl ?_)))
   have Fa_202 := ((((S1.ext E_4).wr W_6).wr W_8).wr W_10)
   have Zs_203 : n0 ≤ h_10.size := (Nat.le_trans (Nat.le_trans (Nat.le_trans (Nat.le_trans Z0 E_4.1) (Keep.of_wr W_6).1) (Keep.of_wr W_8).1) (Keep.of_wr W_10).1)
   refine c_S4 X_10 Hq e_10 hZ hown hml (k0_24 hw) (rmmake2 hw (own_draw p1) (own_draw ((p1.toUInt32 >>> ((10 : Int32) &&& 31).toUInt32).toInt32)) (own_draw ((p1.toUInt32 >>> ((20 : Int32) &&& 31).toUInt32).toInt32)) w h_10 n0 Zs_203 Fa_202 hw0 (own_drn _) (own_drn _) (own_drb _).1 (own_drb _).1) at_77 ?_ 0
   rintro T_201 L_201 _ X_201 ⟨b__201, t__201, kt__201, ⟨⟩, Nq_201, K_201, gq_201_b, sq_201_b, Fq_201_0, Fq_201_1, Fq_201_2, Fq_201_3⟩
   have N_201 := Fr.app N_10 Nq_201
   have Kp_204 : Keep h0 h_10 [] := (((((Keep.refl h0 []).ext E_4).wr W_6 (Or.inr sz_4)).wr W_8 (Or.inr sz_4)).wr W_10 (Or.inr sz_4))
   have szq_201_b : h0.size ≤ b__201 := Nat.le_trans Kp_204.1 sq_201_b
   refine o_astore X_201 Hq at_80 rfl (l' := #[iv p1, iv p2, iv p3, iv p4, iv p5, iv p6, iv (own_draw p1), iv (own_draw ((p1.toUInt32 >>> ((10 : Int32) &&& 31).toUInt32).toInt32)), iv (own_draw ((p1.toUInt32 >>> ((20 : Int32) &&& 31).toUInt32).toInt32)), rv b_4, iv 2, iv 1, iv (((p2.toUInt32 >>> ((3 : Int32) &&& 31).toUInt32).toInt32) &&& (3 : Int32)), rv b__201, .unset, .unset, .unset, .unset, .unset]) rfl ?_
   have Zs_205 : n0 ≤ T_201.heap.size := (Nat.le_trans Zs_203 K_201.1)
   have Kp_206 : Keep h0 T_201.heap [] := (Kp_204.trans K_201 all0)
   obtain ⟨T_207, h_207, X_207, e_207, E_207, A_207, D_207, -, st_207⟩ := newO X_201 hx hZ hown (w_ hw 37 rfl) (w_ hw 38 rfl) (w_ hw 39 rfl) rfl (g := (mkF m 82 #[iv p1, iv p2, iv p3, iv p4, iv p5, iv p6, iv (own_draw p1), iv (own_draw ((p1.toUInt32 >>> ((10 : Int32) &&& 31).toUInt32).toInt32)), iv (own_draw ((p1.toUInt32 >>> ((20 : Int32) &&& 31).toUInt32).toInt32)), rv b_4, iv 2, iv 1, iv (((p2.toUInt32 >>> ((3 : Int32) &&& 31).toUInt32).toInt32) &&& (3 : Int32)), rv b__201, .unset, .unset, .unset, .unset, .unset] [])) rfl (hb hby at_82) (by decide) (by decide)
   obtain ⟨b_207, g_207⟩ : ∃ z, z = T_201.heap.size := ⟨_, rfl⟩
   rw [← g_207] at A_207 D_207 st_207
   have gg_207 : n0 ≤ b_207 := Nat.le_trans Zs_205 (Nat.le_of_eq g_207.symm)
   have sz_207 : h0.size ≤ b_207 := Nat.le_trans Kp_206.1 (Nat.le_of_eq g_207.symm)
   have Fi_207_input : Fld Z h_207 b_207 "com/example/vernum/vernum/VersionScanner" "input" "Ljava/lang/String;" .null := D_207 (Or.inr (w_ hw 45 rfl)) (ty := (.object "java/lang/String")) (by decide)
   have Fi_207_end : Fld Z h_207 b_207 "com/example/vernum/vernum/VersionScanner" "end" "I" (.int (0 : Int32)) := D_207 (Or.inl (w_ hw 57 rfl)) (ty := .int) (by decide)
   have Fi_207_position : Fld Z h_207 b_207 "com/example/vernum/vernum/VersionScanner" "position" "I" (.int (0 : Int32)) := D_207 (Or.inl (w_ hw 64 rfl)) (ty := .int) (by decide)
   have Fi_207_peeked : Fld Z h_207 b_207 "com/example/vernum/vernum/VersionScanner" "peeked" "I" (.int (0 : Int32)) := D_207 (Or.inl (w_ hw 104 rfl)) (ty := .int) (by decide)
   refine own_st st_207 ?_
   show own_Go _ _ _ _ (T_207.setTop (mkF m 85 #[iv p1, iv p2, iv p3, iv p4, iv p5, iv p6, iv (own_draw p1), iv (own_draw ((p1.toUInt32 >>> ((10 : Int32) &&& 31).toUInt32).toInt32)), iv (own_draw ((p1.toUInt32 >>> ((20 : Int32) &&& 31).toUInt32).toInt32)), rv b_4, iv 2, iv 1, iv (((p2.toUInt32 >>> ((3 : Int32) &&& 31).toUInt32).toInt32) &&& (3 : Int32)), rv b__201, .unset, .unset, .unset, .unset, .unset] [(.ref b_207)]))
   refine o_dup X_207 Hq at_85 rfl (o_aload X_207 Hq at_86 rfl rfl ?_)
   have Fa_209 := (Fq_201_0.ext E_207)
   have Fa_210 := (Fq_201_1.ext E_207)
   have Fa_211 := (Fq_201_2.ext E_207)
   have Fa_212 := (Fq_201_3.ext E_207)
   have Fa_213 := ((own_Sta_keep Fa_202 K_201 ns0).ext E_207)
   have Zs_214 : n0 ≤ h_207.size := (Nat.le_trans Zs_205 E_207.1)
   refine c_I1v X_207 Hq e_207 hZ hown hml (k0_28 hw) (rm9 hw b_207 b__201 t__201 kt__201 (2 : Int32) [(.int (((own_draw p1).toInt8.toInt32).toInt8.toInt32)), (.int (((own_draw ((p1.toUInt32 >>> ((10 : Int32) &&& 31).toUInt32).toInt32)).toInt8.toInt32).toInt8.toInt32))] (.int (0 : Int32)) w h_207 n0 Zs_214 A_207 gg_207 Fi_207_input Fi_207_end Fi_207_position Fi_207_peeked (Nat.ne_of_lt (Nat.lt_of_lt_of_le Fq_201_0.lt (Nat.le_of_eq g_207.symm))) (Nat.ne_of_lt (Nat.lt_of_lt_of_le Fq_201_3.lt (Nat.le_of_eq g_207.symm))) Fa_209 Fa_210 Fa_211 Fa_212 Fa_213 hw0) at_88 ?_ 1
   rintro T_208 L_208 X_208 ⟨-, Nq_208, K_208, Fq_208_0, Fq_208_1, Fq_208_2, Fq_208_3⟩
   have N_208 := Fr.app N_201 Nq_208
   refine o_astore X_208 Hq at_91 rfl (l' := #[iv p1, iv p2, iv p3, iv p4, iv p5, iv p6, iv (own_draw p1), iv (own_draw ((p1.toUInt32 >>> ((10 : Int32) &&& 31).toUInt32).toInt32)), iv (own_draw ((p1.toUInt32 >>> ((20 : Int32) &&& 31).toUInt32).toInt32)), rv b_4, iv 2, iv 1, iv (((p2.toUInt32 >>> ((3 : Int32) &&& 31).toUInt32).toInt32) &&& (3 : Int32)), rv b__201, rv b_207, .unset, .unset, .unset, .unset]) rfl (o_iconst X_208 Hq 0 at_93 rfl (o_istore X_208 Hq at_94 (l' := #[iv p1, iv p2, iv p3, iv p4, iv p5, iv p6, iv (own_draw p1), iv (own_draw ((p1.toUInt32 >>> ((10 : Int32) &&& 31).toUInt32).toInt32)), iv (own_draw ((p1.toUInt32 >>> ((20 : Int32) &&& 31).toUInt32).toInt32)), rv b_4, iv 2, iv 1, iv (((p2.toUInt32 >>> ((3 : Int32) &&& 31).toUInt32).toInt32) &&& (3 : Int32)), rv b__201, rv b_207, iv 0, .unset, .unset, .unset]) rfl (o_iload X_208 Hq at_96 rfl (o_istore X_208 Hq at_98 (l' := #[iv p1, iv p2, iv p3, iv p4, iv p5, iv p6, iv (own_draw p1), iv (own_draw ((p1.toUInt32 >>> ((10 : Int32) &&& 31).toUInt32).toInt32)), iv (own_draw ((p1.toUInt32 >>> ((20 : Int32) &&& 31).toUInt32).toInt32)), rv b_4, iv 2, iv 1, iv (((p2.toUInt32 >>> ((3 : Int32) &&& 31).toUInt32).toInt32) &&& (3 : Int32)), rv b__201, rv b_207, iv 0, iv 2, .unset, .unset]) rfl (o_iload X_208 Hq at_100 rfl (o_ifNo X_208 Hq at_102 (by decide) ?_))))))
   by_cases ht0 : (32 : Int32) < (own_draw p1)
   ·by_cases ht1 : (32 : Int32) < (own_draw ((p1.toUInt32 >>> ((10 : Int32) &&& 31).toUInt32).toInt32))
    ·refine o_aload X_208 Hq at_105 rfl rfl ?_
     have Fa_216 := (A_207.keep K_208)
     have Fa_217 := (Fa_209.keep K_208)
     have Fa_218 := (Fa_210.keep K_208 (ninS (Nat.ne_of_lt (Nat.lt_of_lt_of_le Fq_201_0.lt (Nat.le_of_eq g_207.symm))) nin0))
     have Fa_219 := (Fa_211.keep K_208 (ninS (Nat.ne_of_lt (Nat.lt_of_lt_of_le Fq_201_0.lt (Nat.le_of_eq g_207.symm))) nin0))
     have Fa_220 := (Fa_212.keep K_208 (ninS (Nat.ne_of_lt (Nat.lt_of_lt_of_le Fq_201_3.lt (Nat.le_of_eq g_207.symm))) nin0))
     have Fa_221 := (own_Sta_keep Fa_213 K_208 (nsS (A_207.nostat) ns0))
     have Fa_222 := (own_Sta_keep ((own_Sta_keep ((((S2.ext E_4).wr W_6).wr W_8).wr W_10) K_201 ns0).ext E_207) K_208 (nsS (A_207.nostat) ns0))
     have Zs_223 : n0 ≤ T_208.heap.size := (Nat.le_trans Zs_214 K_208.1)
     refine c_U0v X_208 Hq rfl hZ hown hml (k0_31U1 hw) (rmtrim2_tt hw b_207 b__201 t__201 kt__201 [(.int (((own_draw p1).toInt8.toInt32).toInt8.toInt32)), (.int (((own_draw ((p1.toUInt32 >>> ((10 : Int32) &&& 31).toUInt32).toInt32)).toInt8.toInt32).toInt8.toInt32))] (.int (0 : Int32)) w sfv (own_f (own_draw p1) (own_draw ((p1.toUInt32 >>> ((10 : Int32) &&& 31).toUInt32).toInt32)) (own_draw ((p1.toUInt32 >>> ((20 : Int32) &&& 31).toUInt32).toInt32))) T_208.heap n0 Zs_223 Fa_216 gg_207 Fq_208_0 Fq_208_1 Fq_208_2 Fq_208_3 (Nat.ne_of_lt (Nat.lt_of_lt_of_le Fq_201_0.lt (Nat.le_of_eq g_207.symm))) (Nat.ne_of_lt (Nat.lt_of_lt_of_le Fq_201_3.lt (Nat.le_of_eq g_207.symm))) Fa_217 Fa_218 Fa_219 Fa_220 Fa_221 hw0 (own_fat2 _ _ _) (own_fbd (own_drb _) (own_drb _) (own_drb _)) Fa_222 hsf ht0 ht1) Fa_216 at_107 ?_ 0
     rintro T_215 L_215 X_215 ⟨-, Nq_215, K_215, Fq_215_0, Fq_215_1, Fq_215_2⟩
     have N_215 := Fr.app N_208 Nq_215
     refine o_iconst X_215 Hq 0 at_110 rfl (o_istore X_215 Hq at_111 (l' := #[iv p1, iv p2, iv p3, iv p4, iv p5, iv p6, iv (own_draw p1), iv (own_draw ((p1.toUInt32 >>> ((10 : Int32) &&& 31).toUInt32).toInt32)), iv (own_draw ((p1.toUInt32 >>> ((20 : Int32) &&& 31).toUInt32).toInt32)), rv b_4, iv 2, iv 1, iv (((p2.toUInt32 >>> ((3 : Int32) &&& 31).toUInt32).toInt32) &&& (3 : Int32)), rv b__201, rv b_207, iv 0, iv 2, iv 0, .unset]) rfl (o_iload X_215 Hq at_113 rfl (o_iconst X_215 Hq 1 at_115 rfl (o_icmpNo X_215 Hq at_116 (by decide) (o_iload X_215 Hq at_119 rfl (o_bipush X_215 Hq 32 at_121 rfl (o_icmpYes X_215 Hq (pc' := 161) at_123 (tlt ht0).2.2.1 (o_iload X_215 Hq at_161 rfl (o_istore X_215 Hq at_163 (l' := #[iv p1, iv p2, iv p3, iv p4, iv p5, iv p6, iv (own_draw p1), iv (own_draw ((p1.toUInt32 >>> ((10 : Int32) &&& 31).toUInt32).toInt32)), iv (own_draw ((p1.toUInt32 >>> ((20 : Int32) &&& 31).toUInt32).toInt32)), rv b_4, iv 2, iv 1, iv (((p2.toUInt32 >>> ((3 : Int32) &&& 31).toUInt32).toInt32) &&& (3 : Int32)), rv b__201, rv b_207, iv 0, iv 2, iv 0, iv 2]) rfl (o_iload X_215 Hq at_165 rfl (o_iload X_215 Hq at_167 rfl (o_icmpNo X_215 Hq at_169 (by decide) (o_aload X_215 Hq at_172 rfl rfl (o_iload X_215 Hq at_174 rfl (o_iconst X_215 Hq 1 at_176 rfl ?_)))))))))))))))
     refine o_isub X_215 Hq at_177 ?_
     show own_Go _ _ _ _ (T_215.setTop (mkF m 178 #[iv p1, iv p2, iv p3, iv p4, iv p5, iv p6, iv (own_draw p1), iv (own_draw ((p1.toUInt32 >>> ((10 : Int32) &&& 31).toUInt32).toInt32)), iv (own_draw ((p1.toUInt32 >>> ((20 : Int32) &&& 31).toUInt32).toInt32)), rv b_4, iv 2, iv 1, iv (((p2.toUInt32 >>> ((3 : Int32) &&& 31).toUInt32).toInt32) &&& (3 : Int32)), rv b__201, rv b_207, iv 0, iv 2, iv 0, iv 2] [(.int 1), (.ref b_4)]))
     have Fa_224 := ((((V_10.keep K_201 nin0).ext E_207).keep K_208 (ninS (Nat.ne_of_lt (Nat.lt_of_lt_of_le (V_10.keep K_201 nin0).lt (Nat.le_of_eq g_207.symm))) nin0)).keep K_215 (ninS (Nat.ne_of_lt (Nat.lt_of_lt_of_le (V_10.keep K_201 nin0).lt (Nat.le_of_eq g_207.symm))) nin0))
     obtain ⟨cl_225, Ar_225, qk_225, Sz_225, Ng_225, Hs_225, Gs_225⟩ := id Fa_224
     refine own_st (X_215.caload hx (j := (1 : Int32)) (v := (.int (own_draw ((p1.toUInt32 >>> ((10 : Int32) &&& 31).toUInt32).toInt32)))) Ar_225.1 (State.isArrayOf_alike hZ.alike Ar_225.2.1) Ar_225.2.2 (inb_of Sz_225 ⟨by decide, by decide⟩) (Hs_225.at (j := (1 : Int32)) (inb_of Sz_225 ⟨by decide, by decide⟩) rfl) (g := (mkF m 178 #[iv p1, iv p2, iv p3, iv p4, iv p5, iv p6, iv (own_draw p1), iv (own_draw ((p1.toUInt32 >>> ((10 : Int32) &&& 31).toUInt32).toInt32)), iv (own_draw ((p1.toUInt32 >>> ((20 : Int32) &&& 31).toUInt32).toInt32)), rv b_4, iv 2, iv 1, iv (((p2.toUInt32 >>> ((3 : Int32) &&& 31).toUInt32).toInt32) &&& (3 : Int32)), rv b__201, rv b_207, iv 0, iv 2, iv 0, iv 2] [(.int 1), (.ref b_4)])) rfl rfl (hb hby at_178)) ?_
     show own_Go _ _ _ _ (T_215.setTop (mkF m 179 #[iv p1, iv p2, iv p3, iv p4, iv p5, iv p6, iv (own_draw p1), iv (own_draw ((p1.toUInt32 >>> ((10 : Int32) &&& 31).toUInt32).toInt32)), iv (own_draw ((p1.toUInt32 >>> ((20 : Int32) &&& 31).toUInt32).toInt32)), rv b_4, iv 2, iv 1, iv (((p2.toUInt32 >>> ((3 : Int32) &&& 31).toUInt32).toInt32) &&& (3 : Int32)), rv b__201, rv b_207, iv 0, iv 2, iv 0, iv 2] [(.int (own_draw ((p1.toUInt32 >>> ((10 : Int32) &&& 31).toUInt32).toInt32)))]))
     refine o_bipush X_215 Hq 32 at_179 rfl (o_icmpYes X_215 Hq (pc' := 231) at_181 (tlt ht1).2.2.1 (o_iload X_215 Hq at_231 rfl (o_istore X_215 Hq at_233 (l' := #[iv p1, iv p2, iv p3, iv p4, iv p5, iv p6, iv (own_draw p1), iv (own_draw ((p1.toUInt32 >>> ((10 : Int32) &&& 31).toUInt32).toInt32)), iv (own_draw ((p1.toUInt32 >>> ((20 : Int32) &&& 31).toUInt32).toInt32)), rv b_4, iv 2, iv 1, iv (((p2.toUInt32 >>> ((3 : Int32) &&& 31).toUInt32).toInt32) &&& (3 : Int32)), rv b__201, rv b_207, iv 0, iv 2, iv 0, iv 2]) rfl (o_iload X_215 Hq at_235 rfl (o_istore X_215 Hq at_237 (l' := #[iv p1, iv p2, iv p3, iv p4, iv p5, iv p6, iv (own_draw p1), iv (own_draw ((p1.toUInt32 >>> ((10 : Int32) &&& 31).toUInt32).toInt32)), iv (own_draw ((p1.toUInt32 >>> ((20 : Int32) &&& 31).toUInt32).toInt32)), rv b_4, iv 2, iv 1, iv (((p2.toUInt32 >>> ((3 : Int32) &&& 31).toUInt32).toInt32) &&& (3 : Int32)), rv b__201, rv b_207, iv 0, iv 2, iv 0, iv 2]) rfl ?_)))))
     have Fa_226 := (Fa_216.keep K_215)
     have Fa_227 := (Fa_217.keep K_215)
     have Fa_228 := (Fa_218.keep K_215 (ninS (Nat.ne_of_lt (Nat.lt_of_lt_of_le Fq_201_0.lt (Nat.le_of_eq g_207.symm))) nin0))
     have Fa_229 := (Fa_219.keep K_215 (ninS (Nat.ne_of_lt (Nat.lt_of_lt_of_le Fq_201_0.lt (Nat.le_of_eq g_207.symm))) nin0))
     have Fa_230 := (Fa_220.keep K_215 (ninS (Nat.ne_of_lt (Nat.lt_of_lt_of_le Fq_201_3.lt (Nat.le_of_eq g_207.symm))) nin0))
     have Fa_231 := (own_Sta_keep Fa_221 K_215 (nsS (Fa_216.nostat) ns0))
     have Fa_232 := (own_Sta_keep Fa_222 K_215 (nsS (Fa_216.nostat) ns0))
     have Zs_233 : n0 ≤ T_215.heap.size := (Nat.le_trans Zs_223 K_215.1)
     have Kp_234 : Keep h0 T_215.heap [] := (((Kp_206.ext E_207).trans K_208 (allS (Or.inr sz_207) all0)).trans K_215 (allS (Or.inr sz_207) all0))
     have Ks_235 := (Nat.le_trans (Nat.le_trans (Nat.le_trans (Nat.le_trans (Nat.le_trans (Nat.le_trans (Nat.le_trans (Nat.le_trans (Nat.le_refl h0.size) E_4.1) (Keep.of_wr W_6).1) (Keep.of_wr W_8).1) (Keep.of_wr W_10).1) K_201.1) E_207.1) K_208.1) K_215.1)
     exact own_tail p1 p2 p3 p4 p5 p6 w sfv (own_draw p1) (own_draw ((p1.toUInt32 >>> ((10 : Int32) &&& 31).toUInt32).toInt32)) (own_draw ((p1.toUInt32 >>> ((20 : Int32) &&& 31).toUInt32).toInt32)) (2 : Int32) (1 : Int32) (((p2.toUInt32 >>> ((3 : Int32) &&& 31).toUInt32).toInt32) &&& (3 : Int32)) (0 : Int32) (2 : Int32) (2 : Int32) b_207 b_4 b__201 t__201 k_4 [(.int (own_draw p1)), (.int (own_draw ((p1.toUInt32 >>> ((10 : Int32) &&& 31).toUInt32).toInt32))), (.int (own_draw ((p1.toUInt32 >>> ((20 : Int32) &&& 31).toUInt32).toInt32)))] (.int (0 : Int32)) kt__201 [(.int (((own_draw p1).toInt8.toInt32).toInt8.toInt32)), (.int (((own_draw ((p1.toUInt32 >>> ((10 : Int32) &&& 31).toUInt32).toInt32)).toInt8.toInt32).toInt8.toInt32))] (.int (0 : Int32)) (own_f (own_draw p1) (own_draw ((p1.toUInt32 >>> ((10 : Int32) &&& 31).toUInt32).toInt32)) (own_draw ((p1.toUInt32 >>> ((20 : Int32) &&& 31).toUInt32).toInt32))) _ _ X_215 hx hZ hw hby hml hown Bd.returns hlk rfl N_215 Zs_233 Kp_234 hS0 Ks_235 (by decide) (by decide) Fa_226 gg_207 sz_207 Fq_215_0 Fq_215_1 Fq_215_2 Fa_224 Fa_227 Fa_228 Fa_229 Fa_230 Fa_231 Fa_232 (Nat.ne_of_lt (Nat.lt_of_lt_of_le Fq_201_0.lt (Nat.le_of_eq g_207.symm))) (Nat.ne_of_lt (Nat.lt_of_lt_of_le Fq_201_3.lt (Nat.le_of_eq g_207.symm))) (Nat.ne_of_lt (Nat.lt_of_lt_of_le (V_10.keep K_201 nin0).lt (Nat.le_of_eq g_207.symm))) hw0 hsf (own_fcs _ _ _) (own_fat2 _ _ _) (own_fbd (own_drb _) (own_drb _) (own_drb _)) (by decide) (by decide) (by decide) (by decide)
    ·refine o_aload X_208 Hq at_105 rfl rfl ?_
     have Fa_237 := (A_207.keep K_208)
     have Fa_238 := (Fa_209.keep K_208)
     have Fa_239 := (Fa_210.keep K_208 (ninS (Nat.ne_of_lt (Nat.lt_of_lt_of_le Fq_201_0.lt (Nat.le_of_eq g_207.symm))) nin0))
     have Fa_240 := (Fa_211.keep K_208 (ninS (Nat.ne_of_lt (Nat.lt_of_lt_of_le Fq_201_0.lt (Nat.le_of_eq g_207.symm))) nin0))
     have Fa_241 := (Fa_212.keep K_208 (ninS (Nat.ne_of_lt (Nat.lt_of_lt_of_le Fq_201_3.lt (Nat.le_of_eq g_207.symm))) nin0))
     have Fa_242 := (own_Sta_keep Fa_213 K_208 (nsS (A_207.nostat) ns0))
     have Fa_243 := (own_Sta_keep ((own_Sta_keep ((((S2.ext E_4).wr W_6).wr W_8).wr W_10) K_201 ns0).ext E_207) K_208 (nsS (A_207.nostat) ns0))
     have Zs_244 : n0 ≤ T_208.heap.size := (Nat.le_trans Zs_214 K_208.1)
     refine c_U0v X_208 Hq rfl hZ hown hml (k0_31U1 hw) (rmtrim2_tf hw b_207 b__201 t__201 kt__201 [(.int (((own_draw p1).toInt8.toInt32).toInt8.toInt32)), (.int (((own_draw ((p1.toUInt32 >>> ((10 : Int32) &&& 31).toUInt32).toInt32)).toInt8.toInt32).toInt8.toInt32))] (.int (0 : Int32)) w sfv (own_f (own_draw p1) (own_draw ((p1.toUInt32 >>> ((10 : Int32) &&& 31).toUInt32).toInt32)) (own_draw ((p1.toUInt32 >>> ((20 : Int32) &&& 31).toUInt32).toInt32))) T_208.heap n0 Zs_244 Fa_237 gg_207 Fq_208_0 Fq_208_1 Fq_208_2 Fq_208_3 (Nat.ne_of_lt (Nat.lt_of_lt_of_le Fq_201_0.lt (Nat.le_of_eq g_207.symm))) (Nat.ne_of_lt (Nat.lt_of_lt_of_le Fq_201_3.lt (Nat.le_of_eq g_207.symm))) Fa_238 Fa_239 Fa_240 Fa_241 Fa_242 hw0 (own_fat2 _ _ _) (own_fbd (own_drb _) (own_drb _) (own_drb _)) Fa_243 hsf ht0 ht1) Fa_237 at_107 ?_ 0
     rintro T_236 L_236 X_236 ⟨-, Nq_236, K_236, Fq_236_0, Fq_236_1, Fq_236_2⟩
     have N_236 := Fr.app N_208 Nq_236
     refine o_iconst X_236 Hq 0 at_110 rfl (o_istore X_236 Hq at_111 (l' := #[iv p1, iv p2, iv p3, iv p4, iv p5, iv p6, iv (own_draw p1), iv (own_draw ((p1.toUInt32 >>> ((10 : Int32) &&& 31).toUInt32).toInt32)), iv (own_draw ((p1.toUInt32 >>> ((20 : Int32) &&& 31).toUInt32).toInt32)), rv b_4, iv 2, iv 1, iv (((p2.toUInt32 >>> ((3 : Int32) &&& 31).toUInt32).toInt32) &&& (3 : Int32)), rv b__201, rv b_207, iv 0, iv 2, iv 0, .unset]) rfl (o_iload X_236 Hq at_113 rfl (o_iconst X_236 Hq 1 at_115 rfl (o_icmpNo X_236 Hq at_116 (by decide) (o_iload X_236 Hq at_119 rfl (o_bipush X_236 Hq 32 at_121 rfl (o_icmpYes X_236 Hq (pc' := 161) at_123 (tlt ht0).2.2.1 (o_iload X_236 Hq at_161 rfl (o_istore X_236 Hq at_163 (l' := #[iv p1, iv p2, iv p3, iv p4, iv p5, iv p6, iv (own_draw p1), iv (own_draw ((p1.toUInt32 >>> ((10 : Int32) &&& 31).toUInt32).toInt32)), iv (own_draw ((p1.toUInt32 >>> ((20 : Int32) &&& 31).toUInt32).toInt32)), rv b_4, iv 2, iv 1, iv (((p2.toUInt32 >>> ((3 : Int32) &&& 31).toUInt32).toInt32) &&& (3 : Int32)), rv b__201, rv b_207, iv 0, iv 2, iv 0, iv 2]) rfl (o_iload X_236 Hq at_165 rfl (o_iload X_236 Hq at_167 rfl (o_icmpNo X_236 Hq at_169 (by decide) (o_aload X_236 Hq at_172 rfl rfl (o_iload X_236 Hq at_174 rfl (o_iconst X_236 Hq 1 at_176 rfl ?_)))))))))))))))
     refine o_isub X_236 Hq at_177 ?_
     show own_Go _ _ _ _ (T_236.setTop (mkF m 178 #[iv p1, iv p2, iv p3, iv p4, iv p5, iv p6, iv (own_draw p1), iv (own_draw ((p1.toUInt32 >>> ((10 : Int32) &&& 31).toUInt32).toInt32)), iv (own_draw ((p1.toUInt32 >>> ((20 : Int32) &&& 31).toUInt32).toInt32)), rv b_4, iv 2, iv 1, iv (((p2.toUInt32 >>> ((3 : Int32) &&& 31).toUInt32).toInt32) &&& (3 : Int32)), rv b__201, rv b_207, iv 0, iv 2, iv 0, iv 2] [(.int 1), (.ref b_4)]))
     have Fa_245 := ((((V_10.keep K_201 nin0).ext E_207).keep K_208 (ninS (Nat.ne_of_lt (Nat.lt_of_lt_of_le (V_10.keep K_201 nin0).lt (Nat.le_of_eq g_207.symm))) nin0)).keep K_236 (ninS (Nat.ne_of_lt (Nat.lt_of_lt_of_le (V_10.keep K_201 nin0).lt (Nat.le_of_eq g_207.symm))) nin0))
     obtain ⟨cl_246, Ar_246, qk_246, Sz_246, Ng_246, Hs_246, Gs_246⟩ := id Fa_245
     refine own_st (X_236.caload hx (j := (1 : Int32)) (v := (.int (own_draw ((p1.toUInt32 >>> ((10 : Int32) &&& 31).toUInt32).toInt32)))) Ar_246.1 (State.isArrayOf_alike hZ.alike Ar_246.2.1) Ar_246.2.2 (inb_of Sz_246 ⟨by decide, by decide⟩) (Hs_246.at (j := (1 : Int32)) (inb_of Sz_246 ⟨by decide, by decide⟩) rfl) (g := (mkF m 178 #[iv p1, iv p2, iv p3, iv p4, iv p5, iv p6, iv (own_draw p1), iv (own_draw ((p1.toUInt32 >>> ((10 : Int32) &&& 31).toUInt32).toInt32)), iv (own_draw ((p1.toUInt32 >>> ((20 : Int32) &&& 31).toUInt32).toInt32)), rv b_4, iv 2, iv 1, iv (((p2.toUInt32 >>> ((3 : Int32) &&& 31).toUInt32).toInt32) &&& (3 : Int32)), rv b__201, rv b_207, iv 0, iv 2, iv 0, iv 2] [(.int 1), (.ref b_4)])) rfl rfl (hb hby at_178)) ?_
     show own_Go _ _ _ _ (T_236.setTop (mkF m 179 #[iv p1, iv p2, iv p3, iv p4, iv p5, iv p6, iv (own_draw p1), iv (own_draw ((p1.toUInt32 >>> ((10 : Int32) &&& 31).toUInt32).toInt32)), iv (own_draw ((p1.toUInt32 >>> ((20 : Int32) &&& 31).toUInt32).toInt32)), rv b_4, iv 2, iv 1, iv (((p2.toUInt32 >>> ((3 : Int32) &&& 31).toUInt32).toInt32) &&& (3 : Int32)), rv b__201, rv b_207, iv 0, iv 2, iv 0, iv 2] [(.int (own_draw ((p1.toUInt32 >>> ((10 : Int32) &&& 31).toUInt32).toInt32)))]))
     refine o_bipush X_236 Hq 32 at_179 rfl (o_icmpNo X_236 Hq at_181 (flt ht1).2.2.1 (o_iinc X_236 Hq at_184 rfl (l' := #[iv p1, iv p2, iv p3, iv p4, iv p5, iv p6, iv (own_draw p1), iv (own_draw ((p1.toUInt32 >>> ((10 : Int32) &&& 31).toUInt32).toInt32)), iv (own_draw ((p1.toUInt32 >>> ((20 : Int32) &&& 31).toUInt32).toInt32)), rv b_4, iv 2, iv 1, iv (((p2.toUInt32 >>> ((3 : Int32) &&& 31).toUInt32).toInt32) &&& (3 : Int32)), rv b__201, rv b_207, iv 0, iv 2, iv 0, iv 1]) rfl (o_iload X_236 Hq at_187 rfl (o_iload X_236 Hq at_189 rfl (o_icmpNo X_236 Hq at_191 (by decide) (o_aload X_236 Hq at_194 rfl rfl (o_iload X_236 Hq at_196 rfl (o_iconst X_236 Hq 1 at_198 rfl (o_isub X_236 Hq at_199 ?_)))))))))
     show own_Go _ _ _ _ (T_236.setTop (mkF m 200 #[iv p1, iv p2, iv p3, iv p4, iv p5, iv p6, iv (own_draw p1), iv (own_draw ((p1.toUInt32 >>> ((10 : Int32) &&& 31).toUInt32).toInt32)), iv (own_draw ((p1.toUInt32 >>> ((20 : Int32) &&& 31).toUInt32).toInt32)), rv b_4, iv 2, iv 1, iv (((p2.toUInt32 >>> ((3 : Int32) &&& 31).toUInt32).toInt32) &&& (3 : Int32)), rv b__201, rv b_207, iv 0, iv 2, iv 0, iv 1] [(.int 0), (.ref b_4)]))
     obtain ⟨cl_247, Ar_247, qk_247, Sz_247, Ng_247, Hs_247, Gs_247⟩ := id Fa_245
     refine own_st (X_236.caload hx (j := (0 : Int32)) (v := (.int (own_draw p1))) Ar_247.1 (State.isArrayOf_alike hZ.alike Ar_247.2.1) Ar_247.2.2 (inb_of Sz_247 ⟨by decide, by decide⟩) (Hs_247.at (j := (0 : Int32)) (inb_of Sz_247 ⟨by decide, by decide⟩) rfl) (g := (mkF m 200 #[iv p1, iv p2, iv p3, iv p4, iv p5, iv p6, iv (own_draw p1), iv (own_draw ((p1.toUInt32 >>> ((10 : Int32) &&& 31).toUInt32).toInt32)), iv (own_draw ((p1.toUInt32 >>> ((20 : Int32) &&& 31).toUInt32).toInt32)), rv b_4, iv 2, iv 1, iv (((p2.toUInt32 >>> ((3 : Int32) &&& 31).toUInt32).toInt32) &&& (3 : Int32)), rv b__201, rv b_207, iv 0, iv 2, iv 0, iv 1] [(.int 0), (.ref b_4)])) rfl rfl (hb hby at_200)) ?_
     show own_Go _ _ _ _ (T_236.setTop (mkF m 201 #[iv p1, iv p2, iv p3, iv p4, iv p5, iv p6, iv (own_draw p1), iv (own_draw ((p1.toUInt32 >>> ((10 : Int32) &&& 31).toUInt32).toInt32)), iv (own_draw ((p1.toUInt32 >>> ((20 : Int32) &&& 31).toUInt32).toInt32)), rv b_4, iv 2, iv 1, iv (((p2.toUInt32 >>> ((3 : Int32) &&& 31).toUInt32).toInt32) &&& (3 : Int32)), rv b__201, rv b_207, iv 0, iv 2, iv 0, iv 1] [(.int (own_draw p1))]))
     refine o_bipush X_236 Hq 32 at_201 rfl (o_icmpYes X_236 Hq (pc' := 231) at_203 (tlt ht0).2.2.1 (o_iload X_236 Hq at_231 rfl (o_istore X_236 Hq at_233 (l' := #[iv p1, iv p2, iv p3, iv p4, iv p5, iv p6, iv (own_draw p1), iv (own_draw ((p1.toUInt32 >>> ((10 : Int32) &&& 31).toUInt32).toInt32)), iv (own_draw ((p1.toUInt32 >>> ((20 : Int32) &&& 31).toUInt32).toInt32)), rv b_4, iv 2, iv 1, iv (((p2.toUInt32 >>> ((3 : Int32) &&& 31).toUInt32).toInt32) &&& (3 : Int32)), rv b__201, rv b_207, iv 0, iv 2, iv 0, iv 1]) rfl (o_iload X_236 Hq at_235 rfl (o_istore X_236 Hq at_237 (l' := #[iv p1, iv p2, iv p3, iv p4, iv p5, iv p6, iv (own_draw p1), iv (own_draw ((p1.toUInt32 >>> ((10 : Int32) &&& 31).toUInt32).toInt32)), iv (own_draw ((p1.toUInt32 >>> ((20 : Int32) &&& 31).toUInt32).toInt32)), rv b_4, iv 2, iv 1, iv (((p2.toUInt32 >>> ((3 : Int32) &&& 31).toUInt32).toInt32) &&& (3 : Int32)), rv b__201, rv b_207, iv 0, iv 1, iv 0, iv 1]) rfl ?_)))))
     have Fa_248 := (Fa_237.keep K_236)
     have Fa_249 := (Fa_238.keep K_236)
     have Fa_250 := (Fa_239.keep K_236 (ninS (Nat.ne_of_lt (Nat.lt_of_lt_of_le Fq_201_0.lt (Nat.le_of_eq g_207.symm))) nin0))
     have Fa_251 := (Fa_240.keep K_236 (ninS (Nat.ne_of_lt (Nat.lt_of_lt_of_le Fq_201_0.lt (Nat.le_of_eq g_207.symm))) nin0))
     have Fa_252 := (Fa_241.keep K_236 (ninS (Nat.ne_of_lt (Nat.lt_of_lt_of_le Fq_201_3.lt (Nat.le_of_eq g_207.symm))) nin0))
     have Fa_253 := (own_Sta_keep Fa_242 K_236 (nsS (Fa_237.nostat) ns0))
     have Fa_254 := (own_Sta_keep Fa_243 K_236 (nsS (Fa_237.nostat) ns0))
     have Zs_255 : n0 ≤ T_236.heap.size := (Nat.le_trans Zs_244 K_236.1)
     have Kp_256 : Keep h0 T_236.heap [] := (((Kp_206.ext E_207).trans K_208 (allS (Or.inr sz_207) all0)).trans K_236 (allS (Or.inr sz_207) all0))
     have Ks_257 := (Nat.le_trans (Nat.le_trans (Nat.le_trans (Nat.le_trans (Nat.le_trans (Nat.le_trans (Nat.le_trans (Nat.le_trans (Nat.le_refl h0.size) E_4.1) (Keep.of_wr W_6).1) (Keep.of_wr W_8).1) (Keep.of_wr W_10).1) K_201.1) E_207.1) K_208.1) K_236.1)
     exact own_tail p1 p2 p3 p4 p5 p6 w sfv (own_draw p1) (own_draw ((p1.toUInt32 >>> ((10 : Int32) &&& 31).toUInt32).toInt32)) (own_draw ((p1.toUInt32 >>> ((20 : Int32) &&& 31).toUInt32).toInt32)) (2 : Int32) (1 : Int32) (((p2.toUInt32 >>> ((3 : Int32) &&& 31).toUInt32).toInt32) &&& (3 : Int32)) (0 : Int32) (1 : Int32) (2 : Int32) b_207 b_4 b__201 t__201 k_4 [(.int (own_draw p1)), (.int (own_draw ((p1.toUInt32 >>> ((10 : Int32) &&& 31).toUInt32).toInt32))), (.int (own_draw ((p1.toUInt32 >>> ((20 : Int32) &&& 31).toUInt32).toInt32)))] (.int (0 : Int32)) kt__201 [(.int (((own_draw p1).toInt8.toInt32).toInt8.toInt32)), (.int (((own_draw ((p1.toUInt32 >>> ((10 : Int32) &&& 31).toUInt32).toInt32)).toInt8.toInt32).toInt8.toInt32))] (.int (0 : Int32)) (own_f (own_draw p1) (own_draw ((p1.toUInt32 >>> ((10 : Int32) &&& 31).toUInt32).toInt32)) (own_draw ((p1.toUInt32 >>> ((20 : Int32) &&& 31).toUInt32).toInt32))) _ _ X_236 hx hZ hw hby hml hown Bd.returns hlk rfl N_236 Zs_255 Kp_256 hS0 Ks_257 (by decide) (by decide) Fa_248 gg_207 sz_207 Fq_236_0 Fq_236_1 Fq_236_2 Fa_245 Fa_249 Fa_250 Fa_251 Fa_252 Fa_253 Fa_254 (Nat.ne_of_lt (Nat.lt_of_lt_of_le Fq_201_0.lt (Nat.le_of_eq g_207.symm))) (Nat.ne_of_lt (Nat.lt_of_lt_of_le Fq_201_3.lt (Nat.le_of_eq g_207.symm))) (Nat.ne_of_lt (Nat.lt_of_lt_of_le (V_10.keep K_201 nin0).lt (Nat.le_of_eq g_207.symm))) hw0 hsf (own_fcs _ _ _) (own_fat2 _ _ _) (own_fbd (own_drb _) (own_drb _) (own_drb _)) (by decide) (by decide) (by decide) (by decide)
   ·by_cases ht1 : (32 : Int32) < (own_draw ((p1.toUInt32 >>> ((10 : Int32) &&& 31).toUInt32).toInt32))
    ·refine o_aload X_208 Hq at_105 rfl rfl ?_
     have Fa_259 := (A_207.keep K_208)
     have Fa_260 := (Fa_209.keep K_208)
     have Fa_261 := (Fa_210.keep K_208 (ninS (Nat.ne_of_lt (Nat.lt_of_lt_of_le Fq_201_0.lt (Nat.le_of_eq g_207.symm))) nin0))
     have Fa_262 := (Fa_211.keep K_208 (ninS (Nat.ne_of_lt (Nat.lt_of_lt_of_le Fq_201_0.lt (Nat.le_of_eq g_207.symm))) nin0))
     have Fa_263 := (Fa_212.keep K_208 (ninS (Nat.ne_of_lt (Nat.lt_of_lt_of_le Fq_201_3.lt (Nat.le_of_eq g_207.symm))) nin0))
     have Fa_264 := (own_Sta_keep Fa_213 K_208 (nsS (A_207.nostat) ns0))
     have Fa_265 := (own_Sta_keep ((own_Sta_keep ((((S2.ext E_4).wr W_6).wr W_8).wr W_10) K_201 ns0).ext E_207) K_208 (nsS (A_207.nostat) ns0))
     have Zs_266 : n0 ≤ T_208.heap.size := (Nat.le_trans Zs_214 K_208.1)
     refine c_U0v X_208 Hq rfl hZ hown hml (k0_31U1 hw) (rmtrim2_ft hw b_207 b__201 t__201 kt__201 [(.int (((own_draw p1).toInt8.toInt32).toInt8.toInt32)), (.int (((own_draw ((p1.toUInt32 >>> ((10 : Int32) &&& 31).toUInt32).toInt32)).toInt8.toInt32).toInt8.toInt32))] (.int (0 : Int32)) w sfv (own_f (own_draw p1) (own_draw ((p1.toUInt32 >>> ((10 : Int32) &&& 31).toUInt32).toInt32)) (own_draw ((p1.toUInt32 >>> ((20 : Int32) &&& 31).toUInt32).toInt32))) T_208.heap n0 Zs_266 Fa_259 gg_207 Fq_208_0 Fq_208_1 Fq_208_2 Fq_208_3 (Nat.ne_of_lt (Nat.lt_of_lt_of_le Fq_201_0.lt (Nat.le_of_eq g_207.symm))) (Nat.ne_of_lt (Nat.lt_of_lt_of_le Fq_201_3.lt (Nat.le_of_eq g_207.symm))) Fa_260 Fa_261 Fa_262 Fa_263 Fa_264 hw0 (own_fat2 _ _ _) (own_fbd (own_drb _) (own_drb _) (own_drb _)) Fa_265 hsf ht0 ht1) Fa_259 at_107 ?_ 0
     rintro T_258 L_258 X_258 ⟨-, Nq_258, K_258, Fq_258_0, Fq_258_1, Fq_258_2⟩
     have N_258 := Fr.app N_208 Nq_258
     refine o_iconst X_258 Hq 0 at_110 rfl (o_istore X_258 Hq at_111 (l' := #[iv p1, iv p2, iv p3, iv p4, iv p5, iv p6, iv (own_draw p1), iv (own_draw ((p1.toUInt32 >>> ((10 : Int32) &&& 31).toUInt32).toInt32)), iv (own_draw ((p1.toUInt32 >>> ((20 : Int32) &&& 31).toUInt32).toInt32)), rv b_4, iv 2, iv 1, iv (((p2.toUInt32 >>> ((3 : Int32) &&& 31).toUInt32).toInt32) &&& (3 : Int32)), rv b__201, rv b_207, iv 0, iv 2, iv 0, .unset]) rfl (o_iload X_258 Hq at_113 rfl (o_iconst X_258 Hq 1 at_115 rfl (o_icmpNo X_258 Hq at_116 (by decide) (o_iload X_258 Hq at_119 rfl (o_bipush X_258 Hq 32 at_121 rfl (o_icmpNo X_258 Hq at_123 (flt ht0).2.2.1 (o_iconst X_258 Hq 1 at_126 rfl (o_istore X_258 Hq at_127 (l' := #[iv p1, iv p2, iv p3, iv p4, iv p5, iv p6, iv (own_draw p1), iv (own_draw ((p1.toUInt32 >>> ((10 : Int32) &&& 31).toUInt32).toInt32)), iv (own_draw ((p1.toUInt32 >>> ((20 : Int32) &&& 31).toUInt32).toInt32)), rv b_4, iv 2, iv 1, iv (((p2.toUInt32 >>> ((3 : Int32) &&& 31).toUInt32).toInt32) &&& (3 : Int32)), rv b__201, rv b_207, iv 0, iv 2, iv 1, .unset]) rfl (o_iload X_258 Hq at_129 rfl (o_iconst X_258 Hq 2 at_131 rfl (o_icmpNo X_258 Hq at_132 (by decide) (o_iload X_258 Hq at_135 rfl (o_bipush X_258 Hq 32 at_137 rfl (o_icmpYes X_258 Hq (pc' := 161) at_139 (tlt ht1).2.2.1 ?_)))))))))))))))
     refine o_iload X_258 Hq at_161 rfl (o_istore X_258 Hq at_163 (l' := #[iv p1, iv p2, iv p3, iv p4, iv p5, iv p6, iv (own_draw p1), iv (own_draw ((p1.toUInt32 >>> ((10 : Int32) &&& 31).toUInt32).toInt32)), iv (own_draw ((p1.toUInt32 >>> ((20 : Int32) &&& 31).toUInt32).toInt32)), rv b_4, iv 2, iv 1, iv (((p2.toUInt32 >>> ((3 : Int32) &&& 31).toUInt32).toInt32) &&& (3 : Int32)), rv b__201, rv b_207, iv 0, iv 2, iv 1, iv 2]) rfl (o_iload X_258 Hq at_165 rfl (o_iload X_258 Hq at_167 rfl (o_icmpNo X_258 Hq at_169 (by decide) (o_aload X_258 Hq at_172 rfl rfl (o_iload X_258 Hq at_174 rfl (o_iconst X_258 Hq 1 at_176 rfl (o_isub X_258 Hq at_177 ?_))))))))
     show own_Go _ _ _ _ (T_258.setTop (mkF m 178 #[iv p1, iv p2, iv p3, iv p4, iv p5, iv p6, iv (own_draw p1), iv (own_draw ((p1.toUInt32 >>> ((10 : Int32) &&& 31).toUInt32).toInt32)), iv (own_draw ((p1.toUInt32 >>> ((20 : Int32) &&& 31).toUInt32).toInt32)), rv b_4, iv 2, iv 1, iv (((p2.toUInt32 >>> ((3 : Int32) &&& 31).toUInt32).toInt32) &&& (3 : Int32)), rv b__201, rv b_207, iv 0, iv 2, iv 1, iv 2] [(.int 1), (.ref b_4)]))
     have Fa_267 := ((((V_10.keep K_201 nin0).ext E_207).keep K_208 (ninS (Nat.ne_of_lt (Nat.lt_of_lt_of_le (V_10.keep K_201 nin0).lt (Nat.le_of_eq g_207.symm))) nin0)).keep K_258 (ninS (Nat.ne_of_lt (Nat.lt_of_lt_of_le (V_10.keep K_201 nin0).lt (Nat.le_of_eq g_207.symm))) nin0))
     obtain ⟨cl_268, Ar_268, qk_268, Sz_268, Ng_268, Hs_268, Gs_268⟩ := id Fa_267
     refine own_st (X_258.caload hx (j := (1 : Int32)) (v := (.int (own_draw ((p1.toUInt32 >>> ((10 : Int32) &&& 31).toUInt32).toInt32)))) Ar_268.1 (State.isArrayOf_alike hZ.alike Ar_268.2.1) Ar_268.2.2 (inb_of Sz_268 ⟨by decide, by decide⟩) (Hs_268.at (j := (1 : Int32)) (inb_of Sz_268 ⟨by decide, by decide⟩) rfl) (g := (mkF m 178 #[iv p1, iv p2, iv p3, iv p4, iv p5, iv p6, iv (own_draw p1), iv (own_draw ((p1.toUInt32 >>> ((10 : Int32) &&& 31).toUInt32).toInt32)), iv (own_draw ((p1.toUInt32 >>> ((20 : Int32) &&& 31).toUInt32).toInt32)), rv b_4, iv 2, iv 1, iv (((p2.toUInt32 >>> ((3 : Int32) &&& 31).toUInt32).toInt32) &&& (3 : Int32)), rv b__201, rv b_207, iv 0, iv 2, iv 1, iv 2] [(.int 1), (.ref b_4)])) rfl rfl (hb hby at_178)) ?_
     show own_Go _ _ _ _ (T_258.setTop (mkF m 179 #[iv p1, iv p2, iv p3, iv p4, iv p5, iv p6, iv (own_draw p1), iv (own_draw ((p1.toUInt32 >>> ((10 : Int32) &&& 31).toUInt32).toInt32)), iv (own_draw ((p1.toUInt32 >>> ((20 : Int32) &&& 31).toUInt32).toInt32)), rv b_4, iv 2, iv 1, iv (((p2.toUInt32 >>> ((3 : Int32) &&& 31).toUInt32).toInt32) &&& (3 : Int32)), rv b__201, rv b_207, iv 0, iv 2, iv 1, iv 2] [(.int (own_draw ((p1.toUInt32 >>> ((10 : Int32) &&& 31).toUInt32).toInt32)))]))
     refine o_bipush X_258 Hq 32 at_179 rfl (o_icmpYes X_258 Hq (pc' := 231) at_181 (tlt ht1).2.2.1 (o_iload X_258 Hq at_231 rfl (o_istore X_258 Hq at_233 (l' := #[iv p1, iv p2, iv p3, iv p4, iv p5, iv p6, iv (own_draw p1), iv (own_draw ((p1.toUInt32 >>> ((10 : Int32) &&& 31).toUInt32).toInt32)), iv (own_draw ((p1.toUInt32 >>> ((20 : Int32) &&& 31).toUInt32).toInt32)), rv b_4, iv 2, iv 1, iv (((p2.toUInt32 >>> ((3 : Int32) &&& 31).toUInt32).toInt32) &&& (3 : Int32)), rv b__201, rv b_207, iv 1, iv 2, iv 1, iv 2]) rfl (o_iload X_258 Hq at_235 rfl (o_istore X_258 Hq at_237 (l' := #[iv p1, iv p2, iv p3, iv p4, iv p5, iv p6, iv (own_draw p1), iv (own_draw ((p1.toUInt32 >>> ((10 : Int32) &&& 31).toUInt32).toInt32)), iv (own_draw ((p1.toUInt32 >>> ((20 : Int32) &&& 31).toUInt32).toInt32)), rv b_4, iv 2, iv 1, iv (((p2.toUInt32 >>> ((3 : Int32) &&& 31).toUInt32).toInt32) &&& (3 : Int32)), rv b__201, rv b_207, iv 1, iv 2, iv 1, iv 2]) rfl ?_)))))
     have Fa_269 := (Fa_259.keep K_258)
     have Fa_270 := (Fa_260.keep K_258)
     have Fa_271 := (Fa_261.keep K_258 (ninS (Nat.ne_of_lt (Nat.lt_of_lt_of_le Fq_201_0.lt (Nat.le_of_eq g_207.symm))) nin0))
     have Fa_272 := (Fa_262.keep K_258 (ninS (Nat.ne_of_lt (Nat.lt_of_lt_of_le Fq_201_0.lt (Nat.le_of_eq g_207.symm))) nin0))
     have Fa_273 := (Fa_263.keep K_258 (ninS (Nat.ne_of_lt (Nat.lt_of_lt_of_le Fq_201_3.lt (Nat.le_of_eq g_207.symm))) nin0))
     have Fa_274 := (own_Sta_keep Fa_264 K_258 (nsS (Fa_259.nostat) ns0))
     have Fa_275 := (own_Sta_keep Fa_265 K_258 (nsS (Fa_259.nostat) ns0))
     have Zs_276 : n0 ≤ T_258.heap.size := (Nat.le_trans Zs_266 K_258.1)
     have Kp_277 : Keep h0 T_258.heap [] := (((Kp_206.ext E_207).trans K_208 (allS (Or.inr sz_207) all0)).trans K_258 (allS (Or.inr sz_207) all0))
     have Ks_278 := (Nat.le_trans (Nat.le_trans (Nat.le_trans (Nat.le_trans (Nat.le_trans (Nat.le_trans (Nat.le_trans (Nat.le_trans (Nat.le_refl h0.size) E_4.1) (Keep.of_wr W_6).1) (Keep.of_wr W_8).1) (Keep.of_wr W_10).1) K_201.1) E_207.1) K_208.1) K_258.1)
     exact own_tail p1 p2 p3 p4 p5 p6 w sfv (own_draw p1) (own_draw ((p1.toUInt32 >>> ((10 : Int32) &&& 31).toUInt32).toInt32)) (own_draw ((p1.toUInt32 >>> ((20 : Int32) &&& 31).toUInt32).toInt32)) (2 : Int32) (1 : Int32) (((p2.toUInt32 >>> ((3 : Int32) &&& 31).toUInt32).toInt32) &&& (3 : Int32)) (1 : Int32) (2 : Int32) (2 : Int32) b_207 b_4 b__201 t__201 k_4 [(.int (own_draw p1)), (.int (own_draw ((p1.toUInt32 >>> ((10 : Int32) &&& 31).toUInt32).toInt32))), (.int (own_draw ((p1.toUInt32 >>> ((20 : Int32) &&& 31).toUInt32).toInt32)))] (.int (0 : Int32)) kt__201 [(.int (((own_draw p1).toInt8.toInt32).toInt8.toInt32)), (.int (((own_draw ((p1.toUInt32 >>> ((10 : Int32) &&& 31).toUInt32).toInt32)).toInt8.toInt32).toInt8.toInt32))] (.int (0 : Int32)) (own_f (own_draw p1) (own_draw ((p1.toUInt32 >>> ((10 : Int32) &&& 31).toUInt32).toInt32)) (own_draw ((p1.toUInt32 >>> ((20 : Int32) &&& 31).toUInt32).toInt32))) _ _ X_258 hx hZ hw hby hml hown Bd.returns hlk rfl N_258 Zs_276 Kp_277 hS0 Ks_278 (by decide) (by decide) Fa_269 gg_207 sz_207 Fq_258_0 Fq_258_1 Fq_258_2 Fa_267 Fa_270 Fa_271 Fa_272 Fa_273 Fa_274 Fa_275 (Nat.ne_of_lt (Nat.lt_of_lt_of_le Fq_201_0.lt (Nat.le_of_eq g_207.symm))) (Nat.ne_of_lt (Nat.lt_of_lt_of_le Fq_201_3.lt (Nat.le_of_eq g_207.symm))) (Nat.ne_of_lt (Nat.lt_of_lt_of_le (V_10.keep K_201 nin0).lt (Nat.le_of_eq g_207.symm))) hw0 hsf (own_fcs _ _ _) (own_fat2 _ _ _) (own_fbd (own_drb _) (own_drb _) (own_drb _)) (by decide) (by decide) (by decide) (by decide)
    ·refine o_aload X_208 Hq at_105 rfl rfl ?_
     have Fa_280 := (A_207.keep K_208)
     have Fa_281 := (Fa_209.keep K_208)
     have Fa_282 := (Fa_210.keep K_208 (ninS (Nat.ne_of_lt (Nat.lt_of_lt_of_le Fq_201_0.lt (Nat.le_of_eq g_207.symm))) nin0))
     have Fa_283 := (Fa_211.keep K_208 (ninS (Nat.ne_of_lt (Nat.lt_of_lt_of_le Fq_201_0.lt (Nat.le_of_eq g_207.symm))) nin0))
     have Fa_284 := (Fa_212.keep K_208 (ninS (Nat.ne_of_lt (Nat.lt_of_lt_of_le Fq_201_3.lt (Nat.le_of_eq g_207.symm))) nin0))
     have Fa_285 := (own_Sta_keep Fa_213 K_208 (nsS (A_207.nostat) ns0))
     have Fa_286 := (own_Sta_keep ((own_Sta_keep ((((S2.ext E_4).wr W_6).wr W_8).wr W_10) K_201 ns0).ext E_207) K_208 (nsS (A_207.nostat) ns0))
     have Zs_287 : n0 ≤ T_208.heap.size := (Nat.le_trans Zs_214 K_208.1)
     refine c_U0v X_208 Hq rfl hZ hown hml (k0_31U1 hw) (rmtrim2_ff hw b_207 b__201 t__201 kt__201 [(.int (((own_draw p1).toInt8.toInt32).toInt8.toInt32)), (.int (((own_draw ((p1.toUInt32 >>> ((10 : Int32) &&& 31).toUInt32).toInt32)).toInt8.toInt32).toInt8.toInt32))] (.int (0 : Int32)) w sfv (own_f (own_draw p1) (own_draw ((p1.toUInt32 >>> ((10 : Int32) &&& 31).toUInt32).toInt32)) (own_draw ((p1.toUInt32 >>> ((20 : Int32) &&& 31).toUInt32).toInt32))) T_208.heap n0 Zs_287 Fa_280 gg_207 Fq_208_0 Fq_208_1 Fq_208_2 Fq_208_3 (Nat.ne_of_lt (Nat.lt_of_lt_of_le Fq_201_0.lt (Nat.le_of_eq g_207.symm))) (Nat.ne_of_lt (Nat.lt_of_lt_of_le Fq_201_3.lt (Nat.le_of_eq g_207.symm))) Fa_281 Fa_282 Fa_283 Fa_284 Fa_285 hw0 (own_fat2 _ _ _) (own_fbd (own_drb _) (own_drb _) (own_drb _)) Fa_286 hsf ht0 ht1) Fa_280 at_107 ?_ 0
     rintro T_279 L_279 X_279 ⟨-, Nq_279, K_279, Fq_279_0, Fq_279_1, Fq_279_2⟩
     have N_279 := Fr.app N_208 Nq_279
     refine o_iconst X_279 Hq 0 at_110 rfl (o_istore X_279 Hq at_111 (l' := #[iv p1, iv p2, iv p3, iv p4, iv p5, iv p6, iv (own_draw p1), iv (own_draw ((p1.toUInt32 >>> ((10 : Int32) &&& 31).toUInt32).toInt32)), iv (own_draw ((p1.toUInt32 >>> ((20 : Int32) &&& 31).toUInt32).toInt32)), rv b_4, iv 2, iv 1, iv (((p2.toUInt32 >>> ((3 : Int32) &&& 31).toUInt32).toInt32) &&& (3 : Int32)), rv b__201, rv b_207, iv 0, iv 2, iv 0, .unset]) rfl (o_iload X_279 Hq at_113 rfl (o_iconst X_279 Hq 1 at_115 rfl (o_icmpNo X_279 Hq at_116 (by decide) (o_iload X_279 Hq at_119 rfl (o_bipush X_279 Hq 32 at_121 rfl (o_icmpNo X_279 Hq at_123 (flt ht0).2.2.1 (o_iconst X_279 Hq 1 at_126 rfl (o_istore X_279 Hq at_127 (l' := #[iv p1, iv p2, iv p3, iv p4, iv p5, iv p6, iv (own_draw p1), iv (own_draw ((p1.toUInt32 >>> ((10 : Int32) &&& 31).toUInt32).toInt32)), iv (own_draw ((p1.toUInt32 >>> ((20 : Int32) &&& 31).toUInt32).toInt32)), rv b_4, iv 2, iv 1, iv (((p2.toUInt32 >>> ((3 : Int32) &&& 31).toUInt32).toInt32) &&& (3 : Int32)), rv b__201, rv b_207, iv 0, iv 2, iv 1, .unset]) rfl (o_iload X_279 Hq at_129 rfl (o_iconst X_279 Hq 2 at_131 rfl (o_icmpNo X_279 Hq at_132 (by decide) (o_iload X_279 Hq at_135 rfl (o_bipush X_279 Hq 32 at_137 rfl (o_icmpNo X_279 Hq at_139 (flt ht1).2.2.1 ?_)))))))))))))))
     refine o_iconst X_279 Hq 2 at_142 rfl (o_istore X_279 Hq at_143 (l' := #[iv p1, iv p2, iv p3, iv p4, iv p5, iv p6, iv (own_draw p1), iv (own_draw ((p1.toUInt32 >>> ((10 : Int32) &&& 31).toUInt32).toInt32)), iv (own_draw ((p1.toUInt32 >>> ((20 : Int32) &&& 31).toUInt32).toInt32)), rv b_4, iv 2, iv 1, iv (((p2.toUInt32 >>> ((3 : Int32) &&& 31).toUInt32).toInt32) &&& (3 : Int32)), rv b__201, rv b_207, iv 0, iv 2, iv 2, .unset]) rfl (o_iload X_279 Hq at_145 rfl (o_iconst X_279 Hq 3 at_147 rfl (o_icmpYes X_279 Hq (pc' := 161) at_148 (by decide) (o_iload X_279 Hq at_161 rfl (o_istore X_279 Hq at_163 (l' := #[iv p1, iv p2, iv p3, iv p4, iv p5, iv p6, iv (own_draw p1), iv (own_draw ((p1.toUInt32 >>> ((10 : Int32) &&& 31).toUInt32).toInt32)), iv (own_draw ((p1.toUInt32 >>> ((20 : Int32) &&& 31).toUInt32).toInt32)), rv b_4, iv 2, iv 1, iv (((p2.toUInt32 >>> ((3 : Int32) &&& 31).toUInt32).toInt32) &&& (3 : Int32)), rv b__201, rv b_207, iv 0, iv 2, iv 2, iv 2]) rfl (o_iload X_279 Hq at_165 rfl (o_iload X_279 Hq at_167 rfl (o_icmpYes X_279 Hq (pc' := 231) at_169 (by decide) (o_iload X_279 Hq at_231 rfl (o_istore X_279 Hq at_233 (l' := #[iv p1, iv p2, iv p3, iv p4, iv p5, iv p6, iv (own_draw p1), iv (own_draw ((p1.toUInt32 >>> ((10 : Int32) &&& 31).toUInt32).toInt32)), iv (own_draw ((p1.toUInt32 >>> ((20 : Int32) &&& 31).toUInt32).toInt32)), rv b_4, iv 2, iv 1, iv (((p2.toUInt32 >>> ((3 : Int32) &&& 31).toUInt32).toInt32) &&& (3 : Int32)), rv b__201, rv b_207, iv 2, iv 2, iv 2, iv 2]) rfl (o_iload X_279 Hq at_235 rfl (o_istore X_279 Hq at_237 (l' := #[iv p1, iv p2, iv p3, iv p4, iv p5, iv p6, iv (own_draw p1), iv (own_draw ((p1.toUInt32 >>> ((10 : Int32) &&& 31).toUInt32).toInt32)), iv (own_draw ((p1.toUInt32 >>> ((20 : Int32) &&& 31).toUInt32).toInt32)), rv b_4, iv 2, iv 1, iv (((p2.toUInt32 >>> ((3 : Int32) &&& 31).toUInt32).toInt32) &&& (3 : Int32)), rv b__201, rv b_207, iv 2, iv 2, iv 2, iv 2]) rfl ?_)))))))))))))
     have Fa_288 := (Fa_280.keep K_279)
     have Fa_289 := ((((V_10.keep K_201 nin0).ext E_207).keep K_208 (ninS (Nat.ne_of_lt (Nat.lt_of_lt_of_le (V_10.keep K_201 nin0).lt (Nat.le_of_eq g_207.symm))) nin0)).keep K_279 (ninS (Nat.ne_of_lt (Nat.lt_of_lt_of_le (V_10.keep K_201 nin0).lt (Nat.le_of_eq g_207.symm))) nin0))
     have Fa_290 := (Fa_281.keep K_279)
     have Fa_291 := (Fa_282.keep K_279 (ninS (Nat.ne_of_lt (Nat.lt_of_lt_of_le Fq_201_0.lt (Nat.le_of_eq g_207.symm))) nin0))
     have Fa_292 := (Fa_283.keep K_279 (ninS (Nat.ne_of_lt (Nat.lt_of_lt_of_le Fq_201_0.lt (Nat.le_of_eq g_207.symm))) nin0))
     have Fa_293 := (Fa_284.keep K_279 (ninS (Nat.ne_of_lt (Nat.lt_of_lt_of_le Fq_201_3.lt (Nat.le_of_eq g_207.symm))) nin0))
     have Fa_294 := (own_Sta_keep Fa_285 K_279 (nsS (Fa_280.nostat) ns0))
     have Fa_295 := (own_Sta_keep Fa_286 K_279 (nsS (Fa_280.nostat) ns0))
     have Zs_296 : n0 ≤ T_279.heap.size := (Nat.le_trans Zs_287 K_279.1)
     have Kp_297 : Keep h0 T_279.heap [] := (((Kp_206.ext E_207).trans K_208 (allS (Or.inr sz_207) all0)).trans K_279 (allS (Or.inr sz_207) all0))
     have Ks_298 := (Nat.le_trans (Nat.le_trans (Nat.le_trans (Nat.le_trans (Nat.le_trans (Nat.le_trans (Nat.le_trans (Nat.le_trans (Nat.le_refl h0.size) E_4.1) (Keep.of_wr W_6).1) (Keep.of_wr W_8).1) (Keep.of_wr W_10).1) K_201.1) E_207.1) K_208.1) K_279.1)
     exact own_tail p1 p2 p3 p4 p5 p6 w sfv (own_draw p1) (own_draw ((p1.toUInt32 >>> ((10 : Int32) &&& 31).toUInt32).toInt32)) (own_draw ((p1.toUInt32 >>> ((20 : Int32) &&& 31).toUInt32).toInt32)) (2 : Int32) (1 : Int32) (((p2.toUInt32 >>> ((3 : Int32) &&& 31).toUInt32).toInt32) &&& (3 : Int32)) (2 : Int32) (2 : Int32) (2 : Int32) b_207 b_4 b__201 t__201 k_4 [(.int (own_draw p1)), (.int (own_draw ((p1.toUInt32 >>> ((10 : Int32) &&& 31).toUInt32).toInt32))), (.int (own_draw ((p1.toUInt32 >>> ((20 : Int32) &&& 31).toUInt32).toInt32)))] (.int (0 : Int32)) kt__201 [(.int (((own_draw p1).toInt8.toInt32).toInt8.toInt32)), (.int (((own_draw ((p1.toUInt32 >>> ((10 : Int32) &&& 31).toUInt32).toInt32)).toInt8.toInt32).toInt8.toInt32))] (.int (0 : Int32)) (own_f (own_draw p1) (own_draw ((p1.toUInt32 >>> ((10 : Int32) &&& 31).toUInt32).toInt32)) (own_draw ((p1.toUInt32 >>> ((20 : Int32) &&& 31).toUInt32).toInt32))) _ _ X_279 hx hZ hw hby hml hown Bd.returns hlk rfl N_279 Zs_296 Kp_297 hS0 Ks_298 (by decide) (by decide) Fa_288 gg_207 sz_207 Fq_279_0 Fq_279_1 Fq_279_2 Fa_289 Fa_290 Fa_291 Fa_292 Fa_293 Fa_294 Fa_295 (Nat.ne_of_lt (Nat.lt_of_lt_of_le Fq_201_0.lt (Nat.le_of_eq g_207.symm))) (Nat.ne_of_lt (Nat.lt_of_lt_of_le Fq_201_3.lt (Nat.le_of_eq g_207.symm))) (Nat.ne_of_lt (Nat.lt_of_lt_of_le (V_10.keep K_201 nin0).lt (Nat.le_of_eq g_207.symm))) hw0 hsf (own_fcs _ _ _) (own_fat2 _ _ _) (own_fbd (own_drb _) (own_drb _) (own_drb _)) (by decide) (by decide) (by decide) (by decide)
  ·rw [hN]
   show own_Go _ _ _ _ (T_10.setTop (mkF m 69 #[iv p1, iv p2, iv p3, iv p4, iv p5, iv p6, iv (own_draw p1), iv (own_draw ((p1.toUInt32 >>> ((10 : Int32) &&& 31).toUInt32).toInt32)), iv (own_draw ((p1.toUInt32 >>> ((20 : Int32) &&& 31).toUInt32).toInt32)), rv b_4, iv 3, iv 1, iv (((p2.toUInt32 >>> ((3 : Int32) &&& 31).toUInt32).toInt32) &&& (3 : Int32)), .unset, .unset, .unset, .unset, .unset, .unset] []))
   refine o_iload X_10 Hq at_69 rfl (o_iload X_10 Hq at_71 rfl (o_iload X_10 Hq at_73 rfl (o_iload X_10 Hq at_75 rfl ?_)))
   have Fa_300 := ((((S1.ext E_4).wr W_6).wr W_8).wr W_10)
   have Zs_301 : n0 ≤ h_10.size := (Nat.le_trans (Nat.le_trans (Nat.le_trans (Nat.le_trans Z0 E_4.1) (Keep.of_wr W_6).1) (Keep.of_wr W_8).1) (Keep.of_wr W_10).1)
   refine c_S4 X_10 Hq e_10 hZ hown hml (k0_24 hw) (rmmake3 hw (own_draw p1) (own_draw ((p1.toUInt32 >>> ((10 : Int32) &&& 31).toUInt32).toInt32)) (own_draw ((p1.toUInt32 >>> ((20 : Int32) &&& 31).toUInt32).toInt32)) w h_10 n0 Zs_301 Fa_300 hw0 (own_drn _) (own_drn _) (own_drn _) (own_drb _).1 (own_drb _).1 (own_drb _).1) at_77 ?_ 0
   rintro T_299 L_299 _ X_299 ⟨b__299, t__299, kt__299, ⟨⟩, Nq_299, K_299, gq_299_b, sq_299_b, Fq_299_0, Fq_299_1, Fq_299_2, Fq_299_3⟩
   have N_299 := Fr.app N_10 Nq_299
   have Kp_302 : Keep h0 h_10 [] := (((((Keep.refl h0 []).ext E_4).wr W_6 (Or.inr sz_4)).wr W_8 (Or.inr sz_4)).wr W_10 (Or.inr sz_4))
   have szq_299_b : h0.size ≤ b__299 := Nat.le_trans Kp_302.1 sq_299_b
   refine o_astore X_299 Hq at_80 rfl (l' := #[iv p1, iv p2, iv p3, iv p4, iv p5, iv p6, iv (own_draw p1), iv (own_draw ((p1.toUInt32 >>> ((10 : Int32) &&& 31).toUInt32).toInt32)), iv (own_draw ((p1.toUInt32 >>> ((20 : Int32) &&& 31).toUInt32).toInt32)), rv b_4, iv 3, iv 1, iv (((p2.toUInt32 >>> ((3 : Int32) &&& 31).toUInt32).toInt32) &&& (3 : Int32)), rv b__299, .unset, .unset, .unset, .unset, .unset]) rfl ?_
   have Zs_303 : n0 ≤ T_299.heap.size := (Nat.le_trans Zs_301 K_299.1)
   have Kp_304 : Keep h0 T_299.heap [] := (Kp_302.trans K_299 all0)
   obtain ⟨T_305, h_305, X_305, e_305, E_305, A_305, D_305, -, st_305⟩ := newO X_299 hx hZ hown (w_ hw 37 rfl) (w_ hw 38 rfl) (w_ hw 39 rfl) rfl (g := (mkF m 82 #[iv p1, iv p2, iv p3, iv p4, iv p5, iv p6, iv (own_draw p1), iv (own_draw ((p1.toUInt32 >>> ((10 : Int32) &&& 31).toUInt32).toInt32)), iv (own_draw ((p1.toUInt32 >>> ((20 : Int32) &&& 31).toUInt32).toInt32)), rv b_4, iv 3, iv 1, iv (((p2.toUInt32 >>> ((3 : Int32) &&& 31).toUInt32).toInt32) &&& (3 : Int32)), rv b__299, .unset, .unset, .unset, .unset, .unset] [])) rfl (hb hby at_82) (by decide) (by decide)
   obtain ⟨b_305, g_305⟩ : ∃ z, z = T_299.heap.size := ⟨_, rfl⟩
   rw [← g_305] at A_305 D_305 st_305
   have gg_305 : n0 ≤ b_305 := Nat.le_trans Zs_303 (Nat.le_of_eq g_305.symm)
   have sz_305 : h0.size ≤ b_305 := Nat.le_trans Kp_304.1 (Nat.le_of_eq g_305.symm)
   have Fi_305_input : Fld Z h_305 b_305 "com/example/vernum/vernum/VersionScanner" "input" "Ljava/lang/String;" .null := D_305 (Or.inr (w_ hw 45 rfl)) (ty := (.object "java/lang/String")) (by decide)
   have Fi_305_end : Fld Z h_305 b_305 "com/example/vernum/vernum/VersionScanner" "end" "I" (.int (0 : Int32)) := D_305 (Or.inl (w_ hw 57 rfl)) (ty := .int) (by decide)
   have Fi_305_position : Fld Z h_305 b_305 "com/example/vernum/vernum/VersionScanner" "position" "I" (.int (0 : Int32)) := D_305 (Or.inl (w_ hw 64 rfl)) (ty := .int) (by decide)
   have Fi_305_peeked : Fld Z h_305 b_305 "com/example/vernum/vernum/VersionScanner" "peeked" "I" (.int (0 : Int32)) := D_305 (Or.inl (w_ hw 104 rfl)) (ty := .int) (by decide)
   refine own_st st_305 ?_
   show own_Go _ _ _ _ (T_305.setTop (mkF m 85 #[iv p1, iv p2, iv p3, iv p4, iv p5, iv p6, iv (own_draw p1), iv (own_draw ((p1.toUInt32 >>> ((10 : Int32) &&& 31).toUInt32).toInt32)), iv (own_draw ((p1.toUInt32 >>> ((20 : Int32) &&& 31).toUInt32).toInt32)), rv b_4, iv 3, iv 1, iv (((p2.toUInt32 >>> ((3 : Int32) &&& 31).toUInt32).toInt32) &&& (3 : Int32)), rv b__299, .unset, .unset, .unset, .unset, .unset] [(.ref b_305)]))
   refine o_dup X_305 Hq at_85 rfl (o_aload X_305 Hq at_86 rfl rfl ?_)
   have Fa_307 := (Fq_299_0.ext E_305)
   have Fa_308 := (Fq_299_1.ext E_305)
   have Fa_309 := (Fq_299_2.ext E_305)
   have Fa_310 := (Fq_299_3.ext E_305)
   have Fa_311 := ((own_Sta_keep Fa_300 K_299 ns0).ext E_305)
   have Zs_312 : n0 ≤ h_305.size := (Nat.le_trans Zs_303 E_305.1)
   refine c_I1v X_305 Hq e_305 hZ hown hml (k0_28 hw) (rm9 hw b_305 b__299 t__299 kt__299 (3 : Int32) [(.int (((own_draw p1).toInt8.toInt32).toInt8.toInt32)), (.int (((own_draw ((p1.toUInt32 >>> ((10 : Int32) &&& 31).toUInt32).toInt32)).toInt8.toInt32).toInt8.toInt32)), (.int (((own_draw ((p1.toUInt32 >>> ((20 : Int32) &&& 31).toUInt32).toInt32)).toInt8.toInt32).toInt8.toInt32))] (.int (0 : Int32)) w h_305 n0 Zs_312 A_305 gg_305 Fi_305_input Fi_305_end Fi_305_position Fi_305_peeked (Nat.ne_of_lt (Nat.lt_of_lt_of_le Fq_299_0.lt (Nat.le_of_eq g_305.symm))) (Nat.ne_of_lt (Nat.lt_of_lt_of_le Fq_299_3.lt (Nat.le_of_eq g_305.symm))) Fa_307 Fa_308 Fa_309 Fa_310 Fa_311 hw0) at_88 ?_ 1
   rintro T_306 L_306 X_306 ⟨-, Nq_306, K_306, Fq_306_0, Fq_306_1, Fq_306_2, Fq_306_3⟩
   have N_306 := Fr.app N_299 Nq_306
   refine o_astore X_306 Hq at_91 rfl (l' := #[iv p1, iv p2, iv p3, iv p4, iv p5, iv p6, iv (own_draw p1), iv (own_draw ((p1.toUInt32 >>> ((10 : Int32) &&& 31).toUInt32).toInt32)), iv (own_draw ((p1.toUInt32 >>> ((20 : Int32) &&& 31).toUInt32).toInt32)), rv b_4, iv 3, iv 1, iv (((p2.toUInt32 >>> ((3 : Int32) &&& 31).toUInt32).toInt32) &&& (3 : Int32)), rv b__299, rv b_305, .unset, .unset, .unset, .unset]) rfl (o_iconst X_306 Hq 0 at_93 rfl (o_istore X_306 Hq at_94 (l' := #[iv p1, iv p2, iv p3, iv p4, iv p5, iv p6, iv (own_draw p1), iv (own_draw ((p1.toUInt32 >>> ((10 : Int32) &&& 31).toUInt32).toInt32)), iv (own_draw ((p1.toUInt32 >>> ((20 : Int32) &&& 31).toUInt32).toInt32)), rv b_4, iv 3, iv 1, iv (((p2.toUInt32 >>> ((3 : Int32) &&& 31).toUInt32).toInt32) &&& (3 : Int32)), rv b__299, rv b_305, iv 0, .unset, .unset, .unset]) rfl (o_iload X_306 Hq at_96 rfl (o_istore X_306 Hq at_98 (l' := #[iv p1, iv p2, iv p3, iv p4, iv p5, iv p6, iv (own_draw p1), iv (own_draw ((p1.toUInt32 >>> ((10 : Int32) &&& 31).toUInt32).toInt32)), iv (own_draw ((p1.toUInt32 >>> ((20 : Int32) &&& 31).toUInt32).toInt32)), rv b_4, iv 3, iv 1, iv (((p2.toUInt32 >>> ((3 : Int32) &&& 31).toUInt32).toInt32) &&& (3 : Int32)), rv b__299, rv b_305, iv 0, iv 3, .unset, .unset]) rfl (o_iload X_306 Hq at_100 rfl (o_ifNo X_306 Hq at_102 (by decide) ?_))))))
   by_cases ht0 : (32 : Int32) < (own_draw p1)
   ·by_cases ht1 : (32 : Int32) < (own_draw ((p1.toUInt32 >>> ((10 : Int32) &&& 31).toUInt32).toInt32))
    ·by_cases ht2 : (32 : Int32) < (own_draw ((p1.toUInt32 >>> ((20 : Int32) &&& 31).toUInt32).toInt32))
     ·refine o_aload X_306 Hq at_105 rfl rfl ?_
      have Fa_314 := (A_305.keep K_306)
      have Fa_315 := (Fa_307.keep K_306)
      have Fa_316 := (Fa_308.keep K_306 (ninS (Nat.ne_of_lt (Nat.lt_of_lt_of_le Fq_299_0.lt (Nat.le_of_eq g_305.symm))) nin0))
      have Fa_317 := (Fa_309.keep K_306 (ninS (Nat.ne_of_lt (Nat.lt_of_lt_of_le Fq_299_0.lt (Nat.le_of_eq g_305.symm))) nin0))
      have Fa_318 := (Fa_310.keep K_306 (ninS (Nat.ne_of_lt (Nat.lt_of_lt_of_le Fq_299_3.lt (Nat.le_of_eq g_305.symm))) nin0))
      have Fa_319 := (own_Sta_keep Fa_311 K_306 (nsS (A_305.nostat) ns0))
      have Fa_320 := (own_Sta_keep ((own_Sta_keep ((((S2.ext E_4).wr W_6).wr W_8).wr W_10) K_299 ns0).ext E_305) K_306 (nsS (A_305.nostat) ns0))
      have Zs_321 : n0 ≤ T_306.heap.size := (Nat.le_trans Zs_312 K_306.1)
      refine c_U0v X_306 Hq rfl hZ hown hml (k0_31U1 hw) (rmtrim3_ttt hw b_305 b__299 t__299 kt__299 [(.int (((own_draw p1).toInt8.toInt32).toInt8.toInt32)), (.int (((own_draw ((p1.toUInt32 >>> ((10 : Int32) &&& 31).toUInt32).toInt32)).toInt8.toInt32).toInt8.toInt32)), (.int (((own_draw ((p1.toUInt32 >>> ((20 : Int32) &&& 31).toUInt32).toInt32)).toInt8.toInt32).toInt8.toInt32))] (.int (0 : Int32)) w sfv (own_f (own_draw p1) (own_draw ((p1.toUInt32 >>> ((10 : Int32) &&& 31).toUInt32).toInt32)) (own_draw ((p1.toUInt32 >>> ((20 : Int32) &&& 31).toUInt32).toInt32))) T_306.heap n0 Zs_321 Fa_314 gg_305 Fq_306_0 Fq_306_1 Fq_306_2 Fq_306_3 (Nat.ne_of_lt (Nat.lt_of_lt_of_le Fq_299_0.lt (Nat.le_of_eq g_305.symm))) (Nat.ne_of_lt (Nat.lt_of_lt_of_le Fq_299_3.lt (Nat.le_of_eq g_305.symm))) Fa_315 Fa_316 Fa_317 Fa_318 Fa_319 hw0 (own_fat3 _ _ _) (own_fbd (own_drb _) (own_drb _) (own_drb _)) Fa_320 hsf ht0 ht1 ht2) Fa_314 at_107 ?_ 0
      rintro T_313 L_313 X_313 ⟨-, Nq_313, K_313, Fq_313_0, Fq_313_1, Fq_313_2⟩
      have N_313 := Fr.app N_306 Nq_313
      refine o_iconst X_313 Hq 0 at_110 rfl (o_istore X_313 Hq at_111 (l' := #[iv p1, iv p2, iv p3, iv p4, iv p5, iv p6, iv (own_draw p1), iv (own_draw ((p1.toUInt32 >>> ((10 : Int32) &&& 31).toUInt32).toInt32)), iv (own_draw ((p1.toUInt32 >>> ((20 : Int32) &&& 31).toUInt32).toInt32)), rv b_4, iv 3, iv 1, iv (((p2.toUInt32 >>> ((3 : Int32) &&& 31).toUInt32).toInt32) &&& (3 : Int32)), rv b__299, rv b_305, iv 0, iv 3, iv 0, .unset]) rfl (o_iload X_313 Hq at_113 rfl (o_iconst X_313 Hq 1 at_115 rfl (o_icmpNo X_313 Hq at_116 (by decide) (o_iload X_313 Hq at_119 rfl (o_bipush X_313 Hq 32 at_121 rfl (o_icmpYes X_313 Hq (pc' := 161) at_123 (tlt ht0).2.2.1 (o_iload X_313 Hq at_161 rfl (o_istore X_313 Hq at_163 (l' := #[iv p1, iv p2, iv p3, iv p4, iv p5, iv p6, iv (own_draw p1), iv (own_draw ((p1.toUInt32 >>> ((10 : Int32) &&& 31).toUInt32).toInt32)), iv (own_draw ((p1.toUInt32 >>> ((20 : Int32) &&& 31).toUInt32).toInt32)), rv b_4, iv 3, iv 1, iv (((p2.toUInt32 >>> ((3 : Int32) &&& 31).toUInt32).toInt32) &&& (3 : Int32)), rv b__299, rv b_305, iv 0, iv 3, iv 0, iv 3]) rfl (o_iload X_313 Hq at_165 rfl (o_iload X_313 Hq at_167 rfl (o_icmpNo X_313 Hq at_169 (by decide) (o_aload X_313 Hq at_172 rfl rfl (o_iload X_313 Hq at_174 rfl (o_iconst X_313 Hq 1 at_176 rfl ?_)))))))))))))))
      refine o_isub X_313 Hq at_177 ?_
      show own_Go _ _ _ _ (T_313.setTop (mkF m 178 #[iv p1, iv p2, iv p3, iv p4, iv p5, iv p6, iv (own_draw p1), iv (own_draw ((p1.toUInt32 >>> ((10 : Int32) &&& 31).toUInt32).toInt32)), iv (own_draw ((p1.toUInt32 >>> ((20 : Int32) &&& 31).toUInt32).toInt32)), rv b_4, iv 3, iv 1, iv (((p2.toUInt32 >>> ((3 : Int32) &&& 31).toUInt32).toInt32) &&& (3 : Int32)), rv b__299, rv b_305, iv 0, iv 3, iv 0, iv 3] [(.int 2), (.ref b_4)]))
      have Fa_322 := ((((V_10.keep K_299 nin0).ext E_305).keep K_306 (ninS (Nat.ne_of_lt (Nat.lt_of_lt_of_le (V_10.keep K_299 nin0).lt (Nat.le_of_eq g_305.symm))) nin0)).keep K_313 (ninS (Nat.ne_of_lt (Nat.lt_of_lt_of_le (V_10.keep K_299 nin0).lt (Nat.le_of_eq g_305.symm))) nin0))
      obtain ⟨cl_323, Ar_323, qk_323, Sz_323, Ng_323, Hs_323, Gs_323⟩ := id Fa_322
      refine own_st (X_313.caload hx (j := (2 : Int32)) (v := (.int (own_draw ((p1.toUInt32 >>> ((20 : Int32) &&& 31).toUInt32).toInt32)))) Ar_323.1 (State.isArrayOf_alike hZ.alike Ar_323.2.1) Ar_323.2.2 (inb_of Sz_323 ⟨by decide, by decide⟩) (Hs_323.at (j := (2 : Int32)) (inb_of Sz_323 ⟨by decide, by decide⟩) rfl) (g := (mkF m 178 #[iv p1, iv p2, iv p3, iv p4, iv p5, iv p6, iv (own_draw p1), iv (own_draw ((p1.toUInt32 >>> ((10 : Int32) &&& 31).toUInt32).toInt32)), iv (own_draw ((p1.toUInt32 >>> ((20 : Int32) &&& 31).toUInt32).toInt32)), rv b_4, iv 3, iv 1, iv (((p2.toUInt32 >>> ((3 : Int32) &&& 31).toUInt32).toInt32) &&& (3 : Int32)), rv b__299, rv b_305, iv 0, iv 3, iv 0, iv 3] [(.int 2), (.ref b_4)])) rfl rfl (hb hby at_178)) ?_
      show own_Go _ _ _ _ (T_313.setTop (mkF m 179 #[iv p1, iv p2, iv p3, iv p4, iv p5, iv p6, iv (own_draw p1), iv (own_draw ((p1.toUInt32 >>> ((10 : Int32) &&& 31).toUInt32).toInt32)), iv (own_draw ((p1.toUInt32 >>> ((20 : Int32) &&& 31).toUInt32).toInt32)), rv b_4, iv 3, iv 1, iv (((p2.toUInt32 >>> ((3 : Int32) &&& 31).toUInt32).toInt32) &&& (3 : Int32)), rv b__299, rv b_305, iv 0, iv 3, iv 0, iv 3] [(.int (own_draw ((p1.toUInt32 >>> ((20 : Int32) &&& 31).toUInt32).toInt32)))]))
      refine o_bipush X_313 Hq 32 at_179 rfl (o_icmpYes X_313 Hq (pc' := 231) at_181 (tlt ht2).2.2.1 (o_iload X_313 Hq at_231 rfl (o_istore X_313 Hq at_233 (l' := #[iv p1, iv p2, iv p3, iv p4, iv p5, iv p6, iv (own_draw p1), iv (own_draw ((p1.toUInt32 >>> ((10 : Int32) &&& 31).toUInt32).toInt32)), iv (own_draw ((p1.toUInt32 >>> ((20 : Int32) &&& 31).toUInt32).toInt32)), rv b_4, iv 3, iv 1, iv (((p2.toUInt32 >>> ((3 : Int32) &&& 31).toUInt32).toInt32) &&& (3 : Int32)), rv b__299, rv b_305, iv 0, iv 3, iv 0, iv 3]) rfl (o_iload X_313 Hq at_235 rfl (o_istore X_313 Hq at_237 (l' := #[iv p1, iv p2, iv p3, iv p4, iv p5, iv p6, iv (own_draw p1), iv (own_draw ((p1.toUInt32 >>> ((10 : Int32) &&& 31).toUInt32).toInt32)), iv (own_draw ((p1.toUInt32 >>> ((20 : Int32) &&& 31).toUInt32).toInt32)), rv b_4, iv 3, iv 1, iv (((p2.toUInt32 >>> ((3 : Int32) &&& 31).toUInt32).toInt32) &&& (3 : Int32)), rv b__299, rv b_305, iv 0, iv 3, iv 0, iv 3]) rfl ?_)))))
      have Fa_324 := (Fa_314.keep K_313)
      have Fa_325 := (Fa_315.keep K_313)
      have Fa_326 := (Fa_316.keep K_313 (ninS (Nat.ne_of_lt (Nat.lt_of_lt_of_le Fq_299_0.lt (Nat.le_of_eq g_305.symm))) nin0))
      have Fa_327 := (Fa_317.keep K_313 (ninS (Nat.ne_of_lt (Nat.lt_of_lt_of_le Fq_299_0.lt (Nat.le_of_eq g_305.symm))) nin0))
      have Fa_328 := (Fa_318.keep K_313 (ninS (Nat.ne_of_lt (Nat.lt_of_lt_of_le Fq_299_3.lt (Nat.le_of_eq g_305.symm))) nin0))
      have Fa_329 := (own_Sta_keep Fa_319 K_313 (nsS (Fa_314.nostat) ns0))
      have Fa_330 := (own_Sta_keep Fa_320 K_313 (nsS (Fa_314.nostat) ns0))
      have Zs_331 : n0 ≤ T_313.heap.size := (Nat.le_trans Zs_321 K_313.1)
      have Kp_332 : Keep h0 T_313.heap [] := (((Kp_304.ext E_305).trans K_306 (allS (Or.inr sz_305) all0)).trans K_313 (allS (Or.inr sz_305) all0))
      have Ks_333 := (Nat.le_trans (Nat.le_trans (Nat.le_trans (Nat.le_trans (Nat.le_trans (Nat.le_trans (Nat.le_trans (Nat.le_trans (Nat.le_refl h0.size) E_4.1) (Keep.of_wr W_6).1) (Keep.of_wr W_8).1) (Keep.of_wr W_10).1) K_299.1) E_305.1) K_306.1) K_313.1)
      exact own_tail p1 p2 p3 p4 p5 p6 w sfv (own_draw p1) (own_draw ((p1.toUInt32 >>> ((10 : Int32) &&& 31).toUInt32).toInt32)) (own_draw ((p1.toUInt32 >>> ((20 : Int32) &&& 31).toUInt32).toInt32)) (3 : Int32) (1 : Int32) (((p2.toUInt32 >>> ((3 : Int32) &&& 31).toUInt32).toInt32) &&& (3 : Int32)) (0 : Int32) (3 : Int32) (3 : Int32) b_305 b_4 b__299 t__299 k_4 [(.int (own_draw p1)), (.int (own_draw ((p1.toUInt32 >>> ((10 : Int32) &&& 31).toUInt32).toInt32))), (.int (own_draw ((p1.toUInt32 >>> ((20 : Int32) &&& 31).toUInt32).toInt32)))] (.int (0 : Int32)) kt__299 [(.int (((own_draw p1).toInt8.toInt32).toInt8.toInt32)), (.int (((own_draw ((p1.toUInt32 >>> ((10 : Int32) &&& 31).toUInt32).toInt32)).toInt8.toInt32).toInt8.toInt32)), (.int (((own_draw ((p1.toUInt32 >>> ((20 : Int32) &&& 31).toUInt32).toInt32)).toInt8.toInt32).toInt8.toInt32))] (.int (0 : Int32)) (own_f (own_draw p1) (own_draw ((p1.toUInt32 >>> ((10 : Int32) &&& 31).toUInt32).toInt32)) (own_draw ((p1.toUInt32 >>> ((20 : Int32) &&& 31).toUInt32).toInt32))) _ _ X_313 hx hZ hw hby hml hown Bd.returns hlk rfl N_313 Zs_331 Kp_332 hS0 Ks_333 (by decide) (by decide) Fa_324 gg_305 sz_305 Fq_313_0 Fq_313_1 Fq_313_2 Fa_322 Fa_325 Fa_326 Fa_327 Fa_328 Fa_329 Fa_330 (Nat.ne_of_lt (Nat.lt_of_lt_of_le Fq_299_0.lt (Nat.le_of_eq g_305.symm))) (Nat.ne_of_lt (Nat.lt_of_lt_of_le Fq_299_3.lt (Nat.le_of_eq g_305.symm))) (Nat.ne_of_lt (Nat.lt_of_lt_of_le (V_10.keep K_299 nin0).lt (Nat.le_of_eq g_305.symm))) hw0 hsf (own_fcs _ _ _) (own_fat3 _ _ _) (own_fbd (own_drb _) (own_drb _) (own_drb _)) (by decide) (by decide) (by decide) (by decide)
     ·refine o_aload X_306 Hq at_105 rfl rfl ?_
      have Fa_335 := (A_305.keep K_306)
      have Fa_336 := (Fa_307.keep K_306)
      have Fa_337 := (Fa_308.keep K_306 (ninS (Nat.ne_of_lt (Nat.lt_of_lt_of_le Fq_299_0.lt (Nat.le_of_eq g_305.symm))) nin0))
      have Fa_338 := (Fa_309.keep K_306 (ninS (Nat.ne_of_lt (Nat.lt_of_lt_of_le Fq_299_0.lt (Nat.le_of_eq g_305.symm))) nin0))
      have Fa_339 := (Fa_310.keep K_306 (ninS (Nat.ne_of_lt (Nat.lt_of_lt_of_le Fq_299_3.lt (Nat.le_of_eq g_305.symm))) nin0))
      have Fa_340 := (own_Sta_keep Fa_311 K_306 (nsS (A_305.nostat) ns0))
      have Fa_341 := (own_Sta_keep ((own_Sta_keep ((((S2.ext E_4).wr W_6).wr W_8).wr W_10) K_299 ns0).ext E_305) K_306 (nsS (A_305.nostat) ns0))
      have Zs_342 : n0 ≤ T_306.heap.size := (Nat.le_trans Zs_312 K_306.1)
      refine c_U0v X_306 Hq rfl hZ hown hml (k0_31U1 hw) (rmtrim3_ttf hw b_305 b__299 t__299 kt__299 [(.int (((own_draw p1).toInt8.toInt32).toInt8.toInt32)), (.int (((own_draw ((p1.toUInt32 >>> ((10 : Int32) &&& 31).toUInt32).toInt32)).toInt8.toInt32).toInt8.toInt32)), (.int (((own_draw ((p1.toUInt32 >>> ((20 : Int32) &&& 31).toUInt32).toInt32)).toInt8.toInt32).toInt8.toInt32))] (.int (0 : Int32)) w sfv (own_f (own_draw p1) (own_draw ((p1.toUInt32 >>> ((10 : Int32) &&& 31).toUInt32).toInt32)) (own_draw ((p1.toUInt32 >>> ((20 : Int32) &&& 31).toUInt32).toInt32))) T_306.heap n0 Zs_342 Fa_335 gg_305 Fq_306_0 Fq_306_1 Fq_306_2 Fq_306_3 (Nat.ne_of_lt (Nat.lt_of_lt_of_le Fq_299_0.lt (Nat.le_of_eq g_305.symm))) (Nat.ne_of_lt (Nat.lt_of_lt_of_le Fq_299_3.lt (Nat.le_of_eq g_305.symm))) Fa_336 Fa_337 Fa_338 Fa_339 Fa_340 hw0 (own_fat3 _ _ _) (own_fbd (own_drb _) (own_drb _) (own_drb _)) Fa_341 hsf ht0 ht1 ht2) Fa_335 at_107 ?_ 0
      rintro T_334 L_334 X_334 ⟨-, Nq_334, K_334, Fq_334_0, Fq_334_1, Fq_334_2⟩
      have N_334 := Fr.app N_306 Nq_334
      refine o_iconst X_334 Hq 0 at_110 rfl (o_istore X_334 Hq at_111 (l' := #[iv p1, iv p2, iv p3, iv p4, iv p5, iv p6, iv (own_draw p1), iv (own_draw ((p1.toUInt32 >>> ((10 : Int32) &&& 31).toUInt32).toInt32)), iv (own_draw ((p1.toUInt32 >>> ((20 : Int32) &&& 31).toUInt32).toInt32)), rv b_4, iv 3, iv 1, iv (((p2.toUInt32 >>> ((3 : Int32) &&& 31).toUInt32).toInt32) &&& (3 : Int32)), rv b__299, rv b_305, iv 0, iv 3, iv 0, .unset]) rfl (o_iload X_334 Hq at_113 rfl (o_iconst X_334 Hq 1 at_115 rfl (o_icmpNo X_334 Hq at_116 (by decide) (o_iload X_334 Hq at_119 rfl (o_bipush X_334 Hq 32 at_121 rfl (o_icmpYes X_334 Hq (pc' := 161) at_123 (tlt ht0).2.2.1 (o_iload X_334 Hq at_161 rfl (o_istore X_334 Hq at_163 (l' := #[iv p1, iv p2, iv p3, iv p4, iv p5, iv p6, iv (own_draw p1), iv (own_draw ((p1.toUInt32 >>> ((10 : Int32) &&& 31).toUInt32).toInt32)), iv (own_draw ((p1.toUInt32 >>> ((20 : Int32) &&& 31).toUInt32).toInt32)), rv b_4, iv 3, iv 1, iv (((p2.toUInt32 >>> ((3 : Int32) &&& 31).toUInt32).toInt32) &&& (3 : Int32)), rv b__299, rv b_305, iv 0, iv 3, iv 0, iv 3]) rfl (o_iload X_334 Hq at_165 rfl (o_iload X_334 Hq at_167 rfl (o_icmpNo X_334 Hq at_169 (by decide) (o_aload X_334 Hq at_172 rfl rfl (o_iload X_334 Hq at_174 rfl (o_iconst X_334 Hq 1 at_176 rfl ?_)))))))))))))))
      refine o_isub X_334 Hq at_177 ?_
      show own_Go _ _ _ _ (T_334.setTop (mkF m 178 #[iv p1, iv p2, iv p3, iv p4, iv p5, iv p6, iv (own_draw p1), iv (own_draw ((p1.toUInt32 >>> ((10 : Int32) &&& 31).toUInt32).toInt32)), iv (own_draw ((p1.toUInt32 >>> ((20 : Int32) &&& 31).toUInt32).toInt32)), rv b_4, iv 3, iv 1, iv (((p2.toUInt32 >>> ((3 : Int32) &&& 31).toUInt32).toInt32) &&& (3 : Int32)), rv b__299, rv b_305, iv 0, iv 3, iv 0, iv 3] [(.int 2), (.ref b_4)]))
      have Fa_343 := ((((V_10.keep K_299 nin0).ext E_305).keep K_306 (ninS (Nat.ne_of_lt (Nat.lt_of_lt_of_le (V_10.keep K_299 nin0).lt (Nat.le_of_eq g_305.symm))) nin0)).keep K_334 (ninS (Nat.ne_of_lt (Nat.lt_of_lt_of_le (V_10.keep K_299 nin0).lt (Nat.le_of_eq g_305.symm))) nin0))
      obtain ⟨cl_344, Ar_344, qk_344, Sz_344, Ng_344, Hs_344, Gs_344⟩ := id Fa_343
      refine own_st (X_334.caload hx (j := (2 : Int32)) (v := (.int (own_draw ((p1.toUInt32 >>> ((20 : Int32) &&& 31).toUInt32).toInt32)))) Ar_344.1 (State.isArrayOf_alike hZ.alike Ar_344.2.1) Ar_344.2.2 (inb_of Sz_344 ⟨by decide, by decide⟩) (Hs_344.at (j := (2 : Int32)) (inb_of Sz_344 ⟨by decide, by decide⟩) rfl) (g := (mkF m 178 #[iv p1, iv p2, iv p3, iv p4, iv p5, iv p6, iv (own_draw p1), iv (own_draw ((p1.toUInt32 >>> ((10 : Int32) &&& 31).toUInt32).toInt32)), iv (own_draw ((p1.toUInt32 >>> ((20 : Int32) &&& 31).toUInt32).toInt32)), rv b_4, iv 3, iv 1, iv (((p2.toUInt32 >>> ((3 : Int32) &&& 31).toUInt32).toInt32) &&& (3 : Int32)), rv b__299, rv b_305, iv 0, iv 3, iv 0, iv 3] [(.int 2), (.ref b_4)])) rfl rfl (hb hby at_178)) ?_
      show own_Go _ _ _ _ (T_334.setTop (mkF m 179 #[iv p1, iv p2, iv p3, iv p4, iv p5, iv p6, iv (own_draw p1), iv (own_draw ((p1.toUInt32 >>> ((10 : Int32) &&& 31).toUInt32).toInt32)), iv (own_draw ((p1.toUInt32 >>> ((20 : Int32) &&& 31).toUInt32).toInt32)), rv b_4, iv 3, iv 1, iv (((p2.toUInt32 >>> ((3 : Int32) &&& 31).toUInt32).toInt32) &&& (3 : Int32)), rv b__299, rv b_305, iv 0, iv 3, iv 0, iv 3] [(.int (own_draw ((p1.toUInt32 >>> ((20 : Int32) &&& 31).toUInt32).toInt32)))]))
      refine o_bipush X_334 Hq 32 at_179 rfl (o_icmpNo X_334 Hq at_181 (flt ht2).2.2.1 (o_iinc X_334 Hq at_184 rfl (l' := #[iv p1, iv p2, iv p3, iv p4, iv p5, iv p6, iv (own_draw p1), iv (own_draw ((p1.toUInt32 >>> ((10 : Int32) &&& 31).toUInt32).toInt32)), iv (own_draw ((p1.toUInt32 >>> ((20 : Int32) &&& 31).toUInt32).toInt32)), rv b_4, iv 3, iv 1, iv (((p2.toUInt32 >>> ((3 : Int32) &&& 31).toUInt32).toInt32) &&& (3 : Int32)), rv b__299, rv b_305, iv 0, iv 3, iv 0, iv 2]) rfl (o_iload X_334 Hq at_187 rfl (o_iload X_334 Hq at_189 rfl (o_icmpNo X_334 Hq at_191 (by decide) (o_aload X_334 Hq at_194 rfl rfl (o_iload X_334 Hq at_196 rfl (o_iconst X_334 Hq 1 at_198 rfl (o_isub X_334 Hq at_199 ?_)))))))))
      show own_Go _ _ _ _ (T_334.setTop (mkF m 200 #[iv p1, iv p2, iv p3, iv p4, iv p5, iv p6, iv (own_draw p1), iv (own_draw ((p1.toUInt32 >>> ((10 : Int32) &&& 31).toUInt32).toInt32)), iv (own_draw ((p1.toUInt32 >>> ((20 : Int32) &&& 31).toUInt32).toInt32)), rv b_4, iv 3, iv 1, iv (((p2.toUInt32 >>> ((3 : Int32) &&& 31).toUInt32).toInt32) &&& (3 : Int32)), rv b__299, rv b_305, iv 0, iv 3, iv 0, iv 2] [(.int 1), (.ref b_4)]))
      obtain ⟨cl_345, Ar_345, qk_345, Sz_345, Ng_345, Hs_345, Gs_345⟩ := id Fa_343
      refine own_st (X_334.caload hx (j := (1 : Int32)) (v := (.int (own_draw ((p1.toUInt32 >>> ((10 : Int32) &&& 31).toUInt32).toInt32)))) Ar_345.1 (State.isArrayOf_alike hZ.alike Ar_345.2.1) Ar_345.2.2 (inb_of Sz_345 ⟨by decide, by decide⟩) (Hs_345.at (j := (1 : Int32)) (inb_of Sz_345 ⟨by decide, by decide⟩) rfl) (g := (mkF m 200 #[iv p1, iv p2, iv p3, iv p4, iv p5, iv p6, iv (own_draw p1), iv (own_draw ((p1.toUInt32 >>> ((10 : Int32) &&& 31).toUInt32).toInt32)), iv (own_draw ((p1.toUInt32 >>> ((20 : Int32) &&& 31).toUInt32).toInt32)), rv b_4, iv 3, iv 1, iv (((p2.toUInt32 >>> ((3 : Int32) &&& 31).toUInt32).toInt32) &&& (3 : Int32)), rv b__299, rv b_305, iv 0, iv 3, iv 0, iv 2] [(.int 1), (.ref b_4)])) rfl rfl (hb hby at_200)) ?_
      show own_Go _ _ _ _ (T_334.setTop (mkF m 201 #[iv p1, iv p2, iv p3, iv p4, iv p5, iv p6, iv (own_draw p1), iv (own_draw ((p1.toUInt32 >>> ((10 : Int32) &&& 31).toUInt32).toInt32)), iv (own_draw ((p1.toUInt32 >>> ((20 : Int32) &&& 31).toUInt32).toInt32)), rv b_4, iv 3, iv 1, iv (((p2.toUInt32 >>> ((3 : Int32) &&& 31).toUInt32).toInt32) &&& (3 : Int32)), rv b__299, rv b_305, iv 0, iv 3, iv 0, iv 2] [(.int (own_draw ((p1.toUInt32 >>> ((10 : Int32) &&& 31).toUInt32).toInt32)))]))
      refine o_bipush X_334 Hq 32 at_201 rfl (o_icmpYes X_334 Hq (pc' := 231) at_203 (tlt ht1).2.2.1 (o_iload X_334 Hq at_231 rfl (o_istore X_334 Hq at_233 (l' := #[iv p1, iv p2, iv p3, iv p4, iv p5, iv p6, iv (own_draw p1), iv (own_draw ((p1.toUInt32 >>> ((10 : Int32) &&& 31).toUInt32).toInt32)), iv (own_draw ((p1.toUInt32 >>> ((20 : Int32) &&& 31).toUInt32).toInt32)), rv b_4, iv 3, iv 1, iv (((p2.toUInt32 >>> ((3 : Int32) &&& 31).toUInt32).toInt32) &&& (3 : Int32)), rv b__299, rv b_305, iv 0, iv 3, iv 0, iv 2]) rfl (o_iload X_334 Hq at_235 rfl (o_istore X_334 Hq at_237 (l' := #[iv p1, iv p2, iv p3, iv p4, iv p5, iv p6, iv (own_draw p1), iv (own_draw ((p1.toUInt32 >>> ((10 : Int32) &&& 31).toUInt32).toInt32)), iv (own_draw ((p1.toUInt32 >>> ((20 : Int32) &&& 31).toUInt32).toInt32)), rv b_4, iv 3, iv 1, iv (((p2.toUInt32 >>> ((3 : Int32) &&& 31).toUInt32).toInt32) &&& (3 : Int32)), rv b__299, rv b_305, iv 0, iv 2, iv 0, iv 2]) rfl ?_)))))
      have Fa_346 := (Fa_335.keep K_334)
      have Fa_347 := (Fa_336.keep K_334)
      have Fa_348 := (Fa_337.keep K_334 (ninS (Nat.ne_of_lt (Nat.lt_of_lt_of_le Fq_299_0.lt (Nat.le_of_eq g_305.symm))) nin0))
      have Fa_349 := (Fa_338.keep K_334 (ninS (Nat.ne_of_lt (Nat.lt_of_lt_of_le Fq_299_0.lt (Nat.le_of_eq g_305.symm))) nin0))
      have Fa_350 := (Fa_339.keep K_334 (ninS (Nat.ne_of_lt (Nat.lt_of_lt_of_le Fq_299_3.lt (Nat.le_of_eq g_305.symm))) nin0))
      have Fa_351 := (own_Sta_keep Fa_340 K_334 (nsS (Fa_335.nostat) ns0))
      have Fa_352 := (own_Sta_keep Fa_341 K_334 (nsS (Fa_335.nostat) ns0))
      have Zs_353 : n0 ≤ T_334.heap.size := (Nat.le_trans Zs_342 K_334.1)
      have Kp_354 : Keep h0 T_334.heap [] := (((Kp_304.ext E_305).trans K_306 (allS (Or.inr sz_305) all0)).trans K_334 (allS (Or.inr sz_305) all0))
      have Ks_355 := (Nat.le_trans (Nat.le_trans (Nat.le_trans (Nat.le_trans (Nat.le_trans (Nat.le_trans (Nat.le_trans (Nat.le_trans (Nat.le_refl h0.size) E_4.1) (Keep.of_wr W_6).1) (Keep.of_wr W_8).1) (Keep.of_wr W_10).1) K_299.1) E_305.1) K_306.1) K_334.1)
      exact own_tail p1 p2 p3 p4 p5 p6 w sfv (own_draw p1) (own_draw ((p1.toUInt32 >>> ((10 : Int32) &&& 31).toUInt32).toInt32)) (own_draw ((p1.toUInt32 >>> ((20 : Int32) &&& 31).toUInt32).toInt32)) (3 : Int32) (1 : Int32) (((p2.toUInt32 >>> ((3 : Int32) &&& 31).toUInt32).toInt32) &&& (3 : Int32)) (0 : Int32) (2 : Int32) (3 : Int32) b_305 b_4 b__299 t__299 k_4 [(.int (own_draw p1)), (.int (own_draw ((p1.toUInt32 >>> ((10 : Int32) &&& 31).toUInt32).toInt32))), (.int (own_draw ((p1.toUInt32 >>> ((20 : Int32) &&& 31).toUInt32).toInt32)))] (.int (0 : Int32)) kt__299 [(.int (((own_draw p1).toInt8.toInt32).toInt8.toInt32)), (.int (((own_draw ((p1.toUInt32 >>> ((10 : Int32) &&& 31).toUInt32).toInt32)).toInt8.toInt32).toInt8.toInt32)), (.int (((own_draw ((p1.toUInt32 >>> ((20 : Int32) &&& 31).toUInt32).toInt32)).toInt8.toInt32).toInt8.toInt32))] (.int (0 : Int32)) (own_f (own_draw p1) (own_draw ((p1.toUInt32 >>> ((10 : Int32) &&& 31).toUInt32).toInt32)) (own_draw ((p1.toUInt32 >>> ((20 : Int32) &&& 31).toUInt32).toInt32))) _ _ X_334 hx hZ hw hby hml hown Bd.returns hlk rfl N_334 Zs_353 Kp_354 hS0 Ks_355 (by decide) (by decide) Fa_346 gg_305 sz_305 Fq_334_0 Fq_334_1 Fq_334_2 Fa_343 Fa_347 Fa_348 Fa_349 Fa_350 Fa_351 Fa_352 (Nat.ne_of_lt (Nat.lt_of_lt_of_le Fq_299_0.lt (Nat.le_of_eq g_305.symm))) (Nat.ne_of_lt (Nat.lt_of_lt_of_le Fq_299_3.lt (Nat.le_of_eq g_305.symm))) (Nat.ne_of_lt (Nat.lt_of_lt_of_le (V_10.keep K_299 nin0).lt (Nat.le_of_eq g_305.symm))) hw0 hsf (own_fcs _ _ _) (own_fat3 _ _ _) (own_fbd (own_drb _) (own_drb _) (own_drb _)) (by decide) (by decide) (by decide) (by decide)
    ·by_cases ht2 : (32 : Int32) < (own_draw ((p1.toUInt32 >>> ((20 : Int32) &&& 31).toUInt32).toInt32))
     ·refine o_aload X_306 Hq at_105 rfl rfl ?_
      have Fa_357 := (A_305.keep K_306)
      have Fa_358 := (Fa_307.keep K_306)
      have Fa_359 := (Fa_308.keep K_306 (ninS (Nat.ne_of_lt (Nat.lt_of_lt_of_le Fq_299_0.lt (Nat.le_of_eq g_305.symm))) nin0))
      have Fa_360 := (Fa_309.keep K_306 (ninS (Nat.ne_of_lt (Nat.lt_of_lt_of_le Fq_299_0.lt (Nat.le_of_eq g_305.symm))) nin0))
      have Fa_361 := (Fa_310.keep K_306 (ninS (Nat.ne_of_lt (Nat.lt_of_lt_of_le Fq_299_3.lt (Nat.le_of_eq g_305.symm))) nin0))
      have Fa_362 := (own_Sta_keep Fa_311 K_306 (nsS (A_305.nostat) ns0))
      have Fa_363 := (own_Sta_keep ((own_Sta_keep ((((S2.ext E_4).wr W_6).wr W_8).wr W_10) K_299 ns0).ext E_305) K_306 (nsS (A_305.nostat) ns0))
      have Zs_364 : n0 ≤ T_306.heap.size := (Nat.le_trans Zs_312 K_306.1)
      refine c_U0v X_306 Hq rfl hZ hown hml (k0_31U1 hw) (rmtrim3_tft hw b_305 b__299 t__299 kt__299 [(.int (((own_draw p1).toInt8.toInt32).toInt8.toInt32)), (.int (((own_draw ((p1.toUInt32 >>> ((10 : Int32) &&& 31).toUInt32).toInt32)).toInt8.toInt32).toInt8.toInt32)), (.int (((own_draw ((p1.toUInt32 >>> ((20 : Int32) &&& 31).toUInt32).toInt32)).toInt8.toInt32).toInt8.toInt32))] (.int (0 : Int32)) w sfv (own_f (own_draw p1) (own_draw ((p1.toUInt32 >>> ((10 : Int32) &&& 31).toUInt32).toInt32)) (own_draw ((p1.toUInt32 >>> ((20 : Int32) &&& 31).toUInt32).toInt32))) T_306.heap n0 Zs_364 Fa_357 gg_305 Fq_306_0 Fq_306_1 Fq_306_2 Fq_306_3 (Nat.ne_of_lt (Nat.lt_of_lt_of_le Fq_299_0.lt (Nat.le_of_eq g_305.symm))) (Nat.ne_of_lt (Nat.lt_of_lt_of_le Fq_299_3.lt (Nat.le_of_eq g_305.symm))) Fa_358 Fa_359 Fa_360 Fa_361 Fa_362 hw0 (own_fat3 _ _ _) (own_fbd (own_drb _) (own_drb _) (own_drb _)) Fa_363 hsf ht0 ht1 ht2) Fa_357 at_107 ?_ 0
      rintro T_356 L_356 X_356 ⟨-, Nq_356, K_356, Fq_356_0, Fq_356_1, Fq_356_2⟩
      have N_356 := Fr.app N_306 Nq_356
      refine o_iconst X_356 Hq 0 at_110 rfl (o_istore X_356 Hq at_111 (l' := #[iv p1, iv p2, iv p3, iv p4, iv p5, iv p6, iv (own_draw p1), iv (own_draw ((p1.toUInt32 >>> ((10 : Int32) &&& 31).toUInt32).toInt32)), iv (own_draw ((p1.toUInt32 >>> ((20 : Int32) &&& 31).toUInt32).toInt32)), rv b_4, iv 3, iv 1, iv (((p2.toUInt32 >>> ((3 : Int32) &&& 31).toUInt32).toInt32) &&& (3 : Int32)), rv b__299, rv b_305, iv 0, iv 3, iv 0, .unset]) rfl (o_iload X_356 Hq at_113 rfl (o_iconst X_356 Hq 1 at_115 rfl (o_icmpNo X_356 Hq at_116 (by decide) (o_iload X_356 Hq at_119 rfl (o_bipush X_356 Hq 32 at_121 rfl (o_icmpYes X_356 Hq (pc' := 161) at_123 (tlt ht0).2.2.1 (o_iload X_356 Hq at_161 rfl (o_istore X_356 Hq at_163 (l' := #[iv p1, iv p2, iv p3, iv p4, iv p5, iv p6, iv (own_draw p1), iv (own_draw ((p1.toUInt32 >>> ((10 : Int32) &&& 31).toUInt32).toInt32)), iv (own_draw ((p1.toUInt32 >>> ((20 : Int32) &&& 31).toUInt32).toInt32)), rv b_4, iv 3, iv 1, iv (((p2.toUInt32 >>> ((3 : Int32) &&& 31).toUInt32).toInt32) &&& (3 : Int32)), rv b__299, rv b_305, iv 0, iv 3, iv 0, iv 3]) rfl (o_iload X_356 Hq at_165 rfl (o_iload X_356 Hq at_167 rfl (o_icmpNo X_356 Hq at_169 (by decide) (o_aload X_356 Hq at_172 rfl rfl (o_iload X_356 Hq at_174 rfl (o_iconst X_356 Hq 1 at_176 rfl ?_)))))))))))))))
      refine o_isub X_356 Hq at_177 ?_
      show own_Go _ _ _ _ (T_356.setTop (mkF m 178 #[iv p1, iv p2, iv p3, iv p4, iv p5, iv p6, iv (own_draw p1), iv (own_draw ((p1.toUInt32 >>> ((10 : Int32) &&& 31).toUInt32).toInt32)), iv (own_draw ((p1.toUInt32 >>> ((20 : Int32) &&& 31).toUInt32).toInt32)), rv b_4, iv 3, iv 1, iv (((p2.toUInt32 >>> ((3 : Int32) &&& 31).toUInt32).toInt32) &&& (3 : Int32)), rv b__299, rv b_305, iv 0, iv 3, iv 0, iv 3] [(.int 2), (.ref b_4)]))
      have Fa_365 := ((((V_10.keep K_299 nin0).ext E_305).keep K_306 (ninS (Nat.ne_of_lt (Nat.lt_of_lt_of_le (V_10.keep K_299 nin0).lt (Nat.le_of_eq g_305.symm))) nin0)).keep K_356 (ninS (Nat.ne_of_lt (Nat.lt_of_lt_of_le (V_10.keep K_299 nin0).lt (Nat.le_of_eq g_305.symm))) nin0))
      obtain ⟨cl_366, Ar_366, qk_366, Sz_366, Ng_366, Hs_366, Gs_366⟩ := id Fa_365
      refine own_st (X_356.caload hx (j := (2 : Int32)) (v := (.int (own_draw ((p1.toUInt32 >>> ((20 : Int32) &&& 31).toUInt32).toInt32)))) Ar_366.1 (State.isArrayOf_alike hZ.alike Ar_366.2.1) Ar_366.2.2 (inb_of Sz_366 ⟨by decide, by decide⟩) (Hs_366.at (j := (2 : Int32)) (inb_of Sz_366 ⟨by decide, by decide⟩) rfl) (g := (mkF m 178 #[iv p1, iv p2, iv p3, iv p4, iv p5, iv p6, iv (own_draw p1), iv (own_draw ((p1.toUInt32 >>> ((10 : Int32) &&& 31).toUInt32).toInt32)), iv (own_draw ((p1.toUInt32 >>> ((20 : Int32) &&& 31).toUInt32).toInt32)), rv b_4, iv 3, iv 1, iv (((p2.toUInt32 >>> ((3 : Int32) &&& 31).toUInt32).toInt32) &&& (3 : Int32)), rv b__299, rv b_305, iv 0, iv 3, iv 0, iv 3] [(.int 2), (.ref b_4)])) rfl rfl (hb hby at_178)) ?_
      show own_Go _ _ _ _ (T_356.setTop (mkF m 179 #[iv p1, iv p2, iv p3, iv p4, iv p5, iv p6, iv (own_draw p1), iv (own_draw ((p1.toUInt32 >>> ((10 : Int32) &&& 31).toUInt32).toInt32)), iv (own_draw ((p1.toUInt32 >>> ((20 : Int32) &&& 31).toUInt32).toInt32)), rv b_4, iv 3, iv 1, iv (((p2.toUInt32 >>> ((3 : Int32) &&& 31).toUInt32).toInt32) &&& (3 : Int32)), rv b__299, rv b_305, iv 0, iv 3, iv 0, iv 3] [(.int (own_draw ((p1.toUInt32 >>> ((20 : Int32) &&& 31).toUInt32).toInt32)))]))
      refine o_bipush X_356 Hq 32 at_179 rfl (o_icmpYes X_356 Hq (pc' := 231) at_181 (tlt ht2).2.2.1 (o_iload X_356 Hq at_231 rfl (o_istore X_356 Hq at_233 (l' := #[iv p1, iv p2, iv p3, iv p4, iv p5, iv p6, iv (own_draw p1), iv (own_draw ((p1.toUInt32 >>> ((10 : Int32) &&& 31).toUInt32).toInt32)), iv (own_draw ((p1.toUInt32 >>> ((20 : Int32) &&& 31).toUInt32).toInt32)), rv b_4, iv 3, iv 1, iv (((p2.toUInt32 >>> ((3 : Int32) &&& 31).toUInt32).toInt32) &&& (3 : Int32)), rv b__299, rv b_305, iv 0, iv 3, iv 0, iv 3]) rfl (o_iload X_356 Hq at_235 rfl (o_istore X_356 Hq at_237 (l' := #[iv p1, iv p2, iv p3, iv p4, iv p5, iv p6, iv (own_draw p1), iv (own_draw ((p1.toUInt32 >>> ((10 : Int32) &&& 31).toUInt32).toInt32)), iv (own_draw ((p1.toUInt32 >>> ((20 : Int32) &&& 31).toUInt32).toInt32)), rv b_4, iv 3, iv 1, iv (((p2.toUInt32 >>> ((3 : Int32) &&& 31).toUInt32).toInt32) &&& (3 : Int32)), rv b__299, rv b_305, iv 0, iv 3, iv 0, iv 3]) rfl ?_)))))
      have Fa_367 := (Fa_357.keep K_356)
      have Fa_368 := (Fa_358.keep K_356)
      have Fa_369 := (Fa_359.keep K_356 (ninS (Nat.ne_of_lt (Nat.lt_of_lt_of_le Fq_299_0.lt (Nat.le_of_eq g_305.symm))) nin0))
      have Fa_370 := (Fa_360.keep K_356 (ninS (Nat.ne_of_lt (Nat.lt_of_lt_of_le Fq_299_0.lt (Nat.le_of_eq g_305.symm))) nin0))
      have Fa_371 := (Fa_361.keep K_356 (ninS (Nat.ne_of_lt (Nat.lt_of_lt_of_le Fq_299_3.lt (Nat.le_of_eq g_305.symm))) nin0))
      have Fa_372 := (own_Sta_keep Fa_362 K_356 (nsS (Fa_357.nostat) ns0))
      have Fa_373 := (own_Sta_keep Fa_363 K_356 (nsS (Fa_357.nostat) ns0))
      have Zs_374 : n0 ≤ T_356.heap.size := (Nat.le_trans Zs_364 K_356.1)
      have Kp_375 : Keep h0 T_356.heap [] := (((Kp_304.ext E_305).trans K_306 (allS (Or.inr sz_305) all0)).trans K_356 (allS (Or.inr sz_305) all0))
      have Ks_376 := (Nat.le_trans (Nat.le_trans (Nat.le_trans (Nat.le_trans (Nat.le_trans (Nat.le_trans (Nat.le_trans (Nat.le_trans (Nat.le_refl h0.size) E_4.1) (Keep.of_wr W_6).1) (Keep.of_wr W_8).1) (Keep.of_wr W_10).1) K_299.1) E_305.1) K_306.1) K_356.1)
      exact own_tail p1 p2 p3 p4 p5 p6 w sfv (own_draw p1) (own_draw ((p1.toUInt32 >>> ((10 : Int32) &&& 31).toUInt32).toInt32)) (own_draw ((p1.toUInt32 >>> ((20 : Int32) &&& 31).toUInt32).toInt32)) (3 : Int32) (1 : Int32) (((p2.toUInt32 >>> ((3 : Int32) &&& 31).toUInt32).toInt32) &&& (3 : Int32)) (0 : Int32) (3 : Int32) (3 : Int32) b_305 b_4 b__299 t__299 k_4 [(.int (own_draw p1)), (.int (own_draw ((p1.toUInt32 >>> ((10 : Int32) &&& 31).toUInt32).toInt32))), (.int (own_draw ((p1.toUInt32 >>> ((20 : Int32) &&& 31).toUInt32).toInt32)))] (.int (0 : Int32)) kt__299 [(.int (((own_draw p1).toInt8.toInt32).toInt8.toInt32)), (.int (((own_draw ((p1.toUInt32 >>> ((10 : Int32) &&& 31).toUInt32).toInt32)).toInt8.toInt32).toInt8.toInt32)), (.int (((own_draw ((p1.toUInt32 >>> ((20 : Int32) &&& 31).toUInt32).toInt32)).toInt8.toInt32).toInt8.toInt32))] (.int (0 : Int32)) (own_f (own_draw p1) (own_draw ((p1.toUInt32 >>> ((10 : Int32) &&& 31).toUInt32).toInt32)) (own_draw ((p1.toUInt32 >>> ((20 : Int32) &&& 31).toUInt32).toInt32))) _ _ X_356 hx hZ hw hby hml hown Bd.returns hlk rfl N_356 Zs_374 Kp_375 hS0 Ks_376 (by decide) (by decide) Fa_367 gg_305 sz_305 Fq_356_0 Fq_356_1 Fq_356_2 Fa_365 Fa_368 Fa_369 Fa_370 Fa_371 Fa_372 Fa_373 (Nat.ne_of_lt (Nat.lt_of_lt_of_le Fq_299_0.lt (Nat.le_of_eq g_305.symm))) (Nat.ne_of_lt (Nat.lt_of_lt_of_le Fq_299_3.lt (Nat.le_of_eq g_305.symm))) (Nat.ne_of_lt (Nat.lt_of_lt_of_le (V_10.keep K_299 nin0).lt (Nat.le_of_eq g_305.symm))) hw0 hsf (own_fcs _ _ _) (own_fat3 _ _ _) (own_fbd (own_drb _) (own_drb _) (own_drb _)) (by decide) (by decide) (by decide) (by decide)
     ·refine o_aload X_306 Hq at_105 rfl rfl ?_
      have Fa_378 := (A_305.keep K_306)
      have Fa_379 := (Fa_307.keep K_306)
      have Fa_380 := (Fa_308.keep K_306 (ninS (Nat.ne_of_lt (Nat.lt_of_lt_of_le Fq_299_0.lt (Nat.le_of_eq g_305.symm))) nin0))
      have Fa_381 := (Fa_309.keep K_306 (ninS (Nat.ne_of_lt (Nat.lt_of_lt_of_le Fq_299_0.lt (Nat.le_of_eq g_305.symm))) nin0))
      have Fa_382 := (Fa_310.keep K_306 (ninS (Nat.ne_of_lt (Nat.lt_of_lt_of_le Fq_299_3.lt (Nat.le_of_eq g_305.symm))) nin0))
      have Fa_383 := (own_Sta_keep Fa_311 K_306 (nsS (A_305.nostat) ns0))
      have Fa_384 := (own_Sta_keep ((own_Sta_keep ((((S2.ext E_4).wr W_6).wr W_8).wr W_10) K_299 ns0).ext E_305) K_306 (nsS (A_305.nostat) ns0))
      have Zs_385 : n0 ≤ T_306.heap.size := (Nat.le_trans Zs_312 K_306.1)
      refine c_U0v X_306 Hq rfl hZ hown hml (k0_31U1 hw) (rmtrim3_tff hw b_305 b__299 t__299 kt__299 [(.int (((own_draw p1).toInt8.toInt32).toInt8.toInt32)), (.int (((own_draw ((p1.toUInt32 >>> ((10 : Int32) &&& 31).toUInt32).toInt32)).toInt8.toInt32).toInt8.toInt32)), (.int (((own_draw ((p1.toUInt32 >>> ((20 : Int32) &&& 31).toUInt32).toInt32)).toInt8.toInt32).toInt8.toInt32))] (.int (0 : Int32)) w sfv (own_f (own_draw p1) (own_draw ((p1.toUInt32 >>> ((10 : Int32) &&& 31).toUInt32).toInt32)) (own_draw ((p1.toUInt32 >>> ((20 : Int32) &&& 31).toUInt32).toInt32))) T_306.heap n0 Zs_385 Fa_378 gg_305 Fq_306_0 Fq_306_1 Fq_306_2 Fq_306_3 (Nat.ne_of_lt (Nat.lt_of_lt_of_le Fq_299_0.lt (Nat.le_of_eq g_305.symm))) (Nat.ne_of_lt (Nat.lt_of_lt_of_le Fq_299_3.lt (Nat.le_of_eq g_305.symm))) Fa_379 Fa_380 Fa_381 Fa_382 Fa_383 hw0 (own_fat3 _ _ _) (own_fbd (own_drb _) (own_drb _) (own_drb _)) Fa_384 hsf ht0 ht1 ht2) Fa_378 at_107 ?_ 0
      rintro T_377 L_377 X_377 ⟨-, Nq_377, K_377, Fq_377_0, Fq_377_1, Fq_377_2⟩
      have N_377 := Fr.app N_306 Nq_377
      refine o_iconst X_377 Hq 0 at_110 rfl (o_istore X_377 Hq at_111 (l' := #[iv p1, iv p2, iv p3, iv p4, iv p5, iv p6, iv (own_draw p1), iv (own_draw ((p1.toUInt32 >>> ((10 : Int32) &&& 31).toUInt32).toInt32)), iv (own_draw ((p1.toUInt32 >>> ((20 : Int32) &&& 31).toUInt32).toInt32)), rv b_4, iv 3, iv 1, iv (((p2.toUInt32 >>> ((3 : Int32) &&& 31).toUInt32).toInt32) &&& (3 : Int32)), rv b__299, rv b_305, iv 0, iv 3, iv 0, .unset]) rfl (o_iload X_377 Hq at_113 rfl (o_iconst X_377 Hq 1 at_115 rfl (o_icmpNo X_377 Hq at_116 (by decide) (o_iload X_377 Hq at_119 rfl (o_bipush X_377 Hq 32 at_121 rfl (o_icmpYes X_377 Hq (pc' := 161) at_123 (tlt ht0).2.2.1 (o_iload X_377 Hq at_161 rfl (o_istore X_377 Hq at_163 (l' := #[iv p1, iv p2, iv p3, iv p4, iv p5, iv p6, iv (own_draw p1), iv (own_draw ((p1.toUInt32 >>> ((10 : Int32) &&& 31).toUInt32).toInt32)), iv (own_draw ((p1.toUInt32 >>> ((20 : Int32) &&& 31).toUInt32).toInt32)), rv b_4, iv 3, iv 1, iv (((p2.toUInt32 >>> ((3 : Int32) &&& 31).toUInt32).toInt32) &&& (3 : Int32)), rv b__299, rv b_305, iv 0, iv 3, iv 0, iv 3]) rfl (o_iload X_377 Hq at_165 rfl (o_iload X_377 Hq at_167 rfl (o_icmpNo X_377 Hq at_169 (by decide) (o_aload X_377 Hq at_172 rfl rfl (o_iload X_377 Hq at_174 rfl (o_iconst X_377 Hq 1 at_176 rfl ?_)))))))))))))))
      refine o_isub X_377 Hq at_177 ?_
      show own_Go _ _ _ _ (T_377.setTop (mkF m 178 #[iv p1, iv p2, iv p3, iv p4, iv p5, iv p6, iv (own_draw p1), iv (own_draw ((p1.toUInt32 >>> ((10 : Int32) &&& 31).toUInt32).toInt32)), iv (own_draw ((p1.toUInt32 >>> ((20 : Int32) &&& 31).toUInt32).toInt32)), rv b_4, iv 3, iv 1, iv (((p2.toUInt32 >>> ((3 : Int32) &&& 31).toUInt32).toInt32) &&& (3 : Int32)), rv b__299, rv b_305, iv 0, iv 3, iv 0, iv 3] [(.int 2), (.ref b_4)]))
      have Fa_386 := ((((V_10.keep K_299 nin0).ext E_305).keep K_306 (ninS (Nat.ne_of_lt (Nat.lt_of_lt_of_le (V_10.keep K_299 nin0).lt (Nat.le_of_eq g_305.symm))) nin0)).keep K_377 (ninS (Nat.ne_of_lt (Nat.lt_of_lt_of_le (V_10.keep K_299 nin0).lt (Nat.le_of_eq g_305.symm))) nin0))
      obtain ⟨cl_387, Ar_387, qk_387, Sz_387, Ng_387, Hs_387, Gs_387⟩ := id Fa_386
      refine own_st (X_377.caload hx (j := (2 : Int32)) (v := (.int (own_draw ((p1.toUInt32 >>> ((20 : Int32) &&& 31).toUInt32).toInt32)))) Ar_387.1 (State.isArrayOf_alike hZ.alike Ar_387.2.1) Ar_387.2.2 (inb_of Sz_387 ⟨by decide, by decide⟩) (Hs_387.at (j := (2 : Int32)) (inb_of Sz_387 ⟨by decide, by decide⟩) rfl) (g := (mkF m 178 #[iv p1, iv p2, iv p3, iv p4, iv p5, iv p6, iv (own_draw p1), iv (own_draw ((p1.toUInt32 >>> ((10 : Int32) &&& 31).toUInt32).toInt32)), iv (own_draw ((p1.toUInt32 >>> ((20 : Int32) &&& 31).toUInt32).toInt32)), rv b_4, iv 3, iv 1, iv (((p2.toUInt32 >>> ((3 : Int32) &&& 31).toUInt32).toInt32) &&& (3 : Int32)), rv b__299, rv b_305, iv 0, iv 3, iv 0, iv 3] [(.int 2), (.ref b_4)])) rfl rfl (hb hby at_178)) ?_
      show own_Go _ _ _ _ (T_377.setTop (mkF m 179 #[iv p1, iv p2, iv p3, iv p4, iv p5, iv p6, iv (own_draw p1), iv (own_draw ((p1.toUInt32 >>> ((10 : Int32) &&& 31).toUInt32).toInt32)), iv (own_draw ((p1.toUInt32 >>> ((20 : Int32) &&& 31).toUInt32).toInt32)), rv b_4, iv 3, iv 1, iv (((p2.toUInt32 >>> ((3 : Int32) &&& 31).toUInt32).toInt32) &&& (3 : Int32)), rv b__299, rv b_305, iv 0, iv 3, iv 0, iv 3] [(.int (own_draw ((p1.toUInt32 >>> ((20 : Int32) &&& 31).toUInt32).toInt32)))]))
      refine o_bipush X_377 Hq 32 at_179 rfl (o_icmpNo X_377 Hq at_181 (flt ht2).2.2.1 (o_iinc X_377 Hq at_184 rfl (l' := #[iv p1, iv p2, iv p3, iv p4, iv p5, iv p6, iv (own_draw p1), iv (own_draw ((p1.toUInt32 >>> ((10 : Int32) &&& 31).toUInt32).toInt32)), iv (own_draw ((p1.toUInt32 >>> ((20 : Int32) &&& 31).toUInt32).toInt32)), rv b_4, iv 3, iv 1, iv (((p2.toUInt32 >>> ((3 : Int32) &&& 31).toUInt32).toInt32) &&& (3 : Int32)), rv b__299, rv b_305, iv 0, iv 3, iv 0, iv 2]) rfl (o_iload X_377 Hq at_187 rfl (o_iload X_377 Hq at_189 rfl (o_icmpNo X_377 Hq at_191 (by decide) (o_aload X_377 Hq at_194 rfl rfl (o_iload X_377 Hq at_196 rfl (o_iconst X_377 Hq 1 at_198 rfl (o_isub X_377 Hq at_199 ?_)))))))))
      show own_Go _ _ _ _ (T_377.setTop (mkF m 200 #[iv p1, iv p2, iv p3, iv p4, iv p5, iv p6, iv (own_draw p1), iv (own_draw ((p1.toUInt32 >>> ((10 : Int32) &&& 31).toUInt32).toInt32)), iv (own_draw ((p1.toUInt32 >>> ((20 : Int32) &&& 31).toUInt32).toInt32)), rv b_4, iv 3, iv 1, iv (((p2.toUInt32 >>> ((3 : Int32) &&& 31).toUInt32).toInt32) &&& (3 : Int32)), rv b__299, rv b_305, iv 0, iv 3, iv 0, iv 2] [(.int 1), (.ref b_4)]))
      obtain ⟨cl_388, Ar_388, qk_388, Sz_388, Ng_388, Hs_388, Gs_388⟩ := id Fa_386
      refine own_st (X_377.caload hx (j := (1 : Int32)) (v := (.int (own_draw ((p1.toUInt32 >>> ((10 : Int32) &&& 31).toUInt32).toInt32)))) Ar_388.1 (State.isArrayOf_alike hZ.alike Ar_388.2.1) Ar_388.2.2 (inb_of Sz_388 ⟨by decide, by decide⟩) (Hs_388.at (j := (1 : Int32)) (inb_of Sz_388 ⟨by decide, by decide⟩) rfl) (g := (mkF m 200 #[iv p1, iv p2, iv p3, iv p4, iv p5, iv p6, iv (own_draw p1), iv (own_draw ((p1.toUInt32 >>> ((10 : Int32) &&& 31).toUInt32).toInt32)), iv (own_draw ((p1.toUInt32 >>> ((20 : Int32) &&& 31).toUInt32).toInt32)), rv b_4, iv 3, iv 1, iv (((p2.toUInt32 >>> ((3 : Int32) &&& 31).toUInt32).toInt32) &&& (3 : Int32)), rv b__299, rv b_305, iv 0, iv 3, iv 0, iv 2] [(.int 1), (.ref b_4)])) rfl rfl (hb hby at_200)) ?_
      show own_Go _ _ _ _ (T_377.setTop (mkF m 201 #[iv p1, iv p2, iv p3, iv p4, iv p5, iv p6, iv (own_draw p1), iv (own_draw ((p1.toUInt32 >>> ((10 : Int32) &&& 31).toUInt32).toInt32)), iv (own_draw ((p1.toUInt32 >>> ((20 : Int32) &&& 31).toUInt32).toInt32)), rv b_4, iv 3, iv 1, iv (((p2.toUInt32 >>> ((3 : Int32) &&& 31).toUInt32).toInt32) &&& (3 : Int32)), rv b__299, rv b_305, iv 0, iv 3, iv 0, iv 2] [(.int (own_draw ((p1.toUInt32 >>> ((10 : Int32) &&& 31).toUInt32).toInt32)))]))
      refine o_bipush X_377 Hq 32 at_201 rfl (o_icmpNo X_377 Hq at_203 (flt ht1).2.2.1 (o_iinc X_377 Hq at_206 rfl (l' := #[iv p1, iv p2, iv p3, iv p4, iv p5, iv p6, iv (own_draw p1), iv (own_draw ((p1.toUInt32 >>> ((10 : Int32) &&& 31).toUInt32).toInt32)), iv (own_draw ((p1.toUInt32 >>> ((20 : Int32) &&& 31).toUInt32).toInt32)), rv b_4, iv 3, iv 1, iv (((p2.toUInt32 >>> ((3 : Int32) &&& 31).toUInt32).toInt32) &&& (3 : Int32)), rv b__299, rv b_305, iv 0, iv 3, iv 0, iv 1]) rfl (o_iload X_377 Hq at_209 rfl (o_iload X_377 Hq at_211 rfl (o_icmpNo X_377 Hq at_213 (by decide) (o_aload X_377 Hq at_216 rfl rfl (o_iload X_377 Hq at_218 rfl (o_iconst X_377 Hq 1 at_220 rfl (o_isub X_377 Hq at_221 ?_)))))))))
      show own_Go _ _ _ _ (T_377.setTop (mkF m 222 #[iv p1, iv p2, iv p3, iv p4, iv p5, iv p6, iv (own_draw p1), iv (own_draw ((p1.toUInt32 >>> ((10 : Int32) &&& 31).toUInt32).toInt32)), iv (own_draw ((p1.toUInt32 >>> ((20 : Int32) &&& 31).toUInt32).toInt32)), rv b_4, iv 3, iv 1, iv (((p2.toUInt32 >>> ((3 : Int32) &&& 31).toUInt32).toInt32) &&& (3 : Int32)), rv b__299, rv b_305, iv 0, iv 3, iv 0, iv 1] [(.int 0), (.ref b_4)]))
      obtain ⟨cl_389, Ar_389, qk_389, Sz_389, Ng_389, Hs_389, Gs_389⟩ := id Fa_386
      refine own_st (X_377.caload hx (j := (0 : Int32)) (v := (.int (own_draw p1))) Ar_389.1 (State.isArrayOf_alike hZ.alike Ar_389.2.1) Ar_389.2.2 (inb_of Sz_389 ⟨by decide, by decide⟩) (Hs_389.at (j := (0 : Int32)) (inb_of Sz_389 ⟨by decide, by decide⟩) rfl) (g := (mkF m 222 #[iv p1, iv p2, iv p3, iv p4, iv p5, iv p6, iv (own_draw p1), iv (own_draw ((p1.toUInt32 >>> ((10 : Int32) &&& 31).toUInt32).toInt32)), iv (own_draw ((p1.toUInt32 >>> ((20 : Int32) &&& 31).toUInt32).toInt32)), rv b_4, iv 3, iv 1, iv (((p2.toUInt32 >>> ((3 : Int32) &&& 31).toUInt32).toInt32) &&& (3 : Int32)), rv b__299, rv b_305, iv 0, iv 3, iv 0, iv 1] [(.int 0), (.ref b_4)])) rfl rfl (hb hby at_222)) ?_
      show own_Go _ _ _ _ (T_377.setTop (mkF m 223 #[iv p1, iv p2, iv p3, iv p4, iv p5, iv p6, iv (own_draw p1), iv (own_draw ((p1.toUInt32 >>> ((10 : Int32) &&& 31).toUInt32).toInt32)), iv (own_draw ((p1.toUInt32 >>> ((20 : Int32) &&& 31).toUInt32).toInt32)), rv b_4, iv 3, iv 1, iv (((p2.toUInt32 >>> ((3 : Int32) &&& 31).toUInt32).toInt32) &&& (3 : Int32)), rv b__299, rv b_305, iv 0, iv 3, iv 0, iv 1] [(.int (own_draw p1))]))
      refine o_bipush X_377 Hq 32 at_223 rfl (o_icmpYes X_377 Hq (pc' := 231) at_225 (tlt ht0).2.2.1 (o_iload X_377 Hq at_231 rfl (o_istore X_377 Hq at_233 (l' := #[iv p1, iv p2, iv p3, iv p4, iv p5, iv p6, iv (own_draw p1), iv (own_draw ((p1.toUInt32 >>> ((10 : Int32) &&& 31).toUInt32).toInt32)), iv (own_draw ((p1.toUInt32 >>> ((20 : Int32) &&& 31).toUInt32).toInt32)), rv b_4, iv 3, iv 1, iv (((p2.toUInt32 >>> ((3 : Int32) &&& 31).toUInt32).toInt32) &&& (3 : Int32)), rv b__299, rv b_305, iv 0, iv 3, iv 0, iv 1]) rfl (o_iload X_377 Hq at_235 rfl (o_istore X_377 Hq at_237 (l' := #[iv p1, iv p2, iv p3, iv p4, iv p5, iv p6, iv (own_draw p1), iv (own_draw ((p1.toUInt32 >>> ((10 : Int32) &&& 31).toUInt32).toInt32)), iv (own_draw ((p1.toUInt32 >>> ((20 : Int32) &&& 31).toUInt32).toInt32)), rv b_4, iv 3, iv 1, iv (((p2.toUInt32 >>> ((3 : Int32) &&& 31).toUInt32).toInt32) &&& (3 : Int32)), rv b__299, rv b_305, iv 0, iv 1, iv 0, iv 1]) rfl ?_)))))
      have Fa_390 := (Fa_378.keep K_377)
      have Fa_391 := (Fa_379.keep K_377)
      have Fa_392 := (Fa_380.keep K_377 (ninS (Nat.ne_of_lt (Nat.lt_of_lt_of_le Fq_299_0.lt (Nat.le_of_eq g_305.symm))) nin0))
      have Fa_393 := (Fa_381.keep K_377 (ninS (Nat.ne_of_lt (Nat.lt_of_lt_of_le Fq_299_0.lt (Nat.le_of_eq g_305.symm))) nin0))
      have Fa_394 := (Fa_382.keep K_377 (ninS (Nat.ne_of_lt (Nat.lt_of_lt_of_le Fq_299_3.lt (Nat.le_of_eq g_305.symm))) nin0))
      have Fa_395 := (own_Sta_keep Fa_383 K_377 (nsS (Fa_378.nostat) ns0))
      have Fa_396 := (own_Sta_keep Fa_384 K_377 (nsS (Fa_378.nostat) ns0))
      have Zs_397 : n0 ≤ T_377.heap.size := (Nat.le_trans Zs_385 K_377.1)
      have Kp_398 : Keep h0 T_377.heap [] := (((Kp_304.ext E_305).trans K_306 (allS (Or.inr sz_305) all0)).trans K_377 (allS (Or.inr sz_305) all0))
      have Ks_399 := (Nat.le_trans (Nat.le_trans (Nat.le_trans (Nat.le_trans (Nat.le_trans (Nat.le_trans (Nat.le_trans (Nat.le_trans (Nat.le_refl h0.size) E_4.1) (Keep.of_wr W_6).1) (Keep.of_wr W_8).1) (Keep.of_wr W_10).1) K_299.1) E_305.1) K_306.1) K_377.1)
      exact own_tail p1 p2 p3 p4 p5 p6 w sfv (own_draw p1) (own_draw ((p1.toUInt32 >>> ((10 : Int32) &&& 31).toUInt32).toInt32)) (own_draw ((p1.toUInt32 >>> ((20 : Int32) &&& 31).toUInt32).toInt32)) (3 : Int32) (1 : Int32) (((p2.toUInt32 >>> ((3 : Int32) &&& 31).toUInt32).toInt32) &&& (3 : Int32)) (0 : Int32) (1 : Int32) (3 : Int32) b_305 b_4 b__299 t__299 k_4 [(.int (own_draw p1)), (.int (own_draw ((p1.toUInt32 >>> ((10 : Int32) &&& 31).toUInt32).toInt32))), (.int (own_draw ((p1.toUInt32 >>> ((20 : Int32) &&& 31).toUInt32).toInt32)))] (.int (0 : Int32)) kt__299 [(.int (((own_draw p1).toInt8.toInt32).toInt8.toInt32)), (.int (((own_draw ((p1.toUInt32 >>> ((10 : Int32) &&& 31).toUInt32).toInt32)).toInt8.toInt32).toInt8.toInt32)), (.int (((own_draw ((p1.toUInt32 >>> ((20 : Int32) &&& 31).toUInt32).toInt32)).toInt8.toInt32).toInt8.toInt32))] (.int (0 : Int32)) (own_f (own_draw p1) (own_draw ((p1.toUInt32 >>> ((10 : Int32) &&& 31).toUInt32).toInt32)) (own_draw ((p1.toUInt32 >>> ((20 : Int32) &&& 31).toUInt32).toInt32))) _ _ X_377 hx hZ hw hby hml hown Bd.returns hlk rfl N_377 Zs_397 Kp_398 hS0 Ks_399 (by decide) (by decide) Fa_390 gg_305 sz_305 Fq_377_0 Fq_377_1 Fq_377_2 Fa_386 Fa_391 Fa_392 Fa_393 Fa_394 Fa_395 Fa_396 (Nat.ne_of_lt (Nat.lt_of_lt_of_le Fq_299_0.lt (Nat.le_of_eq g_305.symm))) (Nat.ne_of_lt (Nat.lt_of_lt_of_le Fq_299_3.lt (Nat.le_of_eq g_305.symm))) (Nat.ne_of_lt (Nat.lt_of_lt_of_le (V_10.keep K_299 nin0).lt (Nat.le_of_eq g_305.symm))) hw0 hsf (own_fcs _ _ _) (own_fat3 _ _ _) (own_fbd (own_drb _) (own_drb _) (own_drb _)) (by decide) (by decide) (by decide) (by decide)
   ·by_cases ht1 : (32 : Int32) < (own_draw ((p1.toUInt32 >>> ((10 : Int32) &&& 31).toUInt32).toInt32))
    ·by_cases ht2 : (32 : Int32) < (own_draw ((p1.toUInt32 >>> ((20 : Int32) &&& 31).toUInt32).toInt32))
     ·refine o_aload X_306 Hq at_105 rfl rfl ?_
      have Fa_401 := (A_305.keep K_306)
      have Fa_402 := (Fa_307.keep K_306)
      have Fa_403 := (Fa_308.keep K_306 (ninS (Nat.ne_of_lt (Nat.lt_of_lt_of_le Fq_299_0.lt (Nat.le_of_eq g_305.symm))) nin0))
      have Fa_404 := (Fa_309.keep K_306 (ninS (Nat.ne_of_lt (Nat.lt_of_lt_of_le Fq_299_0.lt (Nat.le_of_eq g_305.symm))) nin0))
      have Fa_405 := (Fa_310.keep K_306 (ninS (Nat.ne_of_lt (Nat.lt_of_lt_of_le Fq_299_3.lt (Nat.le_of_eq g_305.symm))) nin0))
      have Fa_406 := (own_Sta_keep Fa_311 K_306 (nsS (A_305.nostat) ns0))
      have Fa_407 := (own_Sta_keep ((own_Sta_keep ((((S2.ext E_4).wr W_6).wr W_8).wr W_10) K_299 ns0).ext E_305) K_306 (nsS (A_305.nostat) ns0))
      have Zs_408 : n0 ≤ T_306.heap.size := (Nat.le_trans Zs_312 K_306.1)
      refine c_U0v X_306 Hq rfl hZ hown hml (k0_31U1 hw) (rmtrim3_ftt hw b_305 b__299 t__299 kt__299 [(.int (((own_draw p1).toInt8.toInt32).toInt8.toInt32)), (.int (((own_draw ((p1.toUInt32 >>> ((10 : Int32) &&& 31).toUInt32).toInt32)).toInt8.toInt32).toInt8.toInt32)), (.int (((own_draw ((p1.toUInt32 >>> ((20 : Int32) &&& 31).toUInt32).toInt32)).toInt8.toInt32).toInt8.toInt32))] (.int (0 : Int32)) w sfv (own_f (own_draw p1) (own_draw ((p1.toUInt32 >>> ((10 : Int32) &&& 31).toUInt32).toInt32)) (own_draw ((p1.toUInt32 >>> ((20 : Int32) &&& 31).toUInt32).toInt32))) T_306.heap n0 Zs_408 Fa_401 gg_305 Fq_306_0 Fq_306_1 Fq_306_2 Fq_306_3 (Nat.ne_of_lt (Nat.lt_of_lt_of_le Fq_299_0.lt (Nat.le_of_eq g_305.symm))) (Nat.ne_of_lt (Nat.lt_of_lt_of_le Fq_299_3.lt (Nat.le_of_eq g_305.symm))) Fa_402 Fa_403 Fa_404 Fa_405 Fa_406 hw0 (own_fat3 _ _ _) (own_fbd (own_drb _) (own_drb _) (own_drb _)) Fa_407 hsf ht0 ht1 ht2) Fa_401 at_107 ?_ 0
      rintro T_400 L_400 X_400 ⟨-, Nq_400, K_400, Fq_400_0, Fq_400_1, Fq_400_2⟩
      have N_400 := Fr.app N_306 Nq_400
      refine o_iconst X_400 Hq 0 at_110 rfl (o_istore X_400 Hq at_111 (l' := #[iv p1, iv p2, iv p3, iv p4, iv p5, iv p6, iv (own_draw p1), iv (own_draw ((p1.toUInt32 >>> ((10 : Int32) &&& 31).toUInt32).toInt32)), iv (own_draw ((p1.toUInt32 >>> ((20 : Int32) &&& 31).toUInt32).toInt32)), rv b_4, iv 3, iv 1, iv (((p2.toUInt32 >>> ((3 : Int32) &&& 31).toUInt32).toInt32) &&& (3 : Int32)), rv b__299, rv b_305, iv 0, iv 3, iv 0, .unset]) rfl (o_iload X_400 Hq at_113 rfl (o_iconst X_400 Hq 1 at_115 rfl (o_icmpNo X_400 Hq at_116 (by decide) (o_iload X_400 Hq at_119 rfl (o_bipush X_400 Hq 32 at_121 rfl (o_icmpNo X_400 Hq at_123 (flt ht0).2.2.1 (o_iconst X_400 Hq 1 at_126 rfl (o_istore X_400 Hq at_127 (l' := #[iv p1, iv p2, iv p3, iv p4, iv p5, iv p6, iv (own_draw p1), iv (own_draw ((p1.toUInt32 >>> ((10 : Int32) &&& 31).toUInt32).toInt32)), iv (own_draw ((p1.toUInt32 >>> ((20 : Int32) &&& 31).toUInt32).toInt32)), rv b_4, iv 3, iv 1, iv (((p2.toUInt32 >>> ((3 : Int32) &&& 31).toUInt32).toInt32) &&& (3 : Int32)), rv b__299, rv b_305, iv 0, iv 3, iv 1, .unset]) rfl (o_iload X_400 Hq at_129 rfl (o_iconst X_400 Hq 2 at_131 rfl (o_icmpNo X_400 Hq at_132 (by decide) (o_iload X_400 Hq at_135 rfl (o_bipush X_400 Hq 32 at_137 rfl (o_icmpYes X_400 Hq (pc' := 161) at_139 (tlt ht1).2.2.1 ?_)))))))))))))))
      refine o_iload X_400 Hq at_161 rfl (o_istore X_400 Hq at_163 (l' := #[iv p1, iv p2, iv p3, iv p4, iv p5, iv p6, iv (own_draw p1), iv (own_draw ((p1.toUInt32 >>> ((10 : Int32) &&& 31).toUInt32).toInt32)), iv (own_draw ((p1.toUInt32 >>> ((20 : Int32) &&& 31).toUInt32).toInt32)), rv b_4, iv 3, iv 1, iv (((p2.toUInt32 >>> ((3 : Int32) &&& 31).toUInt32).toInt32) &&& (3 : Int32)), rv b__299, rv b_305, iv 0, iv 3, iv 1, iv 3]) rfl (o_iload X_400 Hq at_165 rfl (o_iload X_400 Hq at_167 rfl (o_icmpNo X_400 Hq at_169 (by decide) (o_aload X_400 Hq at_172 rfl rfl (o_iload X_400 Hq at_174 rfl (o_iconst X_400 Hq 1 at_176 rfl (o_isub X_400 Hq at_177 ?_))))))))
      show own_Go _ _ _ _ (T_400.setTop (mkF m 178 #[iv p1, iv p2, iv p3, iv p4, iv p5, iv p6, iv (own_draw p1), iv (own_draw ((p1.toUInt32 >>> ((10 : Int32) &&& 31).toUInt32).toInt32)), iv (own_draw ((p1.toUInt32 >>> ((20 : Int32) &&& 31).toUInt32).toInt32)), rv b_4, iv 3, iv 1, iv (((p2.toUInt32 >>> ((3 : Int32) &&& 31).toUInt32).toInt32) &&& (3 : Int32)), rv b__299, rv b_305, iv 0, iv 3, iv 1, iv 3] [(.int 2), (.ref b_4)]))
      have Fa_409 := ((((V_10.keep K_299 nin0).ext E_305).keep K_306 (ninS (Nat.ne_of_lt (Nat.lt_of_lt_of_le (V_10.keep K_299 nin0).lt (Nat.le_of_eq g_305.symm))) nin0)).keep K_400 (ninS (Nat.ne_of_lt (Nat.lt_of_lt_of_le (V_10.keep K_299 nin0).lt (Nat.le_of_eq g_305.symm))) nin0))
      obtain ⟨cl_410, Ar_410, qk_410, Sz_410, Ng_410, Hs_410, Gs_410⟩ := id Fa_409
      refine own_st (X_400.caload hx (j := (2 : Int32)) (v := (.int (own_draw ((p1.toUInt32 >>> ((20 : Int32) &&& 31).toUInt32).toInt32)))) Ar_410.1 (State.isArrayOf_alike hZ.alike Ar_410.2.1) Ar_410.2.2 (inb_of Sz_410 ⟨by decide, by decide⟩) (Hs_410.at (j := (2 : Int32)) (inb_of Sz_410 ⟨by decide, by decide⟩) rfl) (g := (mkF m 178 #[iv p1, iv p2, iv p3, iv p4, iv p5, iv p6, iv (own_draw p1), iv (own_draw ((p1.toUInt32 >>> ((10 : Int32) &&& 31).toUInt32).toInt32)), iv (own_draw ((p1.toUInt32 >>> ((20 : Int32) &&& 31).toUInt32).toInt32)), rv b_4, iv 3, iv 1, iv (((p2.toUInt32 >>> ((3 : Int32) &&& 31).toUInt32).toInt32) &&& (3 : Int32)), rv b__299, rv b_305, iv 0, iv 3, iv 1, iv 3] [(.int 2), (.ref b_4)])) rfl rfl (hb hby at_178)) ?_
      show own_Go _ _ _ _ (T_400.setTop (mkF m 179 #[iv p1, iv p2, iv p3, iv p4, iv p5, iv p6, iv (own_draw p1), iv (own_draw ((p1.toUInt32 >>> ((10 : Int32) &&& 31).toUInt32).toInt32)), iv (own_draw ((p1.toUInt32 >>> ((20 : Int32) &&& 31).toUInt32).toInt32)), rv b_4, iv 3, iv 1, iv (((p2.toUInt32 >>> ((3 : Int32) &&& 31).toUInt32).toInt32) &&& (3 : Int32)), rv b__299, rv b_305, iv 0, iv 3, iv 1, iv 3] [(.int (own_draw ((p1.toUInt32 >>> ((20 : Int32) &&& 31).toUInt32).toInt32)))]))
      refine o_bipush X_400 Hq 32 at_179 rfl (o_icmpYes X_400 Hq (pc' := 231) at_181 (tlt ht2).2.2.1 (o_iload X_400 Hq at_231 rfl (o_istore X_400 Hq at_233 (l' := #[iv p1, iv p2, iv p3, iv p4, iv p5, iv p6, iv (own_draw p1), iv (own_draw ((p1.toUInt32 >>> ((10 : Int32) &&& 31).toUInt32).toInt32)), iv (own_draw ((p1.toUInt32 >>> ((20 : Int32) &&& 31).toUInt32).toInt32)), rv b_4, iv 3, iv 1, iv (((p2.toUInt32 >>> ((3 : Int32) &&& 31).toUInt32).toInt32) &&& (3 : Int32)), rv b__299, rv b_305, iv 1, iv 3, iv 1, iv 3]) rfl (o_iload X_400 Hq at_235 rfl (o_istore X_400 Hq at_237 (l' := #[iv p1, iv p2, iv p3, iv p4, iv p5, iv p6, iv (own_draw p1), iv (own_draw ((p1.toUInt32 >>> ((10 : Int32) &&& 31).toUInt32).toInt32)), iv (own_draw ((p1.toUInt32 >>> ((20 : Int32) &&& 31).toUInt32).toInt32)), rv b_4, iv 3, iv 1, iv (((p2.toUInt32 >>> ((3 : Int32) &&& 31).toUInt32).toInt32) &&& (3 : Int32)), rv b__299, rv b_305, iv 1, iv 3, iv 1, iv 3]) rfl ?_)))))
      have Fa_411 := (Fa_401.keep K_400)
      have Fa_412 := (Fa_402.keep K_400)
      have Fa_413 := (Fa_403.keep K_400 (ninS (Nat.ne_of_lt (Nat.lt_of_lt_of_le Fq_299_0.lt (Nat.le_of_eq g_305.symm))) nin0))
      have Fa_414 := (Fa_404.keep K_400 (ninS (Nat.ne_of_lt (Nat.lt_of_lt_of_le Fq_299_0.lt (Nat.le_of_eq g_305.symm))) nin0))
      have Fa_415 := (Fa_405.keep K_400 (ninS (Nat.ne_of_lt (Nat.lt_of_lt_of_le Fq_299_3.lt (Nat.le_of_eq g_305.symm))) nin0))
      have Fa_416 := (own_Sta_keep Fa_406 K_400 (nsS (Fa_401.nostat) ns0))
      have Fa_417 := (own_Sta_keep Fa_407 K_400 (nsS (Fa_401.nostat) ns0))
      have Zs_418 : n0 ≤ T_400.heap.size := (Nat.le_trans Zs_408 K_400.1)
      have Kp_419 : Keep h0 T_400.heap [] := (((Kp_304.ext E_305).trans K_306 (allS (Or.inr sz_305) all0)).trans K_400 (allS (Or.inr sz_305) all0))
      have Ks_420 := (Nat.le_trans (Nat.le_trans (Nat.le_trans (Nat.le_trans (Nat.le_trans (Nat.le_trans (Nat.le_trans (Nat.le_trans (Nat.le_refl h0.size) E_4.1) (Keep.of_wr W_6).1) (Keep.of_wr W_8).1) (Keep.of_wr W_10).1) K_299.1) E_305.1) K_306.1) K_400.1)
      exact own_tail p1 p2 p3 p4 p5 p6 w sfv (own_draw p1) (own_draw ((p1.toUInt32 >>> ((10 : Int32) &&& 31).toUInt32).toInt32)) (own_draw ((p1.toUInt32 >>> ((20 : Int32) &&& 31).toUInt32).toInt32)) (3 : Int32) (1 : Int32) (((p2.toUInt32 >>> ((3 : Int32) &&& 31).toUInt32).toInt32) &&& (3 : Int32)) (1 : Int32) (3 : Int32) (3 : Int32) b_305 b_4 b__299 t__299 k_4 [(.int (own_draw p1)), (.int (own_draw ((p1.toUInt32 >>> ((10 : Int32) &&& 31).toUInt32).toInt32))), (.int (own_draw ((p1.toUInt32 >>> ((20 : Int32) &&& 31).toUInt32).toInt32)))] (.int (0 : Int32)) kt__299 [(.int (((own_draw p1).toInt8.toInt32).toInt8.toInt32)), (.int (((own_draw ((p1.toUInt32 >>> ((10 : Int32) &&& 31).toUInt32).toInt32)).toInt8.toInt32).toInt8.toInt32)), (.int (((own_draw ((p1.toUInt32 >>> ((20 : Int32) &&& 31).toUInt32).toInt32)).toInt8.toInt32).toInt8.toInt32))] (.int (0 : Int32)) (own_f (own_draw p1) (own_draw ((p1.toUInt32 >>> ((10 : Int32) &&& 31).toUInt32).toInt32)) (own_draw ((p1.toUInt32 >>> ((20 : Int32) &&& 31).toUInt32).toInt32))) _ _ X_400 hx hZ hw hby hml hown Bd.returns hlk rfl N_400 Zs_418 Kp_419 hS0 Ks_420 (by decide) (by decide) Fa_411 gg_305 sz_305 Fq_400_0 Fq_400_1 Fq_400_2 Fa_409 Fa_412 Fa_413 Fa_414 Fa_415 Fa_416 Fa_417 (Nat.ne_of_lt (Nat.lt_of_lt_of_le Fq_299_0.lt (Nat.le_of_eq g_305.symm))) (Nat.ne_of_lt (Nat.lt_of_lt_of_le Fq_299_3.lt (Nat.le_of_eq g_305.symm))) (Nat.ne_of_lt (Nat.lt_of_lt_of_le (V_10.keep K_299 nin0).lt (Nat.le_of_eq g_305.symm))) hw0 hsf (own_fcs _ _ _) (own_fat3 _ _ _) (own_fbd (own_drb _) (own_drb _) (own_drb _)) (by decide) (by decide) (by decide) (by decide)
     ·refine o_aload X_306 Hq at_105 rfl rfl ?_
      have Fa_422 := (A_305.keep K_306)
      have Fa_423 := (Fa_307.keep K_306)
      have Fa_424 := (Fa_308.keep K_306 (ninS (Nat.ne_of_lt (Nat.lt_of_lt_of_le Fq_299_0.lt (Nat.le_of_eq g_305.symm))) nin0))
      have Fa_425 := (Fa_309.keep K_306 (ninS (Nat.ne_of_lt (Nat.lt_of_lt_of_le Fq_299_0.lt (Nat.le_of_eq g_305.symm))) nin0))
      have Fa_426 := (Fa_310.keep K_306 (ninS (Nat.ne_of_lt (Nat.lt_of_lt_of_le Fq_299_3.lt (Nat.le_of_eq g_305.symm))) nin0))
      have Fa_427 := (own_Sta_keep Fa_311 K_306 (nsS (A_305.nostat) ns0))
      have Fa_428 := (own_Sta_keep ((own_Sta_keep ((((S2.ext E_4).wr W_6).wr W_8).wr W_10) K_299 ns0).ext E_305) K_306 (nsS (A_305.nostat) ns0))
      have Zs_429 : n0 ≤ T_306.heap.size := (Nat.le_trans Zs_312 K_306.1)
      refine c_U0v X_306 Hq rfl hZ hown hml (k0_31U1 hw) (rmtrim3_ftf hw b_305 b__299 t__299 kt__299 [(.int (((own_draw p1).toInt8.toInt32).toInt8.toInt32)), (.int (((own_draw ((p1.toUInt32 >>> ((10 : Int32) &&& 31).toUInt32).toInt32)).toInt8.toInt32).toInt8.toInt32)), (.int (((own_draw ((p1.toUInt32 >>> ((20 : Int32) &&& 31).toUInt32).toInt32)).toInt8.toInt32).toInt8.toInt32))] (.int (0 : Int32)) w sfv (own_f (own_draw p1) (own_draw ((p1.toUInt32 >>> ((10 : Int32) &&& 31).toUInt32).toInt32)) (own_draw ((p1.toUInt32 >>> ((20 : Int32) &&& 31).toUInt32).toInt32))) T_306.heap n0 Zs_429 Fa_422 gg_305 Fq_306_0 Fq_306_1 Fq_306_2 Fq_306_3 (Nat.ne_of_lt (Nat.lt_of_lt_of_le Fq_299_0.lt (Nat.le_of_eq g_305.symm))) (Nat.ne_of_lt (Nat.lt_of_lt_of_le Fq_299_3.lt (Nat.le_of_eq g_305.symm))) Fa_423 Fa_424 Fa_425 Fa_426 Fa_427 hw0 (own_fat3 _ _ _) (own_fbd (own_drb _) (own_drb _) (own_drb _)) Fa_428 hsf ht0 ht1 ht2) Fa_422 at_107 ?_ 0
      rintro T_421 L_421 X_421 ⟨-, Nq_421, K_421, Fq_421_0, Fq_421_1, Fq_421_2⟩
      have N_421 := Fr.app N_306 Nq_421
      refine o_iconst X_421 Hq 0 at_110 rfl (o_istore X_421 Hq at_111 (l' := #[iv p1, iv p2, iv p3, iv p4, iv p5, iv p6, iv (own_draw p1), iv (own_draw ((p1.toUInt32 >>> ((10 : Int32) &&& 31).toUInt32).toInt32)), iv (own_draw ((p1.toUInt32 >>> ((20 : Int32) &&& 31).toUInt32).toInt32)), rv b_4, iv 3, iv 1, iv (((p2.toUInt32 >>> ((3 : Int32) &&& 31).toUInt32).toInt32) &&& (3 : Int32)), rv b__299, rv b_305, iv 0, iv 3, iv 0, .unset]) rfl (o_iload X_421 Hq at_113 rfl (o_iconst X_421 Hq 1 at_115 rfl (o_icmpNo X_421 Hq at_116 (by decide) (o_iload X_421 Hq at_119 rfl (o_bipush X_421 Hq 32 at_121 rfl (o_icmpNo X_421 Hq at_123 (flt ht0).2.2.1 (o_iconst X_421 Hq 1 at_126 rfl (o_istore X_421 Hq at_127 (l' := #[iv p1, iv p2, iv p3, iv p4, iv p5, iv p6, iv (own_draw p1), iv (own_draw ((p1.toUInt32 >>> ((10 : Int32) &&& 31).toUInt32).toInt32)), iv (own_draw ((p1.toUInt32 >>> ((20 : Int32) &&& 31).toUInt32).toInt32)), rv b_4, iv 3, iv 1, iv (((p2.toUInt32 >>> ((3 : Int32) &&& 31).toUInt32).toInt32) &&& (3 : Int32)), rv b__299, rv b_305, iv 0, iv 3, iv 1, .unset]) rfl (o_iload X_421 Hq at_129 rfl (o_iconst X_421 Hq 2 at_131 rfl (o_icmpNo X_421 Hq at_132 (by decide) (o_iload X_421 Hq at_135 rfl (o_bipush X_421 Hq 32 at_137 rfl (o_icmpYes X_421 Hq (pc' := 161) at_139 (tlt ht1).2.2.1 ?_)))))))))))))))
      refine o_iload X_421 Hq at_161 rfl (o_istore X_421 Hq at_163 (l' := #[iv p1, iv p2, iv p3, iv p4, iv p5, iv p6, iv (own_draw p1), iv (own_draw ((p1.toUInt32 >>> ((10 : Int32) &&& 31).toUInt32).toInt32)), iv (own_draw ((p1.toUInt32 >>> ((20 : Int32) &&& 31).toUInt32).toInt32)), rv b_4, iv 3, iv 1, iv (((p2.toUInt32 >>> ((3 : Int32) &&& 31).toUInt32).toInt32) &&& (3 : Int32)), rv b__299, rv b_305, iv 0, iv 3, iv 1, iv 3]) rfl (o_iload X_421 Hq at_165 rfl (o_iload X_421 Hq at_167 rfl (o_icmpNo X_421 Hq at_169 (by decide) (o_aload X_421 Hq at_172 rfl rfl (o_iload X_421 Hq at_174 rfl (o_iconst X_421 Hq 1 at_176 rfl (o_isub X_421 Hq at_177 ?_))))))))
      show own_Go _ _ _ _ (T_421.setTop (mkF m 178 #[iv p1, iv p2, iv p3, iv p4, iv p5, iv p6, iv (own_draw p1), iv (own_draw ((p1.toUInt32 >>> ((10 : Int32) &&& 31).toUInt32).toInt32)), iv (own_draw ((p1.toUInt32 >>> ((20 : Int32) &&& 31).toUInt32).toInt32)), rv b_4, iv 3, iv 1, iv (((p2.toUInt32 >>> ((3 : Int32) &&& 31).toUInt32).toInt32) &&& (3 : Int32)), rv b__299, rv b_305, iv 0, iv 3, iv 1, iv 3] [(.int 2), (.ref b_4)]))
      have Fa_430 := ((((V_10.keep K_299 nin0).ext E_305).keep K_306 (ninS (Nat.ne_of_lt (Nat.lt_of_lt_of_le (V_10.keep K_299 nin0).lt (Nat.le_of_eq g_305.symm))) nin0)).keep K_421 (ninS (Nat.ne_of_lt (Nat.lt_of_lt_of_le (V_10.keep K_299 nin0).lt (Nat.le_of_eq g_305.symm))) nin0))
      obtain ⟨cl_431, Ar_431, qk_431, Sz_431, Ng_431, Hs_431, Gs_431⟩ := id Fa_430
      refine own_st (X_421.caload hx (j := (2 : Int32)) (v := (.int (own_draw ((p1.toUInt32 >>> ((20 : Int32) &&& 31).toUInt32).toInt32)))) Ar_431.1 (State.isArrayOf_alike hZ.alike Ar_431.2.1) Ar_431.2.2 (inb_of Sz_431 ⟨by decide, by decide⟩) (Hs_431.at (j := (2 : Int32)) (inb_of Sz_431 ⟨by decide, by decide⟩) rfl) (g := (mkF m 178 #[iv p1, iv p2, iv p3, iv p4, iv p5, iv p6, iv (own_draw p1), iv (own_draw ((p1.toUInt32 >>> ((10 : Int32) &&& 31).toUInt32).toInt32)), iv (own_draw ((p1.toUInt32 >>> ((20 : Int32) &&& 31).toUInt32).toInt32)), rv b_4, iv 3, iv 1, iv (((p2.toUInt32 >>> ((3 : Int32) &&& 31).toUInt32).toInt32) &&& (3 : Int32)), rv b__299, rv b_305, iv 0, iv 3, iv 1, iv 3] [(.int 2), (.ref b_4)])) rfl rfl (hb hby at_178)) ?_
      show own_Go _ _ _ _ (T_421.setTop (mkF m 179 #[iv p1, iv p2, iv p3, iv p4, iv p5, iv p6, iv (own_draw p1), iv (own_draw ((p1.toUInt32 >>> ((10 : Int32) &&& 31).toUInt32).toInt32)), iv (own_draw ((p1.toUInt32 >>> ((20 : Int32) &&& 31).toUInt32).toInt32)), rv b_4, iv 3, iv 1, iv (((p2.toUInt32 >>> ((3 : Int32) &&& 31).toUInt32).toInt32) &&& (3 : Int32)), rv b__299, rv b_305, iv 0, iv 3, iv 1, iv 3] [(.int (own_draw ((p1.toUInt32 >>> ((20 : Int32) &&& 31).toUInt32).toInt32)))]))
      refine o_bipush X_421 Hq 32 at_179 rfl (o_icmpNo X_421 Hq at_181 (flt ht2).2.2.1 (o_iinc X_421 Hq at_184 rfl (l' := #[iv p1, iv p2, iv p3, iv p4, iv p5, iv p6, iv (own_draw p1), iv (own_draw ((p1.toUInt32 >>> ((10 : Int32) &&& 31).toUInt32).toInt32)), iv (own_draw ((p1.toUInt32 >>> ((20 : Int32) &&& 31).toUInt32).toInt32)), rv b_4, iv 3, iv 1, iv (((p2.toUInt32 >>> ((3 : Int32) &&& 31).toUInt32).toInt32) &&& (3 : Int32)), rv b__299, rv b_305, iv 0, iv 3, iv 1, iv 2]) rfl (o_iload X_421 Hq at_187 rfl (o_iload X_421 Hq at_189 rfl (o_icmpNo X_421 Hq at_191 (by decide) (o_aload X_421 Hq at_194 rfl rfl (o_iload X_421 Hq at_196 rfl (o_iconst X_421 Hq 1 at_198 rfl (o_isub X_421 Hq at_199 ?_)))))))))
      show own_Go _ _ _ _ (T_421.setTop (mkF m 200 #[iv p1, iv p2, iv p3, iv p4, iv p5, iv p6, iv (own_draw p1), iv (own_draw ((p1.toUInt32 >>> ((10 : Int32) &&& 31).toUInt32).toInt32)), iv (own_draw ((p1.toUInt32 >>> ((20 : Int32) &&& 31).toUInt32).toInt32)), rv b_4, iv 3, iv 1, iv (((p2.toUInt32 >>> ((3 : Int32) &&& 31).toUInt32).toInt32) &&& (3 : Int32)), rv b__299, rv b_305, iv 0, iv 3, iv 1, iv 2] [(.int 1), (.ref b_4)]))
      obtain ⟨cl_432, Ar_432, qk_432, Sz_432, Ng_432, Hs_432, Gs_432⟩ := id Fa_430
      refine own_st (X_421.caload hx (j := (1 : Int32)) (v := (.int (own_draw ((p1.toUInt32 >>> ((10 : Int32) &&& 31).toUInt32).toInt32)))) Ar_432.1 (State.isArrayOf_alike hZ.alike Ar_432.2.1) Ar_432.2.2 (inb_of Sz_432 ⟨by decide, by decide⟩) (Hs_432.at (j := (1 : Int32)) (inb_of Sz_432 ⟨by decide, by decide⟩) rfl) (g := (mkF m 200 #[iv p1, iv p2, iv p3, iv p4, iv p5, iv p6, iv (own_draw p1), iv (own_draw ((p1.toUInt32 >>> ((10 : Int32) &&& 31).toUInt32).toInt32)), iv (own_draw ((p1.toUInt32 >>> ((20 : Int32) &&& 31).toUInt32).toInt32)), rv b_4, iv 3, iv 1, iv (((p2.toUInt32 >>> ((3 : Int32) &&& 31).toUInt32).toInt32) &&& (3 : Int32)), rv b__299, rv b_305, iv 0, iv 3, iv 1, iv 2] [(.int 1), (.ref b_4)])) rfl rfl (hb hby at_200)) ?_
      show own_Go _ _ _ _ (T_421.setTop (mkF m 201 #[iv p1, iv p2, iv p3, iv p4, iv p5, iv p6, iv (own_draw p1), iv (own_draw ((p1.toUInt32 >>> ((10 : Int32) &&& 31).toUInt32).toInt32)), iv (own_draw ((p1.toUInt32 >>> ((20 : Int32) &&& 31).toUInt32).toInt32)), rv b_4, iv 3, iv 1, iv (((p2.toUInt32 >>> ((3 : Int32) &&& 31).toUInt32).toInt32) &&& (3 : Int32)), rv b__299, rv b_305, iv 0, iv 3, iv 1, iv 2] [(.int (own_draw ((p1.toUInt32 >>> ((10 : Int32) &&& 31).toUInt32).toInt32)))]))
      refine o_bipush X_421 Hq 32 at_201 rfl (o_icmpYes X_421 Hq (pc' := 231) at_203 (tlt ht1).2.2.1 (o_iload X_421 Hq at_231 rfl (o_istore X_421 Hq at_233 (l' := #[iv p1, iv p2, iv p3, iv p4, iv p5, iv p6, iv (own_draw p1), iv (own_draw ((p1.toUInt32 >>> ((10 : Int32) &&& 31).toUInt32).toInt32)), iv (own_draw ((p1.toUInt32 >>> ((20 : Int32) &&& 31).toUInt32).toInt32)), rv b_4, iv 3, iv 1, iv (((p2.toUInt32 >>> ((3 : Int32) &&& 31).toUInt32).toInt32) &&& (3 : Int32)), rv b__299, rv b_305, iv 1, iv 3, iv 1, iv 2]) rfl (o_iload X_421 Hq at_235 rfl (o_istore X_421 Hq at_237 (l' := #[iv p1, iv p2, iv p3, iv p4, iv p5, iv p6, iv (own_draw p1), iv (own_draw ((p1.toUInt32 >>> ((10 : Int32) &&& 31).toUInt32).toInt32)), iv (own_draw ((p1.toUInt32 >>> ((20 : Int32) &&& 31).toUInt32).toInt32)), rv b_4, iv 3, iv 1, iv (((p2.toUInt32 >>> ((3 : Int32) &&& 31).toUInt32).toInt32) &&& (3 : Int32)), rv b__299, rv b_305, iv 1, iv 2, iv 1, iv 2]) rfl ?_)))))
      have Fa_433 := (Fa_422.keep K_421)
      have Fa_434 := (Fa_423.keep K_421)
      have Fa_435 := (Fa_424.keep K_421 (ninS (Nat.ne_of_lt (Nat.lt_of_lt_of_le Fq_299_0.lt (Nat.le_of_eq g_305.symm))) nin0))
      have Fa_436 := (Fa_425.keep K_421 (ninS (Nat.ne_of_lt (Nat.lt_of_lt_of_le Fq_299_0.lt (Nat.le_of_eq g_305.symm))) nin0))
      have Fa_437 := (Fa_426.keep K_421 (ninS (Nat.ne_of_lt (Nat.lt_of_lt_of_le Fq_299_3.lt (Nat.le_of_eq g_305.symm))) nin0))
      have Fa_438 := (own_Sta_keep Fa_427 K_421 (nsS (Fa_422.nostat) ns0))
      have Fa_439 := (own_Sta_keep Fa_428 K_421 (nsS (Fa_422.nostat) ns0))
      have Zs_440 : n0 ≤ T_421.heap.size := (Nat.le_trans Zs_429 K_421.1)
      have Kp_441 : Keep h0 T_421.heap [] := (((Kp_304.ext E_305).trans K_306 (allS (Or.inr sz_305) all0)).trans K_421 (allS (Or.inr sz_305) all0))
      have Ks_442 := (Nat.le_trans (Nat.le_trans (Nat.le_trans (Nat.le_trans (Nat.le_trans (Nat.le_trans (Nat.le_trans (Nat.le_trans (Nat.le_refl h0.size) E_4.1) (Keep.of_wr W_6).1) (Keep.of_wr W_8).1) (Keep.of_wr W_10).1) K_299.1) E_305.1) K_306.1) K_421.1)
      exact own_tail p1 p2 p3 p4 p5 p6 w sfv (own_draw p1) (own_draw ((p1.toUInt32 >>> ((10 : Int32) &&& 31).toUInt32).toInt32)) (own_draw ((p1.toUInt32 >>> ((20 : Int32) &&& 31).toUInt32).toInt32)) (3 : Int32) (1 : Int32) (((p2.toUInt32 >>> ((3 : Int32) &&& 31).toUInt32).toInt32) &&& (3 : Int32)) (1 : Int32) (2 : Int32) (3 : Int32) b_305 b_4 b__299 t__299 k_4 [(.int (own_draw p1)), (.int (own_draw ((p1.toUInt32 >>> ((10 : Int32) &&& 31).toUInt32).toInt32))), (.int (own_draw ((p1.toUInt32 >>> ((20 : Int32) &&& 31).toUInt32).toInt32)))] (.int (0 : Int32)) kt__299 [(.int (((own_draw p1).toInt8.toInt32).toInt8.toInt32)), (.int (((own_draw ((p1.toUInt32 >>> ((10 : Int32) &&& 31).toUInt32).toInt32)).toInt8.toInt32).toInt8.toInt32)), (.int (((own_draw ((p1.toUInt32 >>> ((20 : Int32) &&& 31).toUInt32).toInt32)).toInt8.toInt32).toInt8.toInt32))] (.int (0 : Int32)) (own_f (own_draw p1) (own_draw ((p1.toUInt32 >>> ((10 : Int32) &&& 31).toUInt32).toInt32)) (own_draw ((p1.toUInt32 >>> ((20 : Int32) &&& 31).toUInt32).toInt32))) _ _ X_421 hx hZ hw hby hml hown Bd.returns hlk rfl N_421 Zs_440 Kp_441 hS0 Ks_442 (by decide) (by decide) Fa_433 gg_305 sz_305 Fq_421_0 Fq_421_1 Fq_421_2 Fa_430 Fa_434 Fa_435 Fa_436 Fa_437 Fa_438 Fa_439 (Nat.ne_of_lt (Nat.lt_of_lt_of_le Fq_299_0.lt (Nat.le_of_eq g_305.symm))) (Nat.ne_of_lt (Nat.lt_of_lt_of_le Fq_299_3.lt (Nat.le_of_eq g_305.symm))) (Nat.ne_of_lt (Nat.lt_of_lt_of_le (V_10.keep K_299 nin0).lt (Nat.le_of_eq g_305.symm))) hw0 hsf (own_fcs _ _ _) (own_fat3 _ _ _) (own_fbd (own_drb _) (own_drb _) (own_drb _)) (by decide) (by decide) (by decide) (by decide)
    ·by_cases ht2 : (32 : Int32) < (own_draw ((p1.toUInt32 >>> ((20 : Int32) &&& 31).toUInt32).toInt32))
     ·refine o_aload X_306 Hq at_105 rfl rfl ?_
      have Fa_444 := (A_305.keep K_306)
      have Fa_445 := (Fa_307.keep K_306)
      have Fa_446 := (Fa_308.keep K_306 (ninS (Nat.ne_of_lt (Nat.lt_of_lt_of_le Fq_299_0.lt (Nat.le_of_eq g_305.symm))) nin0))
      have Fa_447 := (Fa_309.keep K_306 (ninS (Nat.ne_of_lt (Nat.lt_of_lt_of_le Fq_299_0.lt (Nat.le_of_eq g_305.symm))) nin0))
      have Fa_448 := (Fa_310.keep K_306 (ninS (Nat.ne_of_lt (Nat.lt_of_lt_of_le Fq_299_3.lt (Nat.le_of_eq g_305.symm))) nin0))
      have Fa_449 := (own_Sta_keep Fa_311 K_306 (nsS (A_305.nostat) ns0))
      have Fa_450 := (own_Sta_keep ((own_Sta_keep ((((S2.ext E_4).wr W_6).wr W_8).wr W_10) K_299 ns0).ext E_305) K_306 (nsS (A_305.nostat) ns0))
      have Zs_451 : n0 ≤ T_306.heap.size := (Nat.le_trans Zs_312 K_306.1)
      refine c_U0v X_306 Hq rfl hZ hown hml (k0_31U1 hw) (rmtrim3_fft hw b_305 b__299 t__299 kt__299 [(.int (((own_draw p1).toInt8.toInt32).toInt8.toInt32)), (.int (((own_draw ((p1.toUInt32 >>> ((10 : Int32) &&& 31).toUInt32).toInt32)).toInt8.toInt32).toInt8.toInt32)), (.int (((own_draw ((p1.toUInt32 >>> ((20 : Int32) &&& 31).toUInt32).toInt32)).toInt8.toInt32).toInt8.toInt32))] (.int (0 : Int32)) w sfv (own_f (own_draw p1) (own_draw ((p1.toUInt32 >>> ((10 : Int32) &&& 31).toUInt32).toInt32)) (own_draw ((p1.toUInt32 >>> ((20 : Int32) &&& 31).toUInt32).toInt32))) T_306.heap n0 Zs_451 Fa_444 gg_305 Fq_306_0 Fq_306_1 Fq_306_2 Fq_306_3 (Nat.ne_of_lt (Nat.lt_of_lt_of_le Fq_299_0.lt (Nat.le_of_eq g_305.symm))) (Nat.ne_of_lt (Nat.lt_of_lt_of_le Fq_299_3.lt (Nat.le_of_eq g_305.symm))) Fa_445 Fa_446 Fa_447 Fa_448 Fa_449 hw0 (own_fat3 _ _ _) (own_fbd (own_drb _) (own_drb _) (own_drb _)) Fa_450 hsf ht0 ht1 ht2) Fa_444 at_107 ?_ 0
      rintro T_443 L_443 X_443 ⟨-, Nq_443, K_443, Fq_443_0, Fq_443_1, Fq_443_2⟩
      have N_443 := Fr.app N_306 Nq_443
      refine o_iconst X_443 Hq 0 at_110 rfl (o_istore X_443 Hq at_111 (l' := #[iv p1, iv p2, iv p3, iv p4, iv p5, iv p6, iv (own_draw p1), iv (own_draw ((p1.toUInt32 >>> ((10 : Int32) &&& 31).toUInt32).toInt32)), iv (own_draw ((p1.toUInt32 >>> ((20 : Int32) &&& 31).toUInt32).toInt32)), rv b_4, iv 3, iv 1, iv (((p2.toUInt32 >>> ((3 : Int32) &&& 31).toUInt32).toInt32) &&& (3 : Int32)), rv b__299, rv b_305, iv 0, iv 3, iv 0, .unset]) rfl (o_iload X_443 Hq at_113 rfl (o_iconst X_443 Hq 1 at_115 rfl (o_icmpNo X_443 Hq at_116 (by decide) (o_iload X_443 Hq at_119 rfl (o_bipush X_443 Hq 32 at_121 rfl (o_icmpNo X_443 Hq at_123 (flt ht0).2.2.1 (o_iconst X_443 Hq 1 at_126 rfl (o_istore X_443 Hq at_127 (l' := #[iv p1, iv p2, iv p3, iv p4, iv p5, iv p6, iv (own_draw p1), iv (own_draw ((p1.toUInt32 >>> ((10 : Int32) &&& 31).toUInt32).toInt32)), iv (own_draw ((p1.toUInt32 >>> ((20 : Int32) &&& 31).toUInt32).toInt32)), rv b_4, iv 3, iv 1, iv (((p2.toUInt32 >>> ((3 : Int32) &&& 31).toUInt32).toInt32) &&& (3 : Int32)), rv b__299, rv b_305, iv 0, iv 3, iv 1, .unset]) rfl (o_iload X_443 Hq at_129 rfl (o_iconst X_443 Hq 2 at_131 rfl (o_icmpNo X_443 Hq at_132 (by decide) (o_iload X_443 Hq at_135 rfl (o_bipush X_443 Hq 32 at_137 rfl (o_icmpNo X_443 Hq at_139 (flt ht1).2.2.1 ?_)))))))))))))))
      refine o_iconst X_443 Hq 2 at_142 rfl (o_istore X_443 Hq at_143 (l' := #[iv p1, iv p2, iv p3, iv p4, iv p5, iv p6, iv (own_draw p1), iv (own_draw ((p1.toUInt32 >>> ((10 : Int32) &&& 31).toUInt32).toInt32)), iv (own_draw ((p1.toUInt32 >>> ((20 : Int32) &&& 31).toUInt32).toInt32)), rv b_4, iv 3, iv 1, iv (((p2.toUInt32 >>> ((3 : Int32) &&& 31).toUInt32).toInt32) &&& (3 : Int32)), rv b__299, rv b_305, iv 0, iv 3, iv 2, .unset]) rfl (o_iload X_443 Hq at_145 rfl (o_iconst X_443 Hq 3 at_147 rfl (o_icmpNo X_443 Hq at_148 (by decide) (o_iload X_443 Hq at_151 rfl (o_bipush X_443 Hq 32 at_153 rfl (o_icmpYes X_443 Hq (pc' := 161) at_155 (tlt ht2).2.2.1 (o_iload X_443 Hq at_161 rfl (o_istore X_443 Hq at_163 (l' := #[iv p1, iv p2, iv p3, iv p4, iv p5, iv p6, iv (own_draw p1), iv (own_draw ((p1.toUInt32 >>> ((10 : Int32) &&& 31).toUInt32).toInt32)), iv (own_draw ((p1.toUInt32 >>> ((20 : Int32) &&& 31).toUInt32).toInt32)), rv b_4, iv 3, iv 1, iv (((p2.toUInt32 >>> ((3 : Int32) &&& 31).toUInt32).toInt32) &&& (3 : Int32)), rv b__299, rv b_305, iv 0, iv 3, iv 2, iv 3]) rfl (o_iload X_443 Hq at_165 rfl (o_iload X_443 Hq at_167 rfl (o_icmpNo X_443 Hq at_169 (by decide) (o_aload X_443 Hq at_172 rfl rfl (o_iload X_443 Hq at_174 rfl (o_iconst X_443 Hq 1 at_176 rfl ?_)))))))))))))))
      refine o_isub X_443 Hq at_177 ?_
      show own_Go _ _ _ _ (T_443.setTop (mkF m 178 #[iv p1, iv p2, iv p3, iv p4, iv p5, iv p6, iv (own_draw p1), iv (own_draw ((p1.toUInt32 >>> ((10 : Int32) &&& 31).toUInt32).toInt32)), iv (own_draw ((p1.toUInt32 >>> ((20 : Int32) &&& 31).toUInt32).toInt32)), rv b_4, iv 3, iv 1, iv (((p2.toUInt32 >>> ((3 : Int32) &&& 31).toUInt32).toInt32) &&& (3 : Int32)), rv b__299, rv b_305, iv 0, iv 3, iv 2, iv 3] [(.int 2), (.ref b_4)]))
      have Fa_452 := ((((V_10.keep K_299 nin0).ext E_305).keep K_306 (ninS (Nat.ne_of_lt (Nat.lt_of_lt_of_le (V_10.keep K_299 nin0).lt (Nat.le_of_eq g_305.symm))) nin0)).keep K_443 (ninS (Nat.ne_of_lt (Nat.lt_of_lt_of_le (V_10.keep K_299 nin0).lt (Nat.le_of_eq g_305.symm))) nin0))
      obtain ⟨cl_453, Ar_453, qk_453, Sz_453, Ng_453, Hs_453, Gs_453⟩ := id Fa_452
      refine own_st (X_443.caload hx (j := (2 : Int32)) (v := (.int (own_draw ((p1.toUInt32 >>> ((20 : Int32) &&& 31).toUInt32).toInt32)))) Ar_453.1 (State.isArrayOf_alike hZ.alike Ar_453.2.1) Ar_453.2.2 (inb_of Sz_453 ⟨by decide, by decide⟩) (Hs_453.at (j := (2 : Int32)) (inb_of Sz_453 ⟨by decide, by decide⟩) rfl) (g := (mkF m 178 #[iv p1, iv p2, iv p3, iv p4, iv p5, iv p6, iv (own_draw p1), iv (own_draw ((p1.toUInt32 >>> ((10 : Int32) &&& 31).toUInt32).toInt32)), iv (own_draw ((p1.toUInt32 >>> ((20 : Int32) &&& 31).toUInt32).toInt32)), rv b_4, iv 3, iv 1, iv (((p2.toUInt32 >>> ((3 : Int32) &&& 31).toUInt32).toInt32) &&& (3 : Int32)), rv b__299, rv b_305, iv 0, iv 3, iv 2, iv 3] [(.int 2), (.ref b_4)])) rfl rfl (hb hby at_178)) ?_
      show own_Go _ _ _ _ (T_443.setTop (mkF m 179 #[iv p1, iv p2, iv p3, iv p4, iv p5, iv p6, iv (own_draw p1), iv (own_draw ((p1.toUInt32 >>> ((10 : Int32) &&& 31).toUInt32).toInt32)), iv (own_draw ((p1.toUInt32 >>> ((20 : Int32) &&& 31).toUInt32).toInt32)), rv b_4, iv 3, iv 1, iv (((p2.toUInt32 >>> ((3 : Int32) &&& 31).toUInt32).toInt32) &&& (3 : Int32)), rv b__299, rv b_305, iv 0, iv 3, iv 2, iv 3] [(.int (own_draw ((p1.toUInt32 >>> ((20 : Int32) &&& 31).toUInt32).toInt32)))]))
      refine o_bipush X_443 Hq 32 at_179 rfl (o_icmpYes X_443 Hq (pc' := 231) at_181 (tlt ht2).2.2.1 (o_iload X_443 Hq at_231 rfl (o_istore X_443 Hq at_233 (l' := #[iv p1, iv p2, iv p3, iv p4, iv p5, iv p6, iv (own_draw p1), iv (own_draw ((p1.toUInt32 >>> ((10 : Int32) &&& 31).toUInt32).toInt32)), iv (own_draw ((p1.toUInt32 >>> ((20 : Int32) &&& 31).toUInt32).toInt32)), rv b_4, iv 3, iv 1, iv (((p2.toUInt32 >>> ((3 : Int32) &&& 31).toUInt32).toInt32) &&& (3 : Int32)), rv b__299, rv b_305, iv 2, iv 3, iv 2, iv 3]) rfl (o_iload X_443 Hq at_235 rfl (o_istore X_443 Hq at_237 (l' := #[iv p1, iv p2, iv p3, iv p4, iv p5, iv p6, iv (own_draw p1), iv (own_draw ((p1.toUInt32 >>> ((10 : Int32) &&& 31).toUInt32).toInt32)), iv (own_draw ((p1.toUInt32 >>> ((20 : Int32) &&& 31).toUInt32).toInt32)), rv b_4, iv 3, iv 1, iv (((p2.toUInt32 >>> ((3 : Int32) &&& 31).toUInt32).toInt32) &&& (3 : Int32)), rv b__299, rv b_305, iv 2, iv 3, iv 2, iv 3]) rfl ?_)))))
      have Fa_454 := (Fa_444.keep K_443)
      have Fa_455 := (Fa_445.keep K_443)
      have Fa_456 := (Fa_446.keep K_443 (ninS (Nat.ne_of_lt (Nat.lt_of_lt_of_le Fq_299_0.lt (Nat.le_of_eq g_305.symm))) nin0))
      have Fa_457 := (Fa_447.keep K_443 (ninS (Nat.ne_of_lt (Nat.lt_of_lt_of_le Fq_299_0.lt (Nat.le_of_eq g_305.symm))) nin0))
      have Fa_458 := (Fa_448.keep K_443 (ninS (Nat.ne_of_lt (Nat.lt_of_lt_of_le Fq_299_3.lt (Nat.le_of_eq g_305.symm))) nin0))
      have Fa_459 := (own_Sta_keep Fa_449 K_443 (nsS (Fa_444.nostat) ns0))
      have Fa_460 := (own_Sta_keep Fa_450 K_443 (nsS (Fa_444.nostat) ns0))
      have Zs_461 : n0 ≤ T_443.heap.size := (Nat.le_trans Zs_451 K_443.1)
      have Kp_462 : Keep h0 T_443.heap [] := (((Kp_304.ext E_305).trans K_306 (allS (Or.inr sz_305) all0)).trans K_443 (allS (Or.inr sz_305) all0))
      have Ks_463 := (Nat.le_trans (Nat.le_trans (Nat.le_trans (Nat.le_trans (Nat.le_trans (Nat.le_trans (Nat.le_trans (Nat.le_trans (Nat.le_refl h0.size) E_4.1) (Keep.of_wr W_6).1) (Keep.of_wr W_8).1) (Keep.of_wr W_10).1) K_299.1) E_305.1) K_306.1) K_443.1)
      exact own_tail p1 p2 p3 p4 p5 p6 w sfv (own_draw p1) (own_draw ((p1.toUInt32 >>> ((10 : Int32) &&& 31).toUInt32).toInt32)) (own_draw ((p1.toUInt32 >>> ((20 : Int32) &&& 31).toUInt32).toInt32)) (3 : Int32) (1 : Int32) (((p2.toUInt32 >>> ((3 : Int32) &&& 31).toUInt32).toInt32) &&& (3 : Int32)) (2 : Int32) (3 : Int32) (3 : Int32) b_305 b_4 b__299 t__299 k_4 [(.int (own_draw p1)), (.int (own_draw ((p1.toUInt32 >>> ((10 : Int32) &&& 31).toUInt32).toInt32))), (.int (own_draw ((p1.toUInt32 >>> ((20 : Int32) &&& 31).toUInt32).toInt32)))] (.int (0 : Int32)) kt__299 [(.int (((own_draw p1).toInt8.toInt32).toInt8.toInt32)), (.int (((own_draw ((p1.toUInt32 >>> ((10 : Int32) &&& 31).toUInt32).toInt32)).toInt8.toInt32).toInt8.toInt32)), (.int (((own_draw ((p1.toUInt32 >>> ((20 : Int32) &&& 31).toUInt32).toInt32)).toInt8.toInt32).toInt8.toInt32))] (.int (0 : Int32)) (own_f (own_draw p1) (own_draw ((p1.toUInt32 >>> ((10 : Int32) &&& 31).toUInt32).toInt32)) (own_draw ((p1.toUInt32 >>> ((20 : Int32) &&& 31).toUInt32).toInt32))) _ _ X_443 hx hZ hw hby hml hown Bd.returns hlk rfl N_443 Zs_461 Kp_462 hS0 Ks_463 (by decide) (by decide) Fa_454 gg_305 sz_305 Fq_443_0 Fq_443_1 Fq_443_2 Fa_452 Fa_455 Fa_456 Fa_457 Fa_458 Fa_459 Fa_460 (Nat.ne_of_lt (Nat.lt_of_lt_of_le Fq_299_0.lt (Nat.le_of_eq g_305.symm))) (Nat.ne_of_lt (Nat.lt_of_lt_of_le Fq_299_3.lt (Nat.le_of_eq g_305.symm))) (Nat.ne_of_lt (Nat.lt_of_lt_of_le (V_10.keep K_299 nin0).lt (Nat.le_of_eq g_305.symm))) hw0 hsf (own_fcs _ _ _) (own_fat3 _ _ _) (own_fbd (own_drb _) (own_drb _) (own_drb _)) (by decide) (by decide) (by decide) (by decide)
     ·refine o_aload X_306 Hq at_105 rfl rfl ?_
      have Fa_465 := (A_305.keep K_306)
      have Fa_466 := (Fa_307.keep K_306)
      have Fa_467 := (Fa_308.keep K_306 (ninS (Nat.ne_of_lt (Nat.lt_of_lt_of_le Fq_299_0.lt (Nat.le_of_eq g_305.symm))) nin0))
      have Fa_468 := (Fa_309.keep K_306 (ninS (Nat.ne_of_lt (Nat.lt_of_lt_of_le Fq_299_0.lt (Nat.le_of_eq g_305.symm))) nin0))
      have Fa_469 := (Fa_310.keep K_306 (ninS (Nat.ne_of_lt (Nat.lt_of_lt_of_le Fq_299_3.lt (Nat.le_of_eq g_305.symm))) nin0))
      have Fa_470 := (own_Sta_keep Fa_311 K_306 (nsS (A_305.nostat) ns0))
      have Fa_471 := (own_Sta_keep ((own_Sta_keep ((((S2.ext E_4).wr W_6).wr W_8).wr W_10) K_299 ns0).ext E_305) K_306 (nsS (A_305.nostat) ns0))
      have Zs_472 : n0 ≤ T_306.heap.size := (Nat.le_trans Zs_312 K_306.1)
      refine c_U0v X_306 Hq rfl hZ hown hml (k0_31U1 hw) (rmtrim3_fff hw b_305 b__299 t__299 kt__299 [(.int (((own_draw p1).toInt8.toInt32).toInt8.toInt32)), (.int (((own_draw ((p1.toUInt32 >>> ((10 : Int32) &&& 31).toUInt32).toInt32)).toInt8.toInt32).toInt8.toInt32)), (.int (((own_draw ((p1.toUInt32 >>> ((20 : Int32) &&& 31).toUInt32).toInt32)).toInt8.toInt32).toInt8.toInt32))] (.int (0 : Int32)) w sfv (own_f (own_draw p1) (own_draw ((p1.toUInt32 >>> ((10 : Int32) &&& 31).toUInt32).toInt32)) (own_draw ((p1.toUInt32 >>> ((20 : Int32) &&& 31).toUInt32).toInt32))) T_306.heap n0 Zs_472 Fa_465 gg_305 Fq_306_0 Fq_306_1 Fq_306_2 Fq_306_3 (Nat.ne_of_lt (Nat.lt_of_lt_of_le Fq_299_0.lt (Nat.le_of_eq g_305.symm))) (Nat.ne_of_lt (Nat.lt_of_lt_of_le Fq_299_3.lt (Nat.le_of_eq g_305.symm))) Fa_466 Fa_467 Fa_468 Fa_469 Fa_470 hw0 (own_fat3 _ _ _) (own_fbd (own_drb _) (own_drb _) (own_drb _)) Fa_471 hsf ht0 ht1 ht2) Fa_465 at_107 ?_ 0
      rintro T_464 L_464 X_464 ⟨-, Nq_464, K_464, Fq_464_0, Fq_464_1, Fq_464_2⟩
      have N_464 := Fr.app N_306 Nq_464
      refine o_iconst X_464 Hq 0 at_110 rfl (o_istore X_464 Hq at_111 (l' := #[iv p1, iv p2, iv p3, iv p4, iv p5, iv p6, iv (own_draw p1), iv (own_draw ((p1.toUInt32 >>> ((10 : Int32) &&& 31).toUInt32).toInt32)), iv (own_draw ((p1.toUInt32 >>> ((20 : Int32) &&& 31).toUInt32).toInt32)), rv b_4, iv 3, iv 1, iv (((p2.toUInt32 >>> ((3 : Int32) &&& 31).toUInt32).toInt32) &&& (3 : Int32)), rv b__299, rv b_305, iv 0, iv 3, iv 0, .unset]) rfl (o_iload X_464 Hq at_113 rfl (o_iconst X_464 Hq 1 at_115 rfl (o_icmpNo X_464 Hq at_116 (by decide) (o_iload X_464 Hq at_119 rfl (o_bipush X_464 Hq 32 at_121 rfl (o_icmpNo X_464 Hq at_123 (flt ht0).2.2.1 (o_iconst X_464 Hq 1 at_126 rfl (o_istore X_464 Hq at_127 (l' := #[iv p1, iv p2, iv p3, iv p4, iv p5, iv p6, iv (own_draw p1), iv (own_draw ((p1.toUInt32 >>> ((10 : Int32) &&& 31).toUInt32).toInt32)), iv (own_draw ((p1.toUInt32 >>> ((20 : Int32) &&& 31).toUInt32).toInt32)), rv b_4, iv 3, iv 1, iv (((p2.toUInt32 >>> ((3 : Int32) &&& 31).toUInt32).toInt32) &&& (3 : Int32)), rv b__299, rv b_305, iv 0, iv 3, iv 1, .unset]) rfl (o_iload X_464 Hq at_129 rfl (o_iconst X_464 Hq 2 at_131 rfl (o_icmpNo X_464 Hq at_132 (by decide) (o_iload X_464 Hq at_135 rfl (o_bipush X_464 Hq 32 at_137 rfl (o_icmpNo X_464 Hq at_139 (flt ht1).2.2.1 ?_)))))))))))))))
      refine o_iconst X_464 Hq 2 at_142 rfl (o_istore X_464 Hq at_143 (l' := #[iv p1, iv p2, iv p3, iv p4, iv p5, iv p6, iv (own_draw p1), iv (own_draw ((p1.toUInt32 >>> ((10 : Int32) &&& 31).toUInt32).toInt32)), iv (own_draw ((p1.toUInt32 >>> ((20 : Int32) &&& 31).toUInt32).toInt32)), rv b_4, iv 3, iv 1, iv (((p2.toUInt32 >>> ((3 : Int32) &&& 31).toUInt32).toInt32) &&& (3 : Int32)), rv b__299, rv b_305, iv 0, iv 3, iv 2, .unset]) rfl (o_iload X_464 Hq at_145 rfl (o_iconst X_464 Hq 3 at_147 rfl (o_icmpNo X_464 Hq at_148 (by decide) (o_iload X_464 Hq at_151 rfl (o_bipush X_464 Hq 32 at_153 rfl (o_icmpNo X_464 Hq at_155 (flt ht2).2.2.1 (o_iconst X_464 Hq 3 at_158 rfl (o_istore X_464 Hq at_159 (l' := #[iv p1, iv p2, iv p3, iv p4, iv p5, iv p6, iv (own_draw p1), iv (own_draw ((p1.toUInt32 >>> ((10 : Int32) &&& 31).toUInt32).toInt32)), iv (own_draw ((p1.toUInt32 >>> ((20 : Int32) &&& 31).toUInt32).toInt32)), rv b_4, iv 3, iv 1, iv (((p2.toUInt32 >>> ((3 : Int32) &&& 31).toUInt32).toInt32) &&& (3 : Int32)), rv b__299, rv b_305, iv 0, iv 3, iv 3, .unset]) rfl (o_iload X_464 Hq at_161 rfl (o_istore X_464 Hq at_163 (l' := #[iv p1, iv p2, iv p3, iv p4, iv p5, iv p6, iv (own_draw p1), iv (own_draw ((p1.toUInt32 >>> ((10 : Int32) &&& 31).toUInt32).toInt32)), iv (own_draw ((p1.toUInt32 >>> ((20 : Int32) &&& 31).toUInt32).toInt32)), rv b_4, iv 3, iv 1, iv (((p2.toUInt32 >>> ((3 : Int32) &&& 31).toUInt32).toInt32) &&& (3 : Int32)), rv b__299, rv b_305, iv 0, iv 3, iv 3, iv 3]) rfl (o_iload X_464 Hq at_165 rfl (o_iload X_464 Hq at_167 rfl (o_icmpYes X_464 Hq (pc' := 231) at_169 (by decide) (o_iload X_464 Hq at_231 rfl ?_)))))))))))))))
      refine o_istore X_464 Hq at_233 (l' := #[iv p1, iv p2, iv p3, iv p4, iv p5, iv p6, iv (own_draw p1), iv (own_draw ((p1.toUInt32 >>> ((10 : Int32) &&& 31).toUInt32).toInt32)), iv (own_draw ((p1.toUInt32 >>> ((20 : Int32) &&& 31).toUInt32).toInt32)), rv b_4, iv 3, iv 1, iv (((p2.toUInt32 >>> ((3 : Int32) &&& 31).toUInt32).toInt32) &&& (3 : Int32)), rv b__299, rv b_305, iv 3, iv 3, iv 3, iv 3]) rfl (o_iload X_464 Hq at_235 rfl (o_istore X_464 Hq at_237 (l' := #[iv p1, iv p2, iv p3, iv p4, iv p5, iv p6, iv (own_draw p1), iv (own_draw ((p1.toUInt32 >>> ((10 : Int32) &&& 31).toUInt32).toInt32)), iv (own_draw ((p1.toUInt32 >>> ((20 : Int32) &&& 31).toUInt32).toInt32)), rv b_4, iv 3, iv 1, iv (((p2.toUInt32 >>> ((3 : Int32) &&& 31).toUInt32).toInt32) &&& (3 : Int32)), rv b__299, rv b_305, iv 3, iv 3, iv 3, iv 3]) rfl ?_))
      have Fa_473 := (Fa_465.keep K_464)
      have Fa_474 := ((((V_10.keep K_299 nin0).ext E_305).keep K_306 (ninS (Nat.ne_of_lt (Nat.lt_of_lt_of_le (V_10.keep K_299 nin0).lt (Nat.le_of_eq g_305.symm))) nin0)).keep K_464 (ninS (Nat.ne_of_lt (Nat.lt_of_lt_of_le (V_10.keep K_299 nin0).lt (Nat.le_of_eq g_305.symm))) nin0))
      have Fa_475 := (Fa_466.keep K_464)
      have Fa_476 := (Fa_467.keep K_464 (ninS (Nat.ne_of_lt (Nat.lt_of_lt_of_le Fq_299_0.lt (Nat.le_of_eq g_305.symm))) nin0))
      have Fa_477 := (Fa_468.keep K_464 (ninS (Nat.ne_of_lt (Nat.lt_of_lt_of_le Fq_299_0.lt (Nat.le_of_eq g_305.symm))) nin0))
      have Fa_478 := (Fa_469.keep K_464 (ninS (Nat.ne_of_lt (Nat.lt_of_lt_of_le Fq_299_3.lt (Nat.le_of_eq g_305.symm))) nin0))
      have Fa_479 := (own_Sta_keep Fa_470 K_464 (nsS (Fa_465.nostat) ns0))
      have Fa_480 := (own_Sta_keep Fa_471 K_464 (nsS (Fa_465.nostat) ns0))
      have Zs_481 : n0 ≤ T_464.heap.size := (Nat.le_trans Zs_472 K_464.1)
      have Kp_482 : Keep h0 T_464.heap [] := (((Kp_304.ext E_305).trans K_306 (allS (Or.inr sz_305) all0)).trans K_464 (allS (Or.inr sz_305) all0))
      have Ks_483 := (Nat.le_trans (Nat.le_trans (Nat.le_trans (Nat.le_trans (Nat.le_trans (Nat.le_trans (Nat.le_trans (Nat.le_trans (Nat.le_refl h0.size) E_4.1) (Keep.of_wr W_6).1) (Keep.of_wr W_8).1) (Keep.of_wr W_10).1) K_299.1) E_305.1) K_306.1) K_464.1)
      exact own_tail p1 p2 p3 p4 p5 p6 w sfv (own_draw p1) (own_draw ((p1.toUInt32 >>> ((10 : Int32) &&& 31).toUInt32).toInt32)) (own_draw ((p1.toUInt32 >>> ((20 : Int32) &&& 31).toUInt32).toInt32)) (3 : Int32) (1 : Int32) (((p2.toUInt32 >>> ((3 : Int32) &&& 31).toUInt32).toInt32) &&& (3 : Int32)) (3 : Int32) (3 : Int32) (3 : Int32) b_305 b_4 b__299 t__299 k_4 [(.int (own_draw p1)), (.int (own_draw ((p1.toUInt32 >>> ((10 : Int32) &&& 31).toUInt32).toInt32))), (.int (own_draw ((p1.toUInt32 >>> ((20 : Int32) &&& 31).toUInt32).toInt32)))] (.int (0 : Int32)) kt__299 [(.int (((own_draw p1).toInt8.toInt32).toInt8.toInt32)), (.int (((own_draw ((p1.toUInt32 >>> ((10 : Int32) &&& 31).toUInt32).toInt32)).toInt8.toInt32).toInt8.toInt32)), (.int (((own_draw ((p1.toUInt32 >>> ((20 : Int32) &&& 31).toUInt32).toInt32)).toInt8.toInt32).toInt8.toInt32))] (.int (0 : Int32)) (own_f (own_draw p1) (own_draw ((p1.toUInt32 >>> ((10 : Int32) &&& 31).toUInt32).toInt32)) (own_draw ((p1.toUInt32 >>> ((20 : Int32) &&& 31).toUInt32).toInt32))) _ _ X_464 hx hZ hw hby hml hown Bd.returns hlk rfl N_464 Zs_481 Kp_482 hS0 Ks_483 (by decide) (by decide) Fa_473 gg_305 sz_305 Fq_464_0 Fq_464_1 Fq_464_2 Fa_474 Fa_475 Fa_476 Fa_477 Fa_478 Fa_479 Fa_480 (Nat.ne_of_lt (Nat.lt_of_lt_of_le Fq_299_0.lt (Nat.le_of_eq g_305.symm))) (Nat.ne_of_lt (Nat.lt_of_lt_of_le Fq_299_3.lt (Nat.le_of_eq g_305.symm))) (Nat.ne_of_lt (Nat.lt_of_lt_of_le (V_10.keep K_299 nin0).lt (Nat.le_of_eq g_305.symm))) hw0 hsf (own_fcs _ _ _) (own_fat3 _ _ _) (own_fbd (own_drb _) (own_drb _) (own_drb _)) (by decide) (by decide) (by decide) (by decide)
theorem comes_1 {Post : Tables → Env → Array Value → State → Outcome → State → Prop} (hpost : ∀ tb e args s v u, (limb_1_1.after args s (.returned v) u = true ∧ limb_1_2.after args s (.returned v) u = true ∧ True) → ReturnedEndW s (.returned v) u (Jvm.fieldLocs frame_1_writes args s ++ Jvm.arrayLocs frame_1_arrays args s ++ Jvm.staticLocs frame_1_statics s) 24 1152 → Post tb e args s (.returned v) u) :
  ArmFor flags0 classFile x code maxLocals ret World_1 tables_1 room_1 Calls_1 rest_1 Pre_1 Post := by
 intro l hfl _ _ p e ha hc hk s m args below hf hA hF happ hP
 obtain ⟨hcalls, hrest, hpre⟩ := hP
 obtain ⟨-, -, -, hnamed, -, -, -, hat⟩ := (Spec.applies_iff hf).mp happ
 obtain ⟨hg, hn⟩ := and_e (Cond.before_iff.mp (show (Jvm.Cond.and given_1 narrow_1).before args s = true from hpre))
 obtain ⟨g1, g2⟩ := and_e hg
 obtain ⟨g3, g4⟩ := and_e g2
 obtain ⟨g5, g6⟩ := and_e g4
 obtain ⟨g7, g8⟩ := and_e g6
 obtain ⟨g9, g10⟩ := and_e g8
 obtain ⟨g11, g12⟩ := and_e g10
 obtain ⟨w0, w1, w2, w3, w4, w5, rfl⟩ : ∃ w0 w1 w2 w3 w4 w5 : Value, args = #[w0, w1, w2, w3, w4, w5] := by
  have hs : args.size = 6 := by simpa [Cond.value, given_1] using g1
  obtain ⟨L⟩ := args
  match L, hs with
  | [w0, w1, w2, w3, w4, w5], _ => exact ⟨w0, w1, w2, w3, w4, w5, rfl⟩
 have hw := fun d (hd : d ∈ tables_1) => atoms_spec (ws := Jvm.Cond.code x code maxLocals ret :: tables_1) hat d (List.mem_cons_of_mem _ hd)
 have hfit : Fit s := fun {y c} hc i hi => by
  obtain ⟨ha, rfl⟩ := Array.getElem?_eq_some_iff.mp hc
  have q := List.all_eq_true.mp ((Array.all_eq_true_iff_forall_mem.mp hF) _ (Array.getElem_mem ha)) i (List.mem_range.mpr hi)
  simpa [Array.getElem?_eq_getElem hi] using q
 obtain ⟨hsets, hown0⟩ := atoms_of _ (rest_1_c_eq ▸ (show rest_1_c.before _ s = true from hrest))
 have hr0 := Cond.before_iff.mp hown0
 obtain ⟨i0, ei0⟩ := is_v g3
 obtain rfl : w0 = (.int i0) := Option.some.inj ei0
 obtain ⟨i1, ei1⟩ := is_v g5
 obtain rfl : w1 = (.int i1) := Option.some.inj ei1
 obtain ⟨i2, ei2⟩ := is_v g7
 obtain rfl : w2 = (.int i2) := Option.some.inj ei2
 obtain ⟨i3, ei3⟩ := is_v g9
 obtain rfl : w3 = (.int i3) := Option.some.inj ei3
 obtain ⟨i4, ei4⟩ := is_v g11
 obtain rfl : w4 = (.int i4) := Option.some.inj ei4
 obtain ⟨i5, ei5⟩ := is_v g12
 obtain rfl : w5 = (.int i5) := Option.some.inj ei5
 obtain ⟨wC, evC⟩ := is_v (Cond.before_iff.mp (hsets _ (List.mem_of_getElem? (i := 1) rfl)))
 have hwC : ¬ wC = (0 : Int32) := gotF (Cond.eq_ints evC (Term.int_eval (0))) (not_v (Cond.before_iff.mp (hsets _ (List.mem_of_getElem? (i := 2) rfl))))
 obtain ⟨sfv, evS, hsf⟩ := isR_v (Cond.before_iff.mp (hsets _ (List.mem_of_getElem? (i := 8) rfl)))
 obtain ⟨n, o, h1, h2, h3, _, L, rfl, ⟨rfl, N, -⟩, hq⟩ := rm0 l s _ hw tables_1 i0 i1 i2 i3 i4 i5 wC sfv s.heap s.heap.size (Nat.le_refl _) (Sta.start evC (Or.inl (hsets _ (List.mem_of_getElem? (i := 0) rfl)))) hwC (Sta.start evS (Or.inl (hsets _ (List.mem_of_getElem? (i := 7) rfl)))) hsf p e ha hc hk s m _ below hf ((Spec.applies_iff_loose hf).mp happ).1 ⟨rfl, State.Warmed39.refl s, rfl, (CHv.start (own_EW hw) (fun p hp => hcalls.1 p hp) (hsets _ (List.mem_of_getElem? (i := 2) rfl)) (w_ hw 26 rfl) (w_ hw 9 rfl))⟩ trivial
 refine ⟨n, _, h1, h2, h3, hpost _ _ _ _ _ _ ⟨Cond.after_iff.mpr rfl, Cond.after_iff.mpr (eq_i res_at (Term.int_eval (1)) rfl), trivial⟩ ⟨hq.1, hq.2.1, hq.2.2.1, (hq.2.2.2.sift fun y hy => Or.inr (N y hy)).mono (by decide) (by decide)⟩⟩
theorem main_1_1 : Claimed_1_1 := comes_1 fun _ _ _ _ _ _ h hF => ⟨h.1, hF⟩
theorem main_1_2 : Claimed_1_2 := comes_1 fun _ _ _ _ _ _ h hF => ⟨h.2.1, hF⟩
end Jvm.Pilot.@@N@@
namespace Jvm.Pilot.@@N@@
open Jvm Jvm.ClassFile Sem Op Lib Jvm.Free Jvm.Stand Jvm.Pilot.@@N@@.Jvm.D
/-! MADE BY PROGRAM (witnessworld.py) out of the Statement's table words and the real class files: 20 classes; the members and pool entries that the words name. The judged class is class 1, her method 4. -/
namespace start1
open Jvm.ClassFile
def u (s : String) : CpInfo := .utf8 (stringToUtf16 s)
/-- a pool by its gaps: so many unusable entries, then the entry; so many at the end -/
def gap : Nat → List CpInfo → List CpInfo
  | 0, r => r
  | n + 1, r => .unusable :: gap n r
def poolList (es : List (Nat × CpInfo)) (last : Nat) : List CpInfo := es.foldr (fun e r => gap e.1 (e.2 :: r)) (gap last [])
def pool (es : List (Nat × CpInfo)) (last : Nat) : Array CpInfo := ⟨poolList es last⟩
def fileOf (pool : Array CpInfo) (this : Nat) (attrs : Array Attribute := #[]) (ms : Array MethodInfo := #[]) (fl : Nat := 33) (sup : Nat := 0) (ifs : Array Nat := #[]) (fds : Array FieldInfo := #[]) : ClassFile where
  minorVersion := 0
  majorVersion := 65
  constantPool := pool
  accessFlags := fl
  thisClass := this
  superClass := sup
  interfaces := ifs
  fields := fds
  methods := ms
  attributes := attrs
def plain (name : String) (sup : Option ClassId) : Class where
  name := name
  kind := .ordinary
  loader := none
  accessFlags := 33
  super := sup
  interfaces := #[]
  cf := none
  fields := #[]
  methods := #[]
  instanceTypes := #[]
  staticTypes := #[]
  resolved := #[]
  callSites := []
  init := .initialized
  statics := none
  mirror := none

def pool0 : Array CpInfo := pool [(5, u "<init>"), (0, u "()V"), (1, .class_ 10), (1, u "java/lang/Object")] 113

def k0c0 : Code := { maxStack := 0, maxLocals := 1, code := object_method_1_code, exceptionTable := #[], attributes := #[] }
def k0m0 : Method := { name := "<init>", desc := "()V", sig := { parameters := [], returnType := none }, accessFlags := 1, code := some k0c0 }
/-- java/lang/Object -/
def k0 : Class := { plain "java/lang/Object" none with
  accessFlags := 33
  interfaces := #[]
  cf := some (fileOf pool0 8 #[] #[{ accessFlags := 1, nameIndex := 5, descriptorIndex := 6, attributes := #[] }] 33 0 #[] #[])
  fields := #[]
  methods := #[k0m0]
  instanceTypes := #[]
  staticTypes := #[]
  resolved := Array.replicate 124 none
  statics := none }

def pool1 : Array CpInfo := pool [(2, .class_ 4), (1, u "java/lang/Object"), (0, u "<init>"), (0, u "()V"), (0, .class_ 8), (0, u "java/lang/String"), (0, .methodref 7 10), (0, .nameAndType 5 11), (0, u "([C)V"), (0, .methodref 13 14), (0, .class_ 15), (0, .nameAndType 16 17), (0, u "com/example/vernum/vernum/VersionScannerAtEndPinLaw"), (0, u "draw"), (0, u "(I)C"), (0, .methodref 19 20), (0, .class_ 21), (0, .nameAndType 22 23), (0, u "com/example/vernum/vernum/VersionScanner"), (0, u "skip"), (0, u "(C)Z"), (0, .methodref 13 25), (0, .nameAndType 26 27), (0, u "make"), (0, u "(ICCC)Ljava/lang/String;"), (0, .methodref 19 29), (0, .nameAndType 5 30), (0, u "(Ljava/lang/String;)V"), (0, .methodref 19 32), (0, .nameAndType 33 6), (0, u "trim"), (0, .methodref 19 35), (0, .nameAndType 36 37), (0, u "atEnd"), (0, u "()Z"), (0, .methodref 13 39), (0, .nameAndType 40 41), (0, u "step"), (0, u "(Lcom/example/vernum/vernum/VersionScanner;[CIIZI)I"), (3, u "law"), (0, u "(IIIIII)Z")] 4

def k1m0 : Method := { name := "<init>", desc := "()V", sig := { parameters := [], returnType := none }, accessFlags := 2, code := none }
def k1c1 : Code := { maxStack := 2, maxLocals := 2, code := method_2_code, exceptionTable := #[], attributes := #[] }
def k1m1 : Method := { name := "draw", desc := "(I)C", sig := { parameters := [.int], returnType := some .char }, accessFlags := 10, code := some k1c1 }
def k1c2 : Code := { maxStack := 6, maxLocals := 4, code := method_3_code, exceptionTable := #[], attributes := #[] }
def k1m2 : Method := { name := "make", desc := "(ICCC)Ljava/lang/String;", sig := { parameters := [.int, .char, .char, .char], returnType := some (.object "java/lang/String") }, accessFlags := 10, code := some k1c2 }
def k1c3 : Code := { maxStack := 2, maxLocals := 9, code := method_4_code, exceptionTable := #[], attributes := #[] }
def k1m3 : Method := { name := "step", desc := "(Lcom/example/vernum/vernum/VersionScanner;[CIIZI)I", sig := { parameters := [(.object "com/example/vernum/vernum/VersionScanner"), (.array .char), .int, .int, .boolean, .int], returnType := some .int }, accessFlags := 10, code := some k1c3 }
def k1c4 : Code := { maxStack := 6, maxLocals := 19, code := code, exceptionTable := #[], attributes := #[] }
def k1m4 : Method := { name := "law", desc := "(IIIIII)Z", sig := { parameters := [.int, .int, .int, .int, .int, .int], returnType := some .boolean }, accessFlags := 9, code := some k1c4 }
/-- com/example/vernum/vernum/VersionScannerAtEndPinLaw -/
def k1 : Class := { plain "com/example/vernum/vernum/VersionScannerAtEndPinLaw" (some 0) with
  accessFlags := 49
  interfaces := #[]
  cf := some (fileOf pool1 13 #[] #[{ accessFlags := 2, nameIndex := 5, descriptorIndex := 6, attributes := #[] }, { accessFlags := 10, nameIndex := 16, descriptorIndex := 17, attributes := #[] }, { accessFlags := 10, nameIndex := 26, descriptorIndex := 27, attributes := #[] }, { accessFlags := 10, nameIndex := 40, descriptorIndex := 41, attributes := #[] }, { accessFlags := 9, nameIndex := 45, descriptorIndex := 46, attributes := #[] }] 49 2 #[] #[])
  fields := #[]
  methods := #[k1m0, k1m1, k1m2, k1m3, k1m4]
  instanceTypes := #[]
  staticTypes := #[]
  resolved := Array.replicate 51 none
  statics := none }

def pool2 : Array CpInfo := pool [(1, .class_ 2), (0, u "java/io/Serializable"), (0, .class_ 4), (0, u "java/lang/Object")] 2

/-- java/io/Serializable -/
def k2 : Class := { plain "java/io/Serializable" (some 0) with
  accessFlags := 1537
  interfaces := #[]
  cf := some (fileOf pool2 1 #[] #[] 1537 3 #[] #[])
  fields := #[]
  methods := #[]
  instanceTypes := #[]
  staticTypes := #[]
  resolved := Array.replicate 7 none
  statics := none }

def pool3 : Array CpInfo := pool [(1, .class_ 2), (0, u "java/lang/Comparable"), (0, .class_ 4), (0, u "java/lang/Object")] 7

/-- java/lang/Comparable -/
def k3 : Class := { plain "java/lang/Comparable" (some 0) with
  accessFlags := 1537
  interfaces := #[]
  cf := some (fileOf pool3 1 #[] #[] 1537 3 #[] #[])
  fields := #[]
  methods := #[]
  instanceTypes := #[]
  staticTypes := #[]
  resolved := Array.replicate 12 none
  statics := none }

def pool4 : Array CpInfo := pool [(2, .class_ 4), (1, u "java/lang/CharSequence"), (42, .class_ 48), (0, u "java/lang/CharSequence$1CodePointIterator"), (10, .class_ 60), (0, u "java/lang/CharSequence$1CharIterator"), (5, .class_ 67), (0, u "java/lang/Object")] 63

/-- java/lang/CharSequence -/
def k4 : Class := { plain "java/lang/CharSequence" (some 0) with
  accessFlags := 1537
  interfaces := #[]
  cf := some (fileOf pool4 2 #[.nestMembers #[47, 59]] #[] 1537 66 #[] #[])
  fields := #[]
  methods := #[]
  instanceTypes := #[]
  staticTypes := #[]
  resolved := Array.replicate 131 none
  statics := none }

def pool5 : Array CpInfo := pool [(1, .class_ 2), (0, u "java/lang/constant/Constable"), (0, .class_ 4), (0, u "java/lang/Object")] 6

/-- java/lang/constant/Constable -/
def k5 : Class := { plain "java/lang/constant/Constable" (some 0) with
  accessFlags := 1537
  interfaces := #[]
  cf := some (fileOf pool5 1 #[] #[] 1537 3 #[] #[])
  fields := #[]
  methods := #[]
  instanceTypes := #[]
  staticTypes := #[]
  resolved := Array.replicate 11 none
  statics := none }

def pool6 : Array CpInfo := pool [(1, .class_ 2), (0, u "java/lang/constant/ConstantDesc"), (0, .class_ 4), (0, u "java/lang/Object")] 32

/-- java/lang/constant/ConstantDesc -/
def k6 : Class := { plain "java/lang/constant/ConstantDesc" (some 0) with
  accessFlags := 1537
  interfaces := #[]
  cf := some (fileOf pool6 1 #[] #[] 1537 3 #[] #[])
  fields := #[]
  methods := #[]
  instanceTypes := #[]
  staticTypes := #[]
  resolved := Array.replicate 37 none
  statics := none }

def pool7 : Array CpInfo := pool [(1, .methodref 2 3), (0, .class_ 4), (0, .nameAndType 5 6), (0, u "java/lang/Object"), (0, u "<init>"), (0, u "()V"), (0, .string 8), (0, u ""), (0, .fieldref 10 11), (0, .class_ 12), (0, .nameAndType 13 14), (0, u "java/lang/String"), (0, u "value"), (0, u "[B"), (0, .fieldref 10 16), (0, .nameAndType 17 18), (0, u "coder"), (0, u "B"), (2, u "hash"), (0, u "I"), (2, u "hashIsZero"), (0, u "Z"), (0, .methodref 10 28), (0, .nameAndType 5 29), (0, u "([CIILjava/lang/Void;)V"), (8, .fieldref 10 39), (0, .nameAndType 40 26), (0, u "COMPACT_STRINGS"), (1, .class_ 44), (1, u "java/lang/StringUTF16"), (0, u "compress"), (1, .methodref 42 48), (0, .nameAndType 49 50), (0, u "coderFromArrayLen"), (0, u "([BI)B"), (56, .class_ 109), (1, u "java/lang/StringLatin1"), (32, u "()Z"), (34, .methodref 42 178), (0, .nameAndType 45 179), (0, u "([CII)[B"), (154, u "()I"), (0, .methodref 10 336), (0, .nameAndType 17 337), (0, u "()B"), (25, u "([BI)C"), (27, u "(II)V"), (35, u "(I)C"), (64, .methodref 10 493), (0, .nameAndType 494 142), (0, u "isLatin1"), (0, .methodref 107 496), (0, .nameAndType 497 363), (0, u "charAt"), (3, u "checkIndex"), (5, u "length"), (67, .class_ 576), (0, u "java/lang/CharSequence"), (22, u "CASE_INSENSITIVE_ORDER"), (0, u "Ljava/util/Comparator;"), (409, u "([C)V"), (42, .fieldref 1054 1055), (0, .class_ 1056), (0, .nameAndType 1057 1058), (0, u "jdk/internal/util/Preconditions"), (0, u "SIOOBE_FORMATTER"), (0, u "Ljava/util/function/BiFunction;"), (0, .methodref 1054 1060), (0, .nameAndType 501 1061), (0, u "(IILjava/util/function/BiFunction;)I"), (39, u "serialPersistentFields"), (0, u "[Ljava/io/ObjectStreamField;"), (0, .class_ 1104), (0, u "java/lang/String$CaseInsensitiveComparator"), (1, .class_ 1107), (0, u "java/io/Serializable"), (0, .class_ 1109), (0, u "java/lang/Comparable"), (0, .class_ 1111), (0, u "java/lang/constant/Constable"), (0, .class_ 1113), (0, u "java/lang/constant/ConstantDesc"), (2, u "serialVersionUID"), (0, u "J"), (3, u "REPL"), (0, u "C"), (2, u "LATIN1"), (1, u "UTF16")] 323

def k7m0 : Method := { name := "<init>", desc := "()V", sig := { parameters := [], returnType := none }, accessFlags := 1, code := none }
def k7c1 : Code := { maxStack := 5, maxLocals := 2, code := jdk_42_method_3_code, exceptionTable := #[], attributes := #[] }
def k7m1 : Method := { name := "<init>", desc := "([C)V", sig := { parameters := [(.array .char)], returnType := none }, accessFlags := 1, code := some k7c1 }
def k7c2 : Code := { maxStack := 2, maxLocals := 1, code := jdk_42_method_54_code, exceptionTable := #[], attributes := #[] }
def k7m2 : Method := { name := "length", desc := "()I", sig := { parameters := [], returnType := some .int }, accessFlags := 1, code := some k7c2 }
def k7c3 : Code := { maxStack := 2, maxLocals := 2, code := jdk_42_method_56_code, exceptionTable := #[], attributes := #[] }
def k7m3 : Method := { name := "charAt", desc := "(I)C", sig := { parameters := [.int], returnType := some .char }, accessFlags := 1, code := some k7c3 }
def k7c4 : Code := { maxStack := 4, maxLocals := 6, code := jdk_42_method_149_code, exceptionTable := #[], attributes := #[] }
def k7m4 : Method := { name := "<init>", desc := "([CIILjava/lang/Void;)V", sig := { parameters := [(.array .char), .int, .int, (.object "java/lang/Void")], returnType := none }, accessFlags := 2, code := some k7c4 }
def k7c5 : Code := { maxStack := 1, maxLocals := 1, code := jdk_42_method_152_code, exceptionTable := #[], attributes := #[] }
def k7m5 : Method := { name := "coder", desc := "()B", sig := { parameters := [], returnType := some .byte }, accessFlags := 0, code := some k7c5 }
def k7c6 : Code := { maxStack := 1, maxLocals := 1, code := jdk_42_method_154_code, exceptionTable := #[], attributes := #[] }
def k7m6 : Method := { name := "isLatin1", desc := "()Z", sig := { parameters := [], returnType := some .boolean }, accessFlags := 0, code := some k7c6 }
def k7c7 : Code := { maxStack := 3, maxLocals := 2, code := jdk_42_method_155_code, exceptionTable := #[], attributes := #[] }
def k7m7 : Method := { name := "checkIndex", desc := "(II)V", sig := { parameters := [.int, .int], returnType := none }, accessFlags := 8, code := some k7c7 }
/-- java/lang/String -/
def k7 : Class := { plain "java/lang/String" (some 0) with
  accessFlags := 49
  interfaces := #[2, 3, 4, 5, 6]
  cf := some (fileOf pool7 10 #[.nestMembers #[1103]] #[{ accessFlags := 1, nameIndex := 5, descriptorIndex := 6, attributes := #[] }, { accessFlags := 1, nameIndex := 5, descriptorIndex := 1010, attributes := #[] }, { accessFlags := 1, nameIndex := 507, descriptorIndex := 334, attributes := #[] }, { accessFlags := 1, nameIndex := 497, descriptorIndex := 427, attributes := #[] }, { accessFlags := 2, nameIndex := 5, descriptorIndex := 29, attributes := #[] }, { accessFlags := 0, nameIndex := 17, descriptorIndex := 337, attributes := #[] }, { accessFlags := 0, nameIndex := 494, descriptorIndex := 142, attributes := #[] }, { accessFlags := 8, nameIndex := 501, descriptorIndex := 391, attributes := #[] }] 49 2 #[1106, 1108, 575, 1110, 1112] #[{ accessFlags := 18, nameIndex := 13, descriptorIndex := 14, attributes := #[] }, { accessFlags := 18, nameIndex := 17, descriptorIndex := 18, attributes := #[] }, { accessFlags := 2, nameIndex := 21, descriptorIndex := 22, attributes := #[] }, { accessFlags := 2, nameIndex := 25, descriptorIndex := 26, attributes := #[] }, { accessFlags := 26, nameIndex := 1116, descriptorIndex := 1117, attributes := #[] }, { accessFlags := 24, nameIndex := 40, descriptorIndex := 26, attributes := #[] }, { accessFlags := 26, nameIndex := 1101, descriptorIndex := 1102, attributes := #[] }, { accessFlags := 26, nameIndex := 1121, descriptorIndex := 1122, attributes := #[] }, { accessFlags := 25, nameIndex := 599, descriptorIndex := 600, attributes := #[] }, { accessFlags := 24, nameIndex := 1125, descriptorIndex := 18, attributes := #[] }, { accessFlags := 24, nameIndex := 1127, descriptorIndex := 18, attributes := #[] }])
  fields := #[{ name := "value", type := (.array .byte), accessFlags := 18, slot := 0, constantValue := 0 }, { name := "coder", type := .byte, accessFlags := 18, slot := 1, constantValue := 0 }, { name := "hash", type := .int, accessFlags := 2, slot := 2, constantValue := 0 }, { name := "hashIsZero", type := .boolean, accessFlags := 2, slot := 3, constantValue := 0 }, { name := "serialVersionUID", type := .long, accessFlags := 26, slot := 0, constantValue := 0 }, { name := "COMPACT_STRINGS", type := .boolean, accessFlags := 24, slot := 1, constantValue := 0 }, { name := "serialPersistentFields", type := (.array (.object "java/io/ObjectStreamField")), accessFlags := 26, slot := 2, constantValue := 0 }, { name := "REPL", type := .char, accessFlags := 26, slot := 3, constantValue := 0 }, { name := "CASE_INSENSITIVE_ORDER", type := (.object "java/util/Comparator"), accessFlags := 25, slot := 4, constantValue := 0 }, { name := "LATIN1", type := .byte, accessFlags := 24, slot := 5, constantValue := 0 }, { name := "UTF16", type := .byte, accessFlags := 24, slot := 6, constantValue := 0 }]
  methods := #[k7m0, k7m1, k7m2, k7m3, k7m4, k7m5, k7m6, k7m7]
  instanceTypes := #[(.array .byte), .byte, .int, .boolean]
  staticTypes := #[.long, .boolean, (.array (.object "java/io/ObjectStreamField")), .char, (.object "java/util/Comparator"), .byte, .byte]
  resolved := Array.replicate 1451 none
  statics := some 0 }

def pool8 : Array CpInfo := pool [(6, .class_ 8), (1, u "java/lang/Object"), (0, u "<init>"), (0, u "()V"), (1, .class_ 14), (1, u "java/lang/StringUTF16"), (31, u "$assertionsDisabled"), (0, u "Z"), (13, u "HI_BYTE_SHIFT"), (0, u "I"), (2, u "LO_BYTE_SHIFT"), (49, .methodref 12 116), (0, .nameAndType 117 118), (0, u "compress"), (0, u "([CI[BII)I"), (3, u "([CII)[B"), (138, u "coderFromArrayLen"), (0, u "([BI)B"), (106, .class_ 371), (1, u "java/lang/StringUTF16$LinesSpliterator"), (58, u "MAX_LENGTH"), (196, .class_ 628), (0, u "java/lang/StringUTF16$CodePointsSpliterator"), (0, .class_ 630), (0, u "java/lang/StringUTF16$CharsSpliterator")] 4

def k8m0 : Method := { name := "<init>", desc := "()V", sig := { parameters := [], returnType := none }, accessFlags := 0, code := none }
def k8c1 : Code := { maxStack := 2, maxLocals := 2, code := jdk_52_method_15_code, exceptionTable := #[], attributes := #[] }
def k8m1 : Method := { name := "coderFromArrayLen", desc := "([BI)B", sig := { parameters := [(.array .byte), .int], returnType := some .byte }, accessFlags := 8, code := some k8c1 }
def k8c2 : Code := { maxStack := 5, maxLocals := 6, code := jdk_52_method_16_code, exceptionTable := #[], attributes := #[] }
def k8m2 : Method := { name := "compress", desc := "([CII)[B", sig := { parameters := [(.array .char), .int, .int], returnType := some (.array .byte) }, accessFlags := 9, code := some k8c2 }
def k8c3 : Code := { maxStack := 3, maxLocals := 7, code := jdk_52_method_21_code, exceptionTable := #[], attributes := #[] }
def k8m3 : Method := { name := "compress", desc := "([CI[BII)I", sig := { parameters := [(.array .char), .int, (.array .byte), .int, .int], returnType := some .int }, accessFlags := 9, code := some k8c3 }
/-- java/lang/StringUTF16 -/
def k8 : Class := { plain "java/lang/StringUTF16" (some 0) with
  accessFlags := 48
  interfaces := #[]
  cf := some (fileOf pool8 12 #[.nestMembers #[627, 629, 369]] #[{ accessFlags := 0, nameIndex := 9, descriptorIndex := 10, attributes := #[] }, { accessFlags := 8, nameIndex := 261, descriptorIndex := 262, attributes := #[] }, { accessFlags := 9, nameIndex := 117, descriptorIndex := 122, attributes := #[] }, { accessFlags := 9, nameIndex := 117, descriptorIndex := 118, attributes := #[] }] 48 6 #[] #[{ accessFlags := 26, nameIndex := 61, descriptorIndex := 62, attributes := #[] }, { accessFlags := 26, nameIndex := 65, descriptorIndex := 62, attributes := #[] }, { accessFlags := 24, nameIndex := 430, descriptorIndex := 62, attributes := #[] }, { accessFlags := 4120, nameIndex := 46, descriptorIndex := 47, attributes := #[] }])
  fields := #[{ name := "HI_BYTE_SHIFT", type := .int, accessFlags := 26, slot := 0, constantValue := 0 }, { name := "LO_BYTE_SHIFT", type := .int, accessFlags := 26, slot := 1, constantValue := 0 }, { name := "MAX_LENGTH", type := .int, accessFlags := 24, slot := 2, constantValue := 0 }, { name := "$assertionsDisabled", type := .boolean, accessFlags := 4120, slot := 3, constantValue := 0 }]
  methods := #[k8m0, k8m1, k8m2, k8m3]
  instanceTypes := #[]
  staticTypes := #[.int, .int, .int, .boolean]
  resolved := Array.replicate 635 none
  statics := none }

def pool9 : Array CpInfo := pool [(1, .methodref 2 3), (0, .class_ 4), (0, .nameAndType 5 6), (0, u "java/lang/Object"), (0, u "<init>"), (0, u "()V"), (0, .fieldref 8 9), (0, .class_ 10), (0, .nameAndType 11 12), (0, u "com/example/vernum/vernum/VersionScanner"), (0, u "input"), (0, u "Ljava/lang/String;"), (0, .methodref 14 15), (0, .class_ 16), (0, .nameAndType 17 18), (0, u "java/lang/String"), (0, u "length"), (0, u "()I"), (0, .fieldref 8 20), (0, .nameAndType 21 22), (0, u "end"), (0, u "I"), (0, .fieldref 8 24), (0, .nameAndType 25 22), (0, u "position"), (0, .fieldref 8 27), (0, .nameAndType 28 22), (0, u "peeked"), (6, .methodref 14 36), (0, .nameAndType 37 38), (0, u "charAt"), (0, u "(I)C"), (16, u "outOfRange"), (0, u "Z"), (38, u "LETTERS_AND_DIGITS"), (0, u "[Z"), (0, u "(Ljava/lang/String;)V"), (4, u "trim"), (1, u "atEnd"), (0, u "()Z"), (0, u "skip"), (0, u "(C)Z")] 9

def k9c0 : Code := { maxStack := 2, maxLocals := 2, code := prog_24_method_1_code, exceptionTable := #[], attributes := #[] }
def k9m0 : Method := { name := "<init>", desc := "(Ljava/lang/String;)V", sig := { parameters := [(.object "java/lang/String")], returnType := none }, accessFlags := 0, code := some k9c0 }
def k9c1 : Code := { maxStack := 3, maxLocals := 1, code := prog_24_method_4_code, exceptionTable := #[], attributes := #[] }
def k9m1 : Method := { name := "trim", desc := "()V", sig := { parameters := [], returnType := none }, accessFlags := 0, code := some k9c1 }
def k9c2 : Code := { maxStack := 2, maxLocals := 1, code := prog_24_method_6_code, exceptionTable := #[], attributes := #[] }
def k9m2 : Method := { name := "atEnd", desc := "()Z", sig := { parameters := [], returnType := some .boolean }, accessFlags := 0, code := some k9c2 }
def k9c3 : Code := { maxStack := 3, maxLocals := 2, code := prog_24_method_7_code, exceptionTable := #[], attributes := #[] }
def k9m3 : Method := { name := "skip", desc := "(C)Z", sig := { parameters := [.char], returnType := some .boolean }, accessFlags := 0, code := some k9c3 }
/-- com/example/vernum/vernum/VersionScanner -/
def k9 : Class := { plain "com/example/vernum/vernum/VersionScanner" (some 0) with
  accessFlags := 48
  interfaces := #[]
  cf := some (fileOf pool9 8 #[] #[{ accessFlags := 0, nameIndex := 5, descriptorIndex := 97, attributes := #[] }, { accessFlags := 0, nameIndex := 102, descriptorIndex := 6, attributes := #[] }, { accessFlags := 0, nameIndex := 104, descriptorIndex := 105, attributes := #[] }, { accessFlags := 0, nameIndex := 106, descriptorIndex := 107, attributes := #[] }] 48 2 #[] #[{ accessFlags := 24, nameIndex := 95, descriptorIndex := 96, attributes := #[] }, { accessFlags := 18, nameIndex := 11, descriptorIndex := 12, attributes := #[] }, { accessFlags := 2, nameIndex := 21, descriptorIndex := 22, attributes := #[] }, { accessFlags := 2, nameIndex := 25, descriptorIndex := 22, attributes := #[] }, { accessFlags := 2, nameIndex := 28, descriptorIndex := 22, attributes := #[] }, { accessFlags := 2, nameIndex := 55, descriptorIndex := 56, attributes := #[] }])
  fields := #[{ name := "LETTERS_AND_DIGITS", type := (.array .boolean), accessFlags := 24, slot := 0, constantValue := 0 }, { name := "input", type := (.object "java/lang/String"), accessFlags := 18, slot := 0, constantValue := 0 }, { name := "end", type := .int, accessFlags := 2, slot := 1, constantValue := 0 }, { name := "position", type := .int, accessFlags := 2, slot := 2, constantValue := 0 }, { name := "peeked", type := .int, accessFlags := 2, slot := 3, constantValue := 0 }, { name := "outOfRange", type := .boolean, accessFlags := 2, slot := 4, constantValue := 0 }]
  methods := #[k9m0, k9m1, k9m2, k9m3]
  instanceTypes := #[(.object "java/lang/String"), .int, .int, .int, .boolean]
  staticTypes := #[(.array .boolean)]
  resolved := Array.replicate 117 none
  statics := none }

def pool10 : Array CpInfo := pool [(1, .class_ 2), (0, u "java/lang/String"), (1, .class_ 6), (1, u "java/lang/Object"), (0, u "<init>"), (0, u "()V"), (0, .methodref 1 10), (0, .nameAndType 11 12), (0, u "checkIndex"), (0, u "(II)V"), (1, .class_ 16), (1, u "java/lang/StringLatin1"), (36, u "([BI)C"), (67, u "$assertionsDisabled"), (0, u "Z"), (98, .class_ 223), (1, u "java/lang/StringLatin1$LinesSpliterator"), (28, u "charAt"), (137, .class_ 391), (0, u "java/lang/StringLatin1$CharsSpliterator")] 3

def k10m0 : Method := { name := "<init>", desc := "()V", sig := { parameters := [], returnType := none }, accessFlags := 0, code := none }
def k10c1 : Code := { maxStack := 2, maxLocals := 2, code := jdk_43_method_2_code, exceptionTable := #[], attributes := #[] }
def k10m1 : Method := { name := "charAt", desc := "([BI)C", sig := { parameters := [(.array .byte), .int], returnType := some .char }, accessFlags := 9, code := some k10c1 }
/-- java/lang/StringLatin1 -/
def k10 : Class := { plain "java/lang/StringLatin1" (some 0) with
  accessFlags := 48
  interfaces := #[]
  cf := some (fileOf pool10 14 #[.nestMembers #[390, 221]] #[{ accessFlags := 0, nameIndex := 7, descriptorIndex := 8, attributes := #[] }, { accessFlags := 9, nameIndex := 252, descriptorIndex := 53, attributes := #[] }] 48 4 #[] #[{ accessFlags := 4120, nameIndex := 121, descriptorIndex := 122, attributes := #[] }])
  fields := #[{ name := "$assertionsDisabled", type := .boolean, accessFlags := 4120, slot := 0, constantValue := 0 }]
  methods := #[k10m0, k10m1]
  instanceTypes := #[]
  staticTypes := #[.boolean]
  resolved := Array.replicate 395 none
  statics := none }

def pool11 : Array CpInfo := pool [(2, .class_ 4), (1, u "java/lang/Object"), (0, u "<init>"), (0, u "()V"), (17, .class_ 26), (1, u "jdk/internal/util/Preconditions"), (6, u "checkIndex"), (21, .class_ 56), (0, u "jdk/internal/util/Preconditions$4"), (57, .class_ 115), (0, u "jdk/internal/util/Preconditions$1"), (7, u "SIOOBE_FORMATTER"), (0, u "Ljava/util/function/BiFunction;"), (0, .class_ 126), (0, u "jdk/internal/util/Preconditions$2"), (3, u "AIOOBE_FORMATTER"), (0, .class_ 132), (0, u "jdk/internal/util/Preconditions$3"), (3, u "IOOBE_FORMATTER"), (41, u "(IILjava/util/function/BiFunction;)I")] 15

def k11m0 : Method := { name := "<init>", desc := "()V", sig := { parameters := [], returnType := none }, accessFlags := 1, code := none }
def k11c1 : Code := { maxStack := 3, maxLocals := 3, code := jdk_41_method_11_code, exceptionTable := #[], attributes := #[] }
def k11m1 : Method := { name := "checkIndex", desc := "(IILjava/util/function/BiFunction;)I", sig := { parameters := [.int, .int, (.object "java/util/function/BiFunction")], returnType := some .int }, accessFlags := 9, code := some k11c1 }
/-- jdk/internal/util/Preconditions -/
def k11 : Class := { plain "jdk/internal/util/Preconditions" (some 0) with
  accessFlags := 33
  interfaces := #[]
  cf := some (fileOf pool11 24 #[.nestMembers #[55, 131, 125, 114]] #[{ accessFlags := 1, nameIndex := 5, descriptorIndex := 6, attributes := #[] }, { accessFlags := 9, nameIndex := 33, descriptorIndex := 178, attributes := #[] }] 33 2 #[] #[{ accessFlags := 25, nameIndex := 123, descriptorIndex := 124, attributes := #[] }, { accessFlags := 25, nameIndex := 130, descriptorIndex := 124, attributes := #[] }, { accessFlags := 25, nameIndex := 136, descriptorIndex := 124, attributes := #[] }])
  fields := #[{ name := "SIOOBE_FORMATTER", type := (.object "java/util/function/BiFunction"), accessFlags := 25, slot := 0, constantValue := 0 }, { name := "AIOOBE_FORMATTER", type := (.object "java/util/function/BiFunction"), accessFlags := 25, slot := 1, constantValue := 0 }, { name := "IOOBE_FORMATTER", type := (.object "java/util/function/BiFunction"), accessFlags := 25, slot := 2, constantValue := 0 }]
  methods := #[k11m0, k11m1]
  instanceTypes := #[]
  staticTypes := #[(.object "java/util/function/BiFunction"), (.object "java/util/function/BiFunction"), (.object "java/util/function/BiFunction")]
  resolved := Array.replicate 194 none
  statics := some 1 }

def pool12 : Array CpInfo := pool [(9, u "<init>"), (6, .class_ 18), (1, u "java/lang/Object"), (0, u "()V"), (1, .class_ 23), (1, u "jdk/internal/util/ArraysSupport"), (0, u "LOG2_ARRAY_LONG_INDEX_SCALE"), (0, u "I"), (2, u "U"), (0, u "Ljdk/internal/misc/Unsafe;"), (8, u "BIG_ENDIAN"), (0, u "Z"), (8, u "LOG2_BYTE_BIT_SIZE"), (4, u "LOG2_ARRAY_INT_INDEX_SCALE"), (54, u "JLA"), (0, u "Ljdk/internal/access/JavaLangAccess;"), (11, u "LOG2_ARRAY_BOOLEAN_INDEX_SCALE"), (9, u "LOG2_ARRAY_BYTE_INDEX_SCALE"), (5, u "LOG2_ARRAY_CHAR_INDEX_SCALE"), (5, u "LOG2_ARRAY_SHORT_INDEX_SCALE"), (18, u "LOG2_ARRAY_FLOAT_INDEX_SCALE"), (24, u "LOG2_ARRAY_DOUBLE_INDEX_SCALE"), (89, u "T_BOOLEAN"), (2, u "T_CHAR"), (1, u "T_FLOAT"), (1, u "T_DOUBLE"), (1, u "T_BYTE"), (1, u "T_SHORT"), (1, u "T_INT"), (1, u "T_LONG"), (1, u "SOFT_MAX_ARRAY_LENGTH")] 83

def k12m0 : Method := { name := "<init>", desc := "()V", sig := { parameters := [], returnType := none }, accessFlags := 2, code := none }
/-- jdk/internal/util/ArraysSupport -/
def k12 : Class := { plain "jdk/internal/util/ArraysSupport" (some 0) with
  accessFlags := 33
  interfaces := #[]
  cf := some (fileOf pool12 21 #[] #[{ accessFlags := 2, nameIndex := 9, descriptorIndex := 19, attributes := #[] }] 33 16 #[] #[{ accessFlags := 24, nameIndex := 28, descriptorIndex := 29, attributes := #[] }, { accessFlags := 26, nameIndex := 38, descriptorIndex := 39, attributes := #[] }, { accessFlags := 25, nameIndex := 121, descriptorIndex := 25, attributes := #[] }, { accessFlags := 25, nameIndex := 131, descriptorIndex := 25, attributes := #[] }, { accessFlags := 25, nameIndex := 137, descriptorIndex := 25, attributes := #[] }, { accessFlags := 25, nameIndex := 143, descriptorIndex := 25, attributes := #[] }, { accessFlags := 25, nameIndex := 53, descriptorIndex := 25, attributes := #[] }, { accessFlags := 25, nameIndex := 24, descriptorIndex := 25, attributes := #[] }, { accessFlags := 25, nameIndex := 162, descriptorIndex := 25, attributes := #[] }, { accessFlags := 25, nameIndex := 187, descriptorIndex := 25, attributes := #[] }, { accessFlags := 26, nameIndex := 48, descriptorIndex := 25, attributes := #[] }, { accessFlags := 25, nameIndex := 277, descriptorIndex := 25, attributes := #[] }, { accessFlags := 25, nameIndex := 280, descriptorIndex := 25, attributes := #[] }, { accessFlags := 25, nameIndex := 282, descriptorIndex := 25, attributes := #[] }, { accessFlags := 25, nameIndex := 284, descriptorIndex := 25, attributes := #[] }, { accessFlags := 25, nameIndex := 286, descriptorIndex := 25, attributes := #[] }, { accessFlags := 25, nameIndex := 288, descriptorIndex := 25, attributes := #[] }, { accessFlags := 25, nameIndex := 290, descriptorIndex := 25, attributes := #[] }, { accessFlags := 25, nameIndex := 292, descriptorIndex := 25, attributes := #[] }, { accessFlags := 26, nameIndex := 108, descriptorIndex := 109, attributes := #[] }, { accessFlags := 25, nameIndex := 294, descriptorIndex := 25, attributes := #[] }])
  fields := #[{ name := "U", type := (.object "jdk/internal/misc/Unsafe"), accessFlags := 24, slot := 0, constantValue := 0 }, { name := "BIG_ENDIAN", type := .boolean, accessFlags := 26, slot := 1, constantValue := 0 }, { name := "LOG2_ARRAY_BOOLEAN_INDEX_SCALE", type := .int, accessFlags := 25, slot := 2, constantValue := 0 }, { name := "LOG2_ARRAY_BYTE_INDEX_SCALE", type := .int, accessFlags := 25, slot := 3, constantValue := 0 }, { name := "LOG2_ARRAY_CHAR_INDEX_SCALE", type := .int, accessFlags := 25, slot := 4, constantValue := 0 }, { name := "LOG2_ARRAY_SHORT_INDEX_SCALE", type := .int, accessFlags := 25, slot := 5, constantValue := 0 }, { name := "LOG2_ARRAY_INT_INDEX_SCALE", type := .int, accessFlags := 25, slot := 6, constantValue := 0 }, { name := "LOG2_ARRAY_LONG_INDEX_SCALE", type := .int, accessFlags := 25, slot := 7, constantValue := 0 }, { name := "LOG2_ARRAY_FLOAT_INDEX_SCALE", type := .int, accessFlags := 25, slot := 8, constantValue := 0 }, { name := "LOG2_ARRAY_DOUBLE_INDEX_SCALE", type := .int, accessFlags := 25, slot := 9, constantValue := 0 }, { name := "LOG2_BYTE_BIT_SIZE", type := .int, accessFlags := 26, slot := 10, constantValue := 0 }, { name := "T_BOOLEAN", type := .int, accessFlags := 25, slot := 11, constantValue := 0 }, { name := "T_CHAR", type := .int, accessFlags := 25, slot := 12, constantValue := 0 }, { name := "T_FLOAT", type := .int, accessFlags := 25, slot := 13, constantValue := 0 }, { name := "T_DOUBLE", type := .int, accessFlags := 25, slot := 14, constantValue := 0 }, { name := "T_BYTE", type := .int, accessFlags := 25, slot := 15, constantValue := 0 }, { name := "T_SHORT", type := .int, accessFlags := 25, slot := 16, constantValue := 0 }, { name := "T_INT", type := .int, accessFlags := 25, slot := 17, constantValue := 0 }, { name := "T_LONG", type := .int, accessFlags := 25, slot := 18, constantValue := 0 }, { name := "JLA", type := (.object "jdk/internal/access/JavaLangAccess"), accessFlags := 26, slot := 19, constantValue := 0 }, { name := "SOFT_MAX_ARRAY_LENGTH", type := .int, accessFlags := 25, slot := 20, constantValue := 0 }]
  methods := #[k12m0]
  instanceTypes := #[]
  staticTypes := #[(.object "jdk/internal/misc/Unsafe"), .boolean, .int, .int, .int, .int, .int, .int, .int, .int, .int, .int, .int, .int, .int, .int, .int, .int, .int, (.object "jdk/internal/access/JavaLangAccess"), .int]
  resolved := Array.replicate 378 none
  statics := none }

def pool13 : Array CpInfo := pool [(1, u "java/lang/Cloneable"), (0, .class_ 1), (0, u "java/lang/Object"), (0, .class_ 3)] 3

/-- java/lang/Cloneable -/
def k13 : Class := { plain "java/lang/Cloneable" (some 0) with
  accessFlags := 1537
  interfaces := #[]
  cf := some (fileOf pool13 2 #[] #[] 1537 4 #[] #[])
  fields := #[]
  methods := #[]
  instanceTypes := #[]
  staticTypes := #[]
  resolved := Array.replicate 8 none
  statics := none }

/-- the primitive byte -/
def k14 : Class := { plain "byte" none with kind := .primitive 'B', accessFlags := 0x411 }
/-- [B -/
def k15 : Class := { plain "[B" (some 0) with kind := .array 14 .byte, interfaces := #[13, 2], accessFlags := 1041 }

/-- the primitive char -/
def k16 : Class := { plain "char" none with kind := .primitive 'C', accessFlags := 0x411 }
/-- [C -/
def k17 : Class := { plain "[C" (some 0) with kind := .array 16 .char, interfaces := #[13, 2], accessFlags := 1041 }

/-- the primitive int -/
def k18 : Class := { plain "int" none with kind := .primitive 'I', accessFlags := 0x411 }
/-- [I -/
def k19 : Class := { plain "[I" (some 0) with kind := .array 18 .int, interfaces := #[13, 2], accessFlags := 1041 }

def heap : Heap := #[{ cls := 7, slots := #[.long 0, .int 1, .null, .int 0, .null, .int 0, .int 0], vm := .statics 7 },
  { cls := 11, slots := #[.null, .null, .null], vm := .statics 11 }]
def classes : Array Class := #[k0, k1, k2, k3, k4, k5, k6, k7, k8, k9, k10, k11, k12, k13, k14, k15, k16, k17, k18, k19]
def interned : List (Array UInt16 × Addr) := []
def slotsUsed : Nat := 10
def theMethod : MethodId := ⟨1, 4⟩
def args0 : Array Value := #[.int 5, .int 5, .int 5, .int 5, .int 5, .int 5]
def aboutOver (below : List Frame) : State where
  vm := { classes := classes, interned := interned.toArray }
  heap := heap
  slotsUsed := slotsUsed
  threads := #[{ frames := .invoking theMethod args0 :: below }]
def below0 : List Frame := [.native { method := ⟨0, 0⟩, args := #[] }]
def about1 : State := aboutOver below0
def p0 : Program := .bare "" "" ""
def e0 : Env := launch0.env 0 0 0
theorem w_frames : about1.frames = Frame.invoking theMethod args0 :: below0 := rfl
set_option maxRecDepth 65536 in
theorem w_args : argsFit about1.vm theMethod args0 = true := by decide +kernel
set_option maxRecDepth 65536 in
theorem w_heap : heapFits about1 = true := by decide +kernel
set_option maxRecDepth 65536 in
theorem w_runnable : about1.curStatus? = some .runnable := by decide +kernel
set_option maxRecDepth 65536 in
theorem w_alone : about1.alone = true := by decide +kernel
set_option maxRecDepth 65536 in
theorem w_named : about1.methodNamed? x = some theMethod := by decide +kernel
set_option maxRecDepth 65536 in
theorem w_hears : about1.hears theMethod below0 = true := by decide +kernel
set_option maxRecDepth 65536 in
theorem w_ripe : about1.ripe theMethod args0 below0 = true := by decide +kernel
theorem w_running : about1.status = .running := rfl
set_option maxRecDepth 65536 in
theorem w_room : about1.hasRoom e0.platform room_1 = true :=
  launch0.hasRoom_least _ room_1 (by decide +kernel) (by decide +kernel) (by decide +kernel) (by decide +kernel) (by decide +kernel) (by decide +kernel)
theorem allAtoms_all (ts : List Jvm.Cond) (a : Array Jvm.Value) (st : Jvm.State) : (allAtoms ts).before a st = ts.all (fun c => c.before a st) := by
  induction ts with
  | nil => rfl
  | cons c t ih =>
    show (Jvm.Cond.and c (allAtoms t)).before a st = _
    rw [Jvm.Cond.before_and, ih, List.all_cons]
def words1 : List Jvm.Cond := Jvm.Cond.code x code maxLocals ret :: tables_1
/-- a 'code' word, met by the world's own term for the bytes: nothing is compared byte by byte -/
theorem code_word {y : MethodName} {bytes : ByteArray} {mx : Nat} {rt : Option FieldType} {a : Array Value} {s : State} {m : MethodId} {meth : Method} {c : Code} (h1 : s.methodNamed? y = some m) (h2 : s.vm.method? m = some meth) (h3 : meth.code = some c) (h4 : c.code = bytes)
    (h5 : (c.maxLocals == mx && c.exceptionTable.isEmpty && decide (c.maxStack ≤ mostOperands) && decide (meth.sig.returnType = rt) && !meth.locks && decide (parseMethodDescriptor y.desc = some meth.sig)) = true) : (Jvm.Cond.code y bytes mx rt).before a s = true := by
  simp only [Bool.and_eq_true, beq_iff_eq, Bool.not_eq_true', decide_eq_true_eq] at h5
  obtain ⟨⟨⟨⟨⟨g1, g2⟩, g3⟩, g4⟩, g5⟩, g6⟩ := h5
  simp [Cond.before, Cond.holds, Cond.value, h1, h2, h3, h4, g1, g2, g3, g4, g5, g6]
def isCode : Jvm.Cond → Bool
  | .code _ _ _ _ => true
  | _ => false
theorem all_split {L : List Jvm.Cond} {P : Jvm.Cond → Bool} (h1 : L.all (fun c => isCode c || P c) = true) (h2 : ∀ c ∈ L.filter isCode, P c = true) : L.all P = true := by
  refine List.all_eq_true.mpr fun c hc => ?_
  have h := List.all_eq_true.mp h1 c hc
  rcases Bool.eq_false_or_eq_true (isCode c) with hi | hi
  · exact h2 c (List.mem_filter.mpr ⟨hc, hi⟩)
  · simpa [hi] using h
set_option maxRecDepth 65536 in
theorem w_c0 : (Jvm.Cond.code x code maxLocals ret).before args0 about1 = true := code_word (m := ⟨1, 4⟩) (meth := k1m4) (c := k1c4) (by decide +kernel) rfl rfl rfl (by decide +kernel)
set_option maxRecDepth 65536 in
theorem w_c1 : (Jvm.Cond.code ({ cls := "com/example/vernum/vernum/VersionScannerAtEndPinLaw", name := "draw", desc := "(I)C" } : Jvm.MethodName) method_2_code (2 : Nat) (Option.some Jvm.ClassFile.FieldType.char)).before args0 about1 = true := code_word (m := ⟨1, 1⟩) (meth := k1m1) (c := k1c1) (by decide +kernel) rfl rfl rfl (by decide +kernel)
set_option maxRecDepth 65536 in
theorem w_c2 : (Jvm.Cond.code ({ cls := "com/example/vernum/vernum/VersionScannerAtEndPinLaw", name := "make", desc := "(ICCC)Ljava/lang/String;" } : Jvm.MethodName) method_3_code (4 : Nat) (Option.some (Jvm.ClassFile.FieldType.object "java/lang/String"))).before args0 about1 = true := code_word (m := ⟨1, 2⟩) (meth := k1m2) (c := k1c2) (by decide +kernel) rfl rfl rfl (by decide +kernel)
set_option maxRecDepth 65536 in
theorem w_c3 : (Jvm.Cond.code ({ cls := "java/lang/String", name := "<init>", desc := "([C)V" } : Jvm.MethodName) jdk_42_method_3_code (2 : Nat) (Option.none : Option Jvm.ClassFile.FieldType)).before args0 about1 = true := code_word (m := ⟨7, 1⟩) (meth := k7m1) (c := k7c1) (by decide +kernel) rfl rfl rfl (by decide +kernel)
set_option maxRecDepth 65536 in
theorem w_c4 : (Jvm.Cond.code ({ cls := "java/lang/String", name := "<init>", desc := "([CIILjava/lang/Void;)V" } : Jvm.MethodName) jdk_42_method_149_code (6 : Nat) (Option.none : Option Jvm.ClassFile.FieldType)).before args0 about1 = true := code_word (m := ⟨7, 4⟩) (meth := k7m4) (c := k7c4) (by decide +kernel) rfl rfl rfl (by decide +kernel)
set_option maxRecDepth 65536 in
theorem w_c5 : (Jvm.Cond.code ({ cls := "java/lang/Object", name := "<init>", desc := "()V" } : Jvm.MethodName) object_method_1_code (1 : Nat) (Option.none : Option Jvm.ClassFile.FieldType)).before args0 about1 = true := code_word (m := ⟨0, 0⟩) (meth := k0m0) (c := k0c0) (by decide +kernel) rfl rfl rfl (by decide +kernel)
set_option maxRecDepth 65536 in
theorem w_c6 : (Jvm.Cond.code ({ cls := "java/lang/StringUTF16", name := "compress", desc := "([CII)[B" } : Jvm.MethodName) jdk_52_method_16_code (6 : Nat) (Option.some (Jvm.ClassFile.FieldType.array Jvm.ClassFile.FieldType.byte))).before args0 about1 = true := code_word (m := ⟨8, 2⟩) (meth := k8m2) (c := k8c2) (by decide +kernel) rfl rfl rfl (by decide +kernel)
set_option maxRecDepth 65536 in
theorem w_c7 : (Jvm.Cond.code ({ cls := "java/lang/StringUTF16", name := "compress", desc := "([CI[BII)I" } : Jvm.MethodName) jdk_52_method_21_code (7 : Nat) (Option.some Jvm.ClassFile.FieldType.int)).before args0 about1 = true := code_word (m := ⟨8, 3⟩) (meth := k8m3) (c := k8c3) (by decide +kernel) rfl rfl rfl (by decide +kernel)
set_option maxRecDepth 65536 in
theorem w_c8 : (Jvm.Cond.code ({ cls := "java/lang/StringUTF16", name := "coderFromArrayLen", desc := "([BI)B" } : Jvm.MethodName) jdk_52_method_15_code (2 : Nat) (Option.some Jvm.ClassFile.FieldType.byte)).before args0 about1 = true := code_word (m := ⟨8, 1⟩) (meth := k8m1) (c := k8c1) (by decide +kernel) rfl rfl rfl (by decide +kernel)
set_option maxRecDepth 65536 in
theorem w_c9 : (Jvm.Cond.code ({ cls := "com/example/vernum/vernum/VersionScanner", name := "<init>", desc := "(Ljava/lang/String;)V" } : Jvm.MethodName) prog_24_method_1_code (2 : Nat) (Option.none : Option Jvm.ClassFile.FieldType)).before args0 about1 = true := code_word (m := ⟨9, 0⟩) (meth := k9m0) (c := k9c0) (by decide +kernel) rfl rfl rfl (by decide +kernel)
set_option maxRecDepth 65536 in
theorem w_c10 : (Jvm.Cond.code ({ cls := "java/lang/String", name := "length", desc := "()I" } : Jvm.MethodName) jdk_42_method_54_code (1 : Nat) (Option.some Jvm.ClassFile.FieldType.int)).before args0 about1 = true := code_word (m := ⟨7, 2⟩) (meth := k7m2) (c := k7c2) (by decide +kernel) rfl rfl rfl (by decide +kernel)
set_option maxRecDepth 65536 in
theorem w_c11 : (Jvm.Cond.code ({ cls := "java/lang/String", name := "coder", desc := "()B" } : Jvm.MethodName) jdk_42_method_152_code (1 : Nat) (Option.some Jvm.ClassFile.FieldType.byte)).before args0 about1 = true := code_word (m := ⟨7, 5⟩) (meth := k7m5) (c := k7c5) (by decide +kernel) rfl rfl rfl (by decide +kernel)
set_option maxRecDepth 65536 in
theorem w_c12 : (Jvm.Cond.code ({ cls := "com/example/vernum/vernum/VersionScanner", name := "atEnd", desc := "()Z" } : Jvm.MethodName) prog_24_method_6_code (1 : Nat) (Option.some Jvm.ClassFile.FieldType.boolean)).before args0 about1 = true := code_word (m := ⟨9, 2⟩) (meth := k9m2) (c := k9c2) (by decide +kernel) rfl rfl rfl (by decide +kernel)
set_option maxRecDepth 65536 in
theorem w_c13 : (Jvm.Cond.code ({ cls := "com/example/vernum/vernum/VersionScannerAtEndPinLaw", name := "step", desc := "(Lcom/example/vernum/vernum/VersionScanner;[CIIZI)I" } : Jvm.MethodName) method_4_code (9 : Nat) (Option.some Jvm.ClassFile.FieldType.int)).before args0 about1 = true := code_word (m := ⟨1, 3⟩) (meth := k1m3) (c := k1c3) (by decide +kernel) rfl rfl rfl (by decide +kernel)
set_option maxRecDepth 65536 in
theorem w_c14 : (Jvm.Cond.code ({ cls := "com/example/vernum/vernum/VersionScanner", name := "skip", desc := "(C)Z" } : Jvm.MethodName) prog_24_method_7_code (2 : Nat) (Option.some Jvm.ClassFile.FieldType.boolean)).before args0 about1 = true := code_word (m := ⟨9, 3⟩) (meth := k9m3) (c := k9c3) (by decide +kernel) rfl rfl rfl (by decide +kernel)
set_option maxRecDepth 65536 in
theorem w_c15 : (Jvm.Cond.code ({ cls := "java/lang/String", name := "charAt", desc := "(I)C" } : Jvm.MethodName) jdk_42_method_56_code (2 : Nat) (Option.some Jvm.ClassFile.FieldType.char)).before args0 about1 = true := code_word (m := ⟨7, 3⟩) (meth := k7m3) (c := k7c3) (by decide +kernel) rfl rfl rfl (by decide +kernel)
set_option maxRecDepth 65536 in
theorem w_c16 : (Jvm.Cond.code ({ cls := "java/lang/String", name := "isLatin1", desc := "()Z" } : Jvm.MethodName) jdk_42_method_154_code (1 : Nat) (Option.some Jvm.ClassFile.FieldType.boolean)).before args0 about1 = true := code_word (m := ⟨7, 6⟩) (meth := k7m6) (c := k7c6) (by decide +kernel) rfl rfl rfl (by decide +kernel)
set_option maxRecDepth 65536 in
theorem w_c17 : (Jvm.Cond.code ({ cls := "java/lang/StringLatin1", name := "charAt", desc := "([BI)C" } : Jvm.MethodName) jdk_43_method_2_code (2 : Nat) (Option.some Jvm.ClassFile.FieldType.char)).before args0 about1 = true := code_word (m := ⟨10, 1⟩) (meth := k10m1) (c := k10c1) (by decide +kernel) rfl rfl rfl (by decide +kernel)
set_option maxRecDepth 65536 in
theorem w_c18 : (Jvm.Cond.code ({ cls := "java/lang/String", name := "checkIndex", desc := "(II)V" } : Jvm.MethodName) jdk_42_method_155_code (2 : Nat) (Option.none : Option Jvm.ClassFile.FieldType)).before args0 about1 = true := code_word (m := ⟨7, 7⟩) (meth := k7m7) (c := k7c7) (by decide +kernel) rfl rfl rfl (by decide +kernel)
set_option maxRecDepth 65536 in
theorem w_c19 : (Jvm.Cond.code ({ cls := "jdk/internal/util/Preconditions", name := "checkIndex", desc := "(IILjava/util/function/BiFunction;)I" } : Jvm.MethodName) jdk_41_method_11_code (3 : Nat) (Option.some Jvm.ClassFile.FieldType.int)).before args0 about1 = true := code_word (m := ⟨11, 1⟩) (meth := k11m1) (c := k11c1) (by decide +kernel) rfl rfl rfl (by decide +kernel)
set_option maxRecDepth 65536 in
theorem w_c20 : (Jvm.Cond.code ({ cls := "com/example/vernum/vernum/VersionScanner", name := "trim", desc := "()V" } : Jvm.MethodName) prog_24_method_4_code (1 : Nat) (Option.none : Option Jvm.ClassFile.FieldType)).before args0 about1 = true := code_word (m := ⟨9, 1⟩) (meth := k9m1) (c := k9c1) (by decide +kernel) rfl rfl rfl (by decide +kernel)
def codes1 : List Jvm.Cond := [Jvm.Cond.code x code maxLocals ret, Jvm.Cond.code ({ cls := "com/example/vernum/vernum/VersionScannerAtEndPinLaw", name := "draw", desc := "(I)C" } : Jvm.MethodName) method_2_code (2 : Nat) (Option.some Jvm.ClassFile.FieldType.char), Jvm.Cond.code ({ cls := "com/example/vernum/vernum/VersionScannerAtEndPinLaw", name := "make", desc := "(ICCC)Ljava/lang/String;" } : Jvm.MethodName) method_3_code (4 : Nat) (Option.some (Jvm.ClassFile.FieldType.object "java/lang/String")), Jvm.Cond.code ({ cls := "java/lang/String", name := "<init>", desc := "([C)V" } : Jvm.MethodName) jdk_42_method_3_code (2 : Nat) (Option.none : Option Jvm.ClassFile.FieldType), Jvm.Cond.code ({ cls := "java/lang/String", name := "<init>", desc := "([CIILjava/lang/Void;)V" } : Jvm.MethodName) jdk_42_method_149_code (6 : Nat) (Option.none : Option Jvm.ClassFile.FieldType), Jvm.Cond.code ({ cls := "java/lang/Object", name := "<init>", desc := "()V" } : Jvm.MethodName) object_method_1_code (1 : Nat) (Option.none : Option Jvm.ClassFile.FieldType), Jvm.Cond.code ({ cls := "java/lang/StringUTF16", name := "compress", desc := "([CII)[B" } : Jvm.MethodName) jdk_52_method_16_code (6 : Nat) (Option.some (Jvm.ClassFile.FieldType.array Jvm.ClassFile.FieldType.byte)), Jvm.Cond.code ({ cls := "java/lang/StringUTF16", name := "compress", desc := "([CI[BII)I" } : Jvm.MethodName) jdk_52_method_21_code (7 : Nat) (Option.some Jvm.ClassFile.FieldType.int), Jvm.Cond.code ({ cls := "java/lang/StringUTF16", name := "coderFromArrayLen", desc := "([BI)B" } : Jvm.MethodName) jdk_52_method_15_code (2 : Nat) (Option.some Jvm.ClassFile.FieldType.byte), Jvm.Cond.code ({ cls := "com/example/vernum/vernum/VersionScanner", name := "<init>", desc := "(Ljava/lang/String;)V" } : Jvm.MethodName) prog_24_method_1_code (2 : Nat) (Option.none : Option Jvm.ClassFile.FieldType), Jvm.Cond.code ({ cls := "java/lang/String", name := "length", desc := "()I" } : Jvm.MethodName) jdk_42_method_54_code (1 : Nat) (Option.some Jvm.ClassFile.FieldType.int), Jvm.Cond.code ({ cls := "java/lang/String", name := "coder", desc := "()B" } : Jvm.MethodName) jdk_42_method_152_code (1 : Nat) (Option.some Jvm.ClassFile.FieldType.byte), Jvm.Cond.code ({ cls := "com/example/vernum/vernum/VersionScanner", name := "atEnd", desc := "()Z" } : Jvm.MethodName) prog_24_method_6_code (1 : Nat) (Option.some Jvm.ClassFile.FieldType.boolean), Jvm.Cond.code ({ cls := "com/example/vernum/vernum/VersionScannerAtEndPinLaw", name := "step", desc := "(Lcom/example/vernum/vernum/VersionScanner;[CIIZI)I" } : Jvm.MethodName) method_4_code (9 : Nat) (Option.some Jvm.ClassFile.FieldType.int), Jvm.Cond.code ({ cls := "com/example/vernum/vernum/VersionScanner", name := "skip", desc := "(C)Z" } : Jvm.MethodName) prog_24_method_7_code (2 : Nat) (Option.some Jvm.ClassFile.FieldType.boolean), Jvm.Cond.code ({ cls := "java/lang/String", name := "charAt", desc := "(I)C" } : Jvm.MethodName) jdk_42_method_56_code (2 : Nat) (Option.some Jvm.ClassFile.FieldType.char), Jvm.Cond.code ({ cls := "java/lang/String", name := "isLatin1", desc := "()Z" } : Jvm.MethodName) jdk_42_method_154_code (1 : Nat) (Option.some Jvm.ClassFile.FieldType.boolean), Jvm.Cond.code ({ cls := "java/lang/StringLatin1", name := "charAt", desc := "([BI)C" } : Jvm.MethodName) jdk_43_method_2_code (2 : Nat) (Option.some Jvm.ClassFile.FieldType.char), Jvm.Cond.code ({ cls := "java/lang/String", name := "checkIndex", desc := "(II)V" } : Jvm.MethodName) jdk_42_method_155_code (2 : Nat) (Option.none : Option Jvm.ClassFile.FieldType), Jvm.Cond.code ({ cls := "jdk/internal/util/Preconditions", name := "checkIndex", desc := "(IILjava/util/function/BiFunction;)I" } : Jvm.MethodName) jdk_41_method_11_code (3 : Nat) (Option.some Jvm.ClassFile.FieldType.int), Jvm.Cond.code ({ cls := "com/example/vernum/vernum/VersionScanner", name := "trim", desc := "()V" } : Jvm.MethodName) prog_24_method_4_code (1 : Nat) (Option.none : Option Jvm.ClassFile.FieldType)]
set_option maxRecDepth 65536 in
theorem codes_eq : words1.filter isCode = codes1 := rfl
theorem w_codes : ∀ c ∈ words1.filter isCode, c.before args0 about1 = true := by
  rw [codes_eq]
  intro c hc
  simp only [codes1, List.mem_cons, List.not_mem_nil, or_false] at hc
  rcases hc with rfl | rfl | rfl | rfl | rfl | rfl | rfl | rfl | rfl | rfl | rfl | rfl | rfl | rfl | rfl | rfl | rfl | rfl | rfl | rfl | rfl
  · exact w_c0
  · exact w_c1
  · exact w_c2
  · exact w_c3
  · exact w_c4
  · exact w_c5
  · exact w_c6
  · exact w_c7
  · exact w_c8
  · exact w_c9
  · exact w_c10
  · exact w_c11
  · exact w_c12
  · exact w_c13
  · exact w_c14
  · exact w_c15
  · exact w_c16
  · exact w_c17
  · exact w_c18
  · exact w_c19
  · exact w_c20
set_option maxRecDepth 65536 in
theorem w_t1 : (words1.take 24).all (fun c => isCode c || c.before args0 about1) = true := by decide +kernel
set_option maxRecDepth 65536 in
theorem w_t2 : ((words1.drop 24).take 24).all (fun c => isCode c || c.before args0 about1) = true := by decide +kernel
set_option maxRecDepth 65536 in
theorem w_t3 : (((words1.drop 24).drop 24).take 24).all (fun c => isCode c || c.before args0 about1) = true := by decide +kernel
set_option maxRecDepth 65536 in
theorem w_t4 : ((((words1.drop 24).drop 24).drop 24).take 24).all (fun c => isCode c || c.before args0 about1) = true := by decide +kernel
set_option maxRecDepth 65536 in
theorem w_t5 : ((((words1.drop 24).drop 24).drop 24).drop 24).all (fun c => isCode c || c.before args0 about1) = true := by decide +kernel
theorem w_tables : (allAtoms (Jvm.Cond.code x code maxLocals ret :: tables_1)).before args0 about1 = true := by
  rw [allAtoms_all]
  show words1.all (fun c => c.before args0 about1) = true
  refine all_split ?_ w_codes
  rw [← List.take_append_drop 24 words1, List.all_append, w_t1, ← List.take_append_drop 24 (words1.drop 24), List.all_append, w_t2, ← List.take_append_drop 24 ((words1.drop 24).drop 24), List.all_append, w_t3, ← List.take_append_drop 24 (((words1.drop 24).drop 24).drop 24), List.all_append, w_t4, w_t5]
  rfl
set_option maxRecDepth 65536 in
theorem w_rest : rest_1_c.before args0 about1 = true := by decide +kernel
set_option maxRecDepth 65536 in
theorem w_case : (Jvm.Cond.and given_1 narrow_1).before args0 about1 = true := by decide +kernel
set_option maxRecDepth 65536 in
theorem w_consts : constsHeld consts_1 about1 := Jvm.Lit.constsHeldB_iff.mp (by decide +kernel)
theorem w_applies : (headSpec (Jvm.Cond.code x code maxLocals ret :: tables_1) room_1).applies x e0.platform about1 = true :=
  (Spec.applies_iff w_frames).mpr ⟨w_running, w_runnable, w_alone, w_named, w_hears, w_ripe, w_room, w_tables⟩
theorem atStart : AtStart classFile x code maxLocals ret World_1 tables_1 room_1 Calls_1 rest_1 Pre_1 launch0 p0 e0 about1 theMethod args0 below0 :=
  ⟨lists_1, trivial, launch0.admits_env _ _ _, launch0.least_env, fairChoices_fair.cas, fairChoices_fair.clock, w_frames, w_args, w_heap, w_applies, ⟨w_consts, trivial⟩, w_rest, w_case⟩
end start1
theorem witness_1 : WitnessClaimed_1 := ⟨start1.p0, start1.e0, start1.about1, start1.theMethod, start1.args0, start1.below0, start1.atStart⟩
end Jvm.Pilot.@@N@@
