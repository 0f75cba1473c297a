import JvmDerived
import JvmDerived.Pilot.@@N@@Statement
import JvmDerived.Pilot.@@N@@Code
set_option linter.unusedVariables false
set_option linter.unusedSimpArgs false
namespace Jvm.RoadKit
open Sem ClassFile Op Lib Jvm.Stand Jvm.Free Jvm.LawKit
section New
variable {p : Program} {l : Launch} {e : Env} {R : Room} {s : State} {m : MethodId} {args : Array Value} {below : List Frame} {meth : Method} {c : Code} {T : State} {locs : List Loc} {cells slots : Nat}
theorem retI (X : Stand p l e R s m args below meth c T locs cells slots) (hx : p.tables.exec = Jvm.exec) {pc : Nat} {Ls : Array Slot} {z : Int32} {rest : List Value} (hret : meth.sig.returnType = some .int) (hd : decode c.code pc = .ok (.ireturn, 1)) {fs : List Frame}
    (hl : ∀ (f : JFrame) (acts : List Action), f.method = m → f.locked = none → f.entered = [] → (doReturn e (T.setTop f) acts (some (.int z))).1 = T.setFrames fs) : Steps p.tables e below (T.setTop (mkF m pc Ls (.int z :: rest))) (T.setFrames fs) := by
  have hm' : T.vm.method? m = some meth := X.method'
  have hn : narrow .int (.int z) = .int z := rfl
  show Steps p.tables e below (T.setTop { method := m, pc := pc, locals := Ls, stack := _ :: rest, locked := none }) _
  jvm_step X.here [X.here.top, hx, hd, hm', hret, hn]
  first | (intro acts; rw [hl _ acts rfl rfl rfl]) | rw [hl _ _ rfl rfl rfl]
  exact Steps.refl _
theorem own_retA (X : Stand p l e R s m args below meth c T locs cells slots) (hx : p.tables.exec = Jvm.exec) {pc : Nat} {Ls : Array Slot} {w : Value} {t : FieldType} {rest : List Value} (hret : meth.sig.returnType = some t) (ht : t.isReference = true) (hw : w.isRef = true) (hd : decode c.code pc = .ok (.areturn, 1)) {fs : List Frame}
    (hl : ∀ (f : JFrame) (acts : List Action), f.method = m → f.locked = none → f.entered = [] → (doReturn e (T.setTop f) acts (some w)).1 = T.setFrames fs) : Steps p.tables e below (T.setTop (mkF m pc Ls (w :: rest))) (T.setFrames fs) := by
  have hm' : T.vm.method? m = some meth := X.method'
  rcases ref_cases hw with rfl | ⟨z, rfl⟩
  all_goals
    show Steps p.tables e below (T.setTop { method := m, pc := pc, locals := Ls, stack := _ :: rest, locked := none }) _
    jvm_step X.here [X.here.top, hx, hd, hm', hret, Value.isRef]
    try (refine ⟨ht, ?_⟩)
    first | (intro acts; rw [hl _ acts rfl rfl rfl]) | rw [hl _ _ rfl rfl rfl]
    exact Steps.refl _
end New
/-- from U the run comes to an end of which P tells -/
def own_Go (tb : Tables) (e : Env) (below : List Frame) (P : Outcome → State → Prop) (U : State) : Prop := ∃ s₂ o, Steps tb e below U s₂ ∧ s₂.status = .running ∧ Ended s₂ below o ∧ P o s₂
theorem own_st {tb : Tables} {e : Env} {below : List Frame} {P : Outcome → State → Prop} {U V : State} (h : ∀ t, Steps tb e below V t → Steps tb e below U t) (g : own_Go tb e below P V) : own_Go tb e below P U := by
  obtain ⟨s₂, o, h1, r⟩ := g
  exact ⟨s₂, o, h _ h1, r⟩
theorem own_tr {tb : Tables} {e : Env} {below : List Frame} {P : Outcome → State → Prop} {U V : State} (h : Steps tb e below U V) (g : own_Go tb e below P V) : own_Go tb e below P U := by
  obtain ⟨s₂, o, h1, r⟩ := g
  exact ⟨s₂, o, h.trans h1, r⟩
theorem own_end {p : Program} {l : Launch} {e : Env} {R : Room} {s : State} {m : MethodId} {args : Array Value} {below : List Frame} {meth : Method} {c : Code} {T : State} {locs : List Loc} {cells slots : Nat} (X : Stand p l e R s m args below meth c T locs cells slots) {h : Heap} (eT : T.heap = h) {v : Option Value} (hv : meth.sig.returnType = none → v = none) (hlk : meth.locks = false) {g : JFrame}
    (hst : ∀ fs, (∀ (f : JFrame) (acts : List Action), f.method = m → f.locked = none → f.entered = [] → (doReturn e (T.setTop f) acts v).1 = T.setFrames fs) → Steps p.tables e below (T.setTop g) (T.setFrames fs))
    {Q : Option Value → Heap → List Loc → Prop} (hQ : Q v h locs) {cc ss : Nat} (hc : cells ≤ cc) (hs : slots ≤ ss) :
    own_Go p.tables e below (fun o U' => ∃ v L, o = .returned v ∧ Q v U'.heap L ∧ FrameEnd s o U' L cc ss) (T.setTop g) := by
  subst eT
  obtain ⟨fs, hr, hrun, hended, hW, hsame⟩ := X.leave (v := v) hv hlk
  exact ⟨_, _, hst fs hr, hrun, hended, _, _, rfl, hQ, ⟨_, rfl⟩, hW, hsame.mono hc hs⟩
section Steps2
variable {p : Program} {l : Launch} {e : Env} {R : Room} {s : State} {m : MethodId} {args : Array Value} {below : List Frame} {meth : Method} {c : Code} {T : State} {locs : List Loc} {cells slots : Nat} {P : Outcome → State → Prop} {pc : Nat} {Ls : Array Slot} {st : List Value}
theorem o_iloadN (X : Stand p l e R s m args below meth c T locs cells slots) (hx : p.tables.exec = Jvm.exec) {k : Fin 4} {v : Int32} (hd : decode c.code pc = .ok (.iload_n k, 1)) (hl : Ls[k.val]? = some (.val (.int v))) (g : own_Go p.tables e below P (T.setTop (mkF m (pc + 1) Ls (.int v :: st)))) : own_Go p.tables e below P (T.setTop (mkF m pc Ls st)) := own_st (fun t k => XS.iloadN X.here hx rfl hd hl k) g
theorem o_iload (X : Stand p l e R s m args below meth c T locs cells slots) (hx : p.tables.exec = Jvm.exec) {k : Nat} {v : Int32} (hd : decode c.code pc = .ok (.iload k, 2)) (hl : Ls[k]? = some (.val (.int v))) (g : own_Go p.tables e below P (T.setTop (mkF m (pc + 2) Ls (.int v :: st)))) : own_Go p.tables e below P (T.setTop (mkF m pc Ls st)) := own_st (fun t k => XS.iload X.here hx rfl hd hl k) g
theorem o_lloadN (X : Stand p l e R s m args below meth c T locs cells slots) (hx : p.tables.exec = Jvm.exec) {k : Fin 4} {v : Int64} (hd : decode c.code pc = .ok (.lload_n k, 1)) (hl : Ls[k.val]? = some (.val (.long v))) (g : own_Go p.tables e below P (T.setTop (mkF m (pc + 1) Ls (.long v :: st)))) : own_Go p.tables e below P (T.setTop (mkF m pc Ls st)) := own_st (fun t k => XS.lloadN X.here hx rfl hd hl k) g
theorem o_lload (X : Stand p l e R s m args below meth c T locs cells slots) (hx : p.tables.exec = Jvm.exec) {k : Nat} {v : Int64} (hd : decode c.code pc = .ok (.lload k, 2)) (hl : Ls[k]? = some (.val (.long v))) (g : own_Go p.tables e below P (T.setTop (mkF m (pc + 2) Ls (.long v :: st)))) : own_Go p.tables e below P (T.setTop (mkF m pc Ls st)) := own_st (fun t k => XS.lload X.here hx rfl hd hl k) g
theorem o_aloadN (X : Stand p l e R s m args below meth c T locs cells slots) (hx : p.tables.exec = Jvm.exec) {k : Fin 4} {v : Value} (hd : decode c.code pc = .ok (.aload_n k, 1)) (hl : Ls[k.val]? = some (.val v)) (hv : v.isRef = true) (g : own_Go p.tables e below P (T.setTop (mkF m (pc + 1) Ls (v :: st)))) : own_Go p.tables e below P (T.setTop (mkF m pc Ls st)) := own_st (fun t k => XS.aloadN X.here hx rfl hd hl hv k) g
theorem o_aload (X : Stand p l e R s m args below meth c T locs cells slots) (hx : p.tables.exec = Jvm.exec) {k : Nat} {v : Value} (hd : decode c.code pc = .ok (.aload k, 2)) (hl : Ls[k]? = some (.val v)) (hv : v.isRef = true) (g : own_Go p.tables e below P (T.setTop (mkF m (pc + 2) Ls (v :: st)))) : own_Go p.tables e below P (T.setTop (mkF m pc Ls st)) := own_st (fun t k => XS.aload X.here hx rfl hd hl hv k) g
theorem o_istoreN (X : Stand p l e R s m args below meth c T locs cells slots) (hx : p.tables.exec = Jvm.exec) {k : Fin 4} {v : Int32} {l' : Array Slot} (hd : decode c.code pc = .ok (.istore_n k, 1)) (hl : storeLocals Ls k.val (.int v) = some l') (g : own_Go p.tables e below P (T.setTop (mkF m (pc + 1) l' st))) : own_Go p.tables e below P (T.setTop (mkF m pc Ls (.int v :: st))) := own_st (fun t k => XS.istoreN X.here hx rfl hd rfl hl k) g
theorem o_istore (X : Stand p l e R s m args below meth c T locs cells slots) (hx : p.tables.exec = Jvm.exec) {k : Nat} {v : Int32} {l' : Array Slot} (hd : decode c.code pc = .ok (.istore k, 2)) (hl : storeLocals Ls k (.int v) = some l') (g : own_Go p.tables e below P (T.setTop (mkF m (pc + 2) l' st))) : own_Go p.tables e below P (T.setTop (mkF m pc Ls (.int v :: st))) := own_st (fun t k => XS.istore X.here hx rfl hd rfl hl k) g
theorem o_lstoreN (X : Stand p l e R s m args below meth c T locs cells slots) (hx : p.tables.exec = Jvm.exec) {k : Fin 4} {v : Int64} {l' : Array Slot} (hd : decode c.code pc = .ok (.lstore_n k, 1)) (hl : storeLocals Ls k.val (.long v) = some l') (g : own_Go p.tables e below P (T.setTop (mkF m (pc + 1) l' st))) : own_Go p.tables e below P (T.setTop (mkF m pc Ls (.long v :: st))) := own_st (fun t k => XS.lstoreN X.here hx rfl hd rfl hl k) g
theorem o_lstore (X : Stand p l e R s m args below meth c T locs cells slots) (hx : p.tables.exec = Jvm.exec) {k : Nat} {v : Int64} {l' : Array Slot} (hd : decode c.code pc = .ok (.lstore k, 2)) (hl : storeLocals Ls k (.long v) = some l') (g : own_Go p.tables e below P (T.setTop (mkF m (pc + 2) l' st))) : own_Go p.tables e below P (T.setTop (mkF m pc Ls (.long v :: st))) := own_st (fun t k => XS.lstore X.here hx rfl hd rfl hl k) g
theorem o_astoreN (X : Stand p l e R s m args below meth c T locs cells slots) (hx : p.tables.exec = Jvm.exec) {k : Fin 4} {v : Value} {l' : Array Slot} (hd : decode c.code pc = .ok (.astore_n k, 1)) (hv : v.isRef = true) (hl : storeLocals Ls k.val v = some l') (g : own_Go p.tables e below P (T.setTop (mkF m (pc + 1) l' st))) : own_Go p.tables e below P (T.setTop (mkF m pc Ls (v :: st))) := own_st (fun t k => XS.astoreN X.here hx rfl hd rfl hv hl k) g
theorem o_astore (X : Stand p l e R s m args below meth c T locs cells slots) (hx : p.tables.exec = Jvm.exec) {k : Nat} {v : Value} {l' : Array Slot} (hd : decode c.code pc = .ok (.astore k, 2)) (hv : v.isRef = true) (hl : storeLocals Ls k v = some l') (g : own_Go p.tables e below P (T.setTop (mkF m (pc + 2) l' st))) : own_Go p.tables e below P (T.setTop (mkF m pc Ls (v :: st))) := own_st (fun t k => XS.astore X.here hx rfl hd rfl hv hl k) g
theorem o_iconst (X : Stand p l e R s m args below meth c T locs cells slots) (hx : p.tables.exec = Jvm.exec) {i : Int} (z : Int32) (hd : decode c.code pc = .ok (.iconst i, 1)) (hz : Int32.ofInt i = z) (g : own_Go p.tables e below P (T.setTop (mkF m (pc + 1) Ls (.int z :: st)))) : own_Go p.tables e below P (T.setTop (mkF m pc Ls st)) := by subst hz; exact own_st (fun t k => XS.iconst X.here hx rfl hd k) g
theorem o_bipush (X : Stand p l e R s m args below meth c T locs cells slots) (hx : p.tables.exec = Jvm.exec) {i : Int} (z : Int32) (hd : decode c.code pc = .ok (.bipush i, 2)) (hz : (Int8.ofInt i).toInt32 = z) (g : own_Go p.tables e below P (T.setTop (mkF m (pc + 2) Ls (.int z :: st)))) : own_Go p.tables e below P (T.setTop (mkF m pc Ls st)) := by subst hz; exact own_st (fun t k => XS.bipush X.here hx rfl hd k) g
theorem o_sipush (X : Stand p l e R s m args below meth c T locs cells slots) (hx : p.tables.exec = Jvm.exec) {i : Int} (z : Int32) (hd : decode c.code pc = .ok (.sipush i, 3)) (hz : (Int16.ofInt i).toInt32 = z) (g : own_Go p.tables e below P (T.setTop (mkF m (pc + 3) Ls (.int z :: st)))) : own_Go p.tables e below P (T.setTop (mkF m pc Ls st)) := by subst hz; exact own_st (fun t k => XS.sipush X.here hx rfl hd k) g
theorem o_lconst (X : Stand p l e R s m args below meth c T locs cells slots) (hx : p.tables.exec = Jvm.exec) {i : Fin 2} (z : Int64) (hd : decode c.code pc = .ok (.lconst i, 1)) (hz : Int64.ofNat i = z) (g : own_Go p.tables e below P (T.setTop (mkF m (pc + 1) Ls (.long z :: st)))) : own_Go p.tables e below P (T.setTop (mkF m pc Ls st)) := by subst hz; exact own_st (fun t k => XS.lconst X.here hx rfl hd k) g
theorem o_aconstNull (X : Stand p l e R s m args below meth c T locs cells slots) (hx : p.tables.exec = Jvm.exec) (hd : decode c.code pc = .ok (.aconst_null, 1)) (g : own_Go p.tables e below P (T.setTop (mkF m (pc + 1) Ls (.null :: st)))) : own_Go p.tables e below P (T.setTop (mkF m pc Ls st)) := own_st (fun t k => XS.aconstNull X.here hx rfl hd k) g
theorem o_iadd (X : Stand p l e R s m args below meth c T locs cells slots) (hx : p.tables.exec = Jvm.exec) {x y : Int32} (hd : decode c.code pc = .ok (.iadd, 1)) (g : own_Go p.tables e below P (T.setTop (mkF m (pc + 1) Ls (.int (x + y) :: st)))) : own_Go p.tables e below P (T.setTop (mkF m pc Ls (.int y :: .int x :: st))) := own_st (fun t k => XS.iadd X.here hx rfl hd rfl k) g
theorem o_ladd (X : Stand p l e R s m args below meth c T locs cells slots) (hx : p.tables.exec = Jvm.exec) {x y : Int64} (hd : decode c.code pc = .ok (.ladd, 1)) (g : own_Go p.tables e below P (T.setTop (mkF m (pc + 1) Ls (.long (x + y) :: st)))) : own_Go p.tables e below P (T.setTop (mkF m pc Ls (.long y :: .long x :: st))) := own_st (fun t k => XS.ladd X.here hx rfl hd rfl k) g
theorem o_isub (X : Stand p l e R s m args below meth c T locs cells slots) (hx : p.tables.exec = Jvm.exec) {x y : Int32} (hd : decode c.code pc = .ok (.isub, 1)) (g : own_Go p.tables e below P (T.setTop (mkF m (pc + 1) Ls (.int (x - y) :: st)))) : own_Go p.tables e below P (T.setTop (mkF m pc Ls (.int y :: .int x :: st))) := own_st (fun t k => XS.isub X.here hx rfl hd rfl k) g
theorem o_lsub (X : Stand p l e R s m args below meth c T locs cells slots) (hx : p.tables.exec = Jvm.exec) {x y : Int64} (hd : decode c.code pc = .ok (.lsub, 1)) (g : own_Go p.tables e below P (T.setTop (mkF m (pc + 1) Ls (.long (x - y) :: st)))) : own_Go p.tables e below P (T.setTop (mkF m pc Ls (.long y :: .long x :: st))) := own_st (fun t k => XS.lsub X.here hx rfl hd rfl k) g
theorem o_imul (X : Stand p l e R s m args below meth c T locs cells slots) (hx : p.tables.exec = Jvm.exec) {x y : Int32} (hd : decode c.code pc = .ok (.imul, 1)) (g : own_Go p.tables e below P (T.setTop (mkF m (pc + 1) Ls (.int (x * y) :: st)))) : own_Go p.tables e below P (T.setTop (mkF m pc Ls (.int y :: .int x :: st))) := own_st (fun t k => XS.imul X.here hx rfl hd rfl k) g
theorem o_lmul (X : Stand p l e R s m args below meth c T locs cells slots) (hx : p.tables.exec = Jvm.exec) {x y : Int64} (hd : decode c.code pc = .ok (.lmul, 1)) (g : own_Go p.tables e below P (T.setTop (mkF m (pc + 1) Ls (.long (x * y) :: st)))) : own_Go p.tables e below P (T.setTop (mkF m pc Ls (.long y :: .long x :: st))) := own_st (fun t k => XS.lmul X.here hx rfl hd rfl k) g
theorem o_iand (X : Stand p l e R s m args below meth c T locs cells slots) (hx : p.tables.exec = Jvm.exec) {x y : Int32} (hd : decode c.code pc = .ok (.iand, 1)) (g : own_Go p.tables e below P (T.setTop (mkF m (pc + 1) Ls (.int (x &&& y) :: st)))) : own_Go p.tables e below P (T.setTop (mkF m pc Ls (.int y :: .int x :: st))) := own_st (fun t k => XS.iand X.here hx rfl hd rfl k) g
theorem o_land (X : Stand p l e R s m args below meth c T locs cells slots) (hx : p.tables.exec = Jvm.exec) {x y : Int64} (hd : decode c.code pc = .ok (.land, 1)) (g : own_Go p.tables e below P (T.setTop (mkF m (pc + 1) Ls (.long (x &&& y) :: st)))) : own_Go p.tables e below P (T.setTop (mkF m pc Ls (.long y :: .long x :: st))) := own_st (fun t k => XS.land X.here hx rfl hd rfl k) g
theorem o_ior (X : Stand p l e R s m args below meth c T locs cells slots) (hx : p.tables.exec = Jvm.exec) {x y : Int32} (hd : decode c.code pc = .ok (.ior, 1)) (g : own_Go p.tables e below P (T.setTop (mkF m (pc + 1) Ls (.int (x ||| y) :: st)))) : own_Go p.tables e below P (T.setTop (mkF m pc Ls (.int y :: .int x :: st))) := own_st (fun t k => XS.ior X.here hx rfl hd rfl k) g
theorem o_lor (X : Stand p l e R s m args below meth c T locs cells slots) (hx : p.tables.exec = Jvm.exec) {x y : Int64} (hd : decode c.code pc = .ok (.lor, 1)) (g : own_Go p.tables e below P (T.setTop (mkF m (pc + 1) Ls (.long (x ||| y) :: st)))) : own_Go p.tables e below P (T.setTop (mkF m pc Ls (.long y :: .long x :: st))) := own_st (fun t k => XS.lor X.here hx rfl hd rfl k) g
theorem o_ixor (X : Stand p l e R s m args below meth c T locs cells slots) (hx : p.tables.exec = Jvm.exec) {x y : Int32} (hd : decode c.code pc = .ok (.ixor, 1)) (g : own_Go p.tables e below P (T.setTop (mkF m (pc + 1) Ls (.int (x ^^^ y) :: st)))) : own_Go p.tables e below P (T.setTop (mkF m pc Ls (.int y :: .int x :: st))) := own_st (fun t k => XS.ixor X.here hx rfl hd rfl k) g
theorem o_lxor (X : Stand p l e R s m args below meth c T locs cells slots) (hx : p.tables.exec = Jvm.exec) {x y : Int64} (hd : decode c.code pc = .ok (.lxor, 1)) (g : own_Go p.tables e below P (T.setTop (mkF m (pc + 1) Ls (.long (x ^^^ y) :: st)))) : own_Go p.tables e below P (T.setTop (mkF m pc Ls (.long y :: .long x :: st))) := own_st (fun t k => XS.lxor X.here hx rfl hd rfl k) g
theorem o_idiv (X : Stand p l e R s m args below meth c T locs cells slots) (hx : p.tables.exec = Jvm.exec) {x y : Int32} (hd : decode c.code pc = .ok (.idiv, 1)) (hy : y ≠ 0) (g : own_Go p.tables e below P (T.setTop (mkF m (pc + 1) Ls (.int (x / y) :: st)))) : own_Go p.tables e below P (T.setTop (mkF m pc Ls (.int y :: .int x :: st))) := own_st (fun t k => XS.idiv X.here hx rfl hd rfl hy k) g
theorem o_irem (X : Stand p l e R s m args below meth c T locs cells slots) (hx : p.tables.exec = Jvm.exec) {x y : Int32} (hd : decode c.code pc = .ok (.irem, 1)) (hy : y ≠ 0) (g : own_Go p.tables e below P (T.setTop (mkF m (pc + 1) Ls (.int (x - x / y * y) :: st)))) : own_Go p.tables e below P (T.setTop (mkF m pc Ls (.int y :: .int x :: st))) := own_st (fun t k => XS.irem X.here hx rfl hd rfl hy k) g
theorem o_ldiv (X : Stand p l e R s m args below meth c T locs cells slots) (hx : p.tables.exec = Jvm.exec) {x y : Int64} (hd : decode c.code pc = .ok (.ldiv, 1)) (hy : y ≠ 0) (g : own_Go p.tables e below P (T.setTop (mkF m (pc + 1) Ls (.long (x / y) :: st)))) : own_Go p.tables e below P (T.setTop (mkF m pc Ls (.long y :: .long x :: st))) := own_st (fun t k => XS.ldiv X.here hx rfl hd rfl hy k) g
theorem o_lrem (X : Stand p l e R s m args below meth c T locs cells slots) (hx : p.tables.exec = Jvm.exec) {x y : Int64} (hd : decode c.code pc = .ok (.lrem, 1)) (hy : y ≠ 0) (g : own_Go p.tables e below P (T.setTop (mkF m (pc + 1) Ls (.long (x - x / y * y) :: st)))) : own_Go p.tables e below P (T.setTop (mkF m pc Ls (.long y :: .long x :: st))) := own_st (fun t k => XS.lrem X.here hx rfl hd rfl hy k) g
theorem o_ineg (X : Stand p l e R s m args below meth c T locs cells slots) (hx : p.tables.exec = Jvm.exec) {x : Int32} (hd : decode c.code pc = .ok (.ineg, 1)) (g : own_Go p.tables e below P (T.setTop (mkF m (pc + 1) Ls (.int ((-x)) :: st)))) : own_Go p.tables e below P (T.setTop (mkF m pc Ls (.int x :: st))) := own_st (fun t k => XS.ineg X.here hx rfl hd rfl k) g
theorem o_lneg (X : Stand p l e R s m args below meth c T locs cells slots) (hx : p.tables.exec = Jvm.exec) {x : Int64} (hd : decode c.code pc = .ok (.lneg, 1)) (g : own_Go p.tables e below P (T.setTop (mkF m (pc + 1) Ls (.long ((-x)) :: st)))) : own_Go p.tables e below P (T.setTop (mkF m pc Ls (.long x :: st))) := own_st (fun t k => XS.lneg X.here hx rfl hd rfl k) g
theorem o_i2l (X : Stand p l e R s m args below meth c T locs cells slots) (hx : p.tables.exec = Jvm.exec) {x : Int32} (hd : decode c.code pc = .ok (.i2l, 1)) (g : own_Go p.tables e below P (T.setTop (mkF m (pc + 1) Ls (.long (x.toInt64) :: st)))) : own_Go p.tables e below P (T.setTop (mkF m pc Ls (.int x :: st))) := own_st (fun t k => XS.i2l X.here hx rfl hd rfl k) g
theorem o_l2i (X : Stand p l e R s m args below meth c T locs cells slots) (hx : p.tables.exec = Jvm.exec) {x : Int64} (hd : decode c.code pc = .ok (.l2i, 1)) (g : own_Go p.tables e below P (T.setTop (mkF m (pc + 1) Ls (.int (x.toInt32) :: st)))) : own_Go p.tables e below P (T.setTop (mkF m pc Ls (.long x :: st))) := own_st (fun t k => XS.l2i X.here hx rfl hd rfl k) g
theorem o_i2b (X : Stand p l e R s m args below meth c T locs cells slots) (hx : p.tables.exec = Jvm.exec) {x : Int32} (hd : decode c.code pc = .ok (.i2b, 1)) (g : own_Go p.tables e below P (T.setTop (mkF m (pc + 1) Ls (.int (x.toInt8.toInt32) :: st)))) : own_Go p.tables e below P (T.setTop (mkF m pc Ls (.int x :: st))) := own_st (fun t k => XS.i2b X.here hx rfl hd rfl k) g
theorem o_i2s (X : Stand p l e R s m args below meth c T locs cells slots) (hx : p.tables.exec = Jvm.exec) {x : Int32} (hd : decode c.code pc = .ok (.i2s, 1)) (g : own_Go p.tables e below P (T.setTop (mkF m (pc + 1) Ls (.int (x.toInt16.toInt32) :: st)))) : own_Go p.tables e below P (T.setTop (mkF m pc Ls (.int x :: st))) := own_st (fun t k => XS.i2s X.here hx rfl hd rfl k) g
theorem o_i2c (X : Stand p l e R s m args below meth c T locs cells slots) (hx : p.tables.exec = Jvm.exec) {x : Int32} (hd : decode c.code pc = .ok (.i2c, 1)) (g : own_Go p.tables e below P (T.setTop (mkF m (pc + 1) Ls (.int (x.toUInt32.toUInt16.toUInt32.toInt32) :: st)))) : own_Go p.tables e below P (T.setTop (mkF m pc Ls (.int x :: st))) := own_st (fun t k => XS.i2c X.here hx rfl hd rfl k) g
theorem o_ishl (X : Stand p l e R s m args below meth c T locs cells slots) (hx : p.tables.exec = Jvm.exec) {x : Int32} {y : Int32} (hd : decode c.code pc = .ok (.ishl, 1)) (g : own_Go p.tables e below P (T.setTop (mkF m (pc + 1) Ls (.int (x <<< (y &&& 31)) :: st)))) : own_Go p.tables e below P (T.setTop (mkF m pc Ls (.int y :: .int x :: st))) := own_st (fun t k => XS.ishl X.here hx rfl hd rfl k) g
theorem o_ishr (X : Stand p l e R s m args below meth c T locs cells slots) (hx : p.tables.exec = Jvm.exec) {x : Int32} {y : Int32} (hd : decode c.code pc = .ok (.ishr, 1)) (g : own_Go p.tables e below P (T.setTop (mkF m (pc + 1) Ls (.int (x >>> (y &&& 31)) :: st)))) : own_Go p.tables e below P (T.setTop (mkF m pc Ls (.int y :: .int x :: st))) := own_st (fun t k => XS.ishr X.here hx rfl hd rfl k) g
theorem o_iushr (X : Stand p l e R s m args below meth c T locs cells slots) (hx : p.tables.exec = Jvm.exec) {x : Int32} {y : Int32} (hd : decode c.code pc = .ok (.iushr, 1)) (g : own_Go p.tables e below P (T.setTop (mkF m (pc + 1) Ls (.int ((x.toUInt32 >>> (y &&& 31).toUInt32).toInt32) :: st)))) : own_Go p.tables e below P (T.setTop (mkF m pc Ls (.int y :: .int x :: st))) := own_st (fun t k => XS.iushr X.here hx rfl hd rfl k) g
theorem o_lshl (X : Stand p l e R s m args below meth c T locs cells slots) (hx : p.tables.exec = Jvm.exec) {x : Int64} {y : Int32} (hd : decode c.code pc = .ok (.lshl, 1)) (g : own_Go p.tables e below P (T.setTop (mkF m (pc + 1) Ls (.long (x <<< (y &&& 0x3f).toInt64) :: st)))) : own_Go p.tables e below P (T.setTop (mkF m pc Ls (.int y :: .long x :: st))) := own_st (fun t k => XS.lshl X.here hx rfl hd rfl k) g
theorem o_lshr (X : Stand p l e R s m args below meth c T locs cells slots) (hx : p.tables.exec = Jvm.exec) {x : Int64} {y : Int32} (hd : decode c.code pc = .ok (.lshr, 1)) (g : own_Go p.tables e below P (T.setTop (mkF m (pc + 1) Ls (.long (x >>> (y &&& 0x3f).toInt64) :: st)))) : own_Go p.tables e below P (T.setTop (mkF m pc Ls (.int y :: .long x :: st))) := own_st (fun t k => XS.lshr X.here hx rfl hd rfl k) g
theorem o_lushr (X : Stand p l e R s m args below meth c T locs cells slots) (hx : p.tables.exec = Jvm.exec) {x : Int64} {y : Int32} (hd : decode c.code pc = .ok (.lushr, 1)) (g : own_Go p.tables e below P (T.setTop (mkF m (pc + 1) Ls (.long ((x.toUInt64 >>> (y &&& 0x3f).toInt64.toUInt64).toInt64) :: st)))) : own_Go p.tables e below P (T.setTop (mkF m pc Ls (.int y :: .long x :: st))) := own_st (fun t k => XS.lushr X.here hx rfl hd rfl k) g
theorem o_lcmp (X : Stand p l e R s m args below meth c T locs cells slots) (hx : p.tables.exec = Jvm.exec) {x y : Int64} (hd : decode c.code pc = .ok (.lcmp, 1)) (g : own_Go p.tables e below P (T.setTop (mkF m (pc + 1) Ls (.int (lcmpW x y) :: st)))) : own_Go p.tables e below P (T.setTop (mkF m pc Ls (.long y :: .long x :: st))) := own_st (fun t k => XS.lcmp X.here hx rfl hd rfl k) g
theorem o_iinc (X : Stand p l e R s m args below meth c T locs cells slots) (hx : p.tables.exec = Jvm.exec) {k : Nat} {cst : Int} {x : Int32} {l' : Array Slot} (hd : decode c.code pc = .ok (.iinc k cst, 3)) (hl : Ls[k]? = some (.val (.int x))) (hl' : storeLocals Ls k (.int (x + Int32.ofInt cst)) = some l') (g : own_Go p.tables e below P (T.setTop (mkF m (pc + 3) l' st))) : own_Go p.tables e below P (T.setTop (mkF m pc Ls st)) := own_st (fun t k => XS.iinc X.here hx rfl hd hl hl' k) g
theorem o_dup (X : Stand p l e R s m args below meth c T locs cells slots) (hx : p.tables.exec = Jvm.exec) {x : Value} (hd : decode c.code pc = .ok (.dup, 1)) (hc : x.category = 1) (g : own_Go p.tables e below P (T.setTop (mkF m (pc + 1) Ls (x :: x :: st)))) : own_Go p.tables e below P (T.setTop (mkF m pc Ls (x :: st))) := own_st (fun t k => XS.dup X.here hx rfl hd rfl hc k) g
theorem o_pop (X : Stand p l e R s m args below meth c T locs cells slots) (hx : p.tables.exec = Jvm.exec) {x : Value} (hd : decode c.code pc = .ok (.pop, 1)) (hc : x.category = 1) (g : own_Go p.tables e below P (T.setTop (mkF m (pc + 1) Ls st))) : own_Go p.tables e below P (T.setTop (mkF m pc Ls (x :: st))) := own_st (fun t k => XS.pop X.here hx rfl hd rfl hc k) g
theorem o_dupX1 (X : Stand p l e R s m args below meth c T locs cells slots) (hx : p.tables.exec = Jvm.exec) {x y : Value} (hd : decode c.code pc = .ok (.dup_x1, 1)) (hc : x.category = 1) (hc' : y.category = 1) (g : own_Go p.tables e below P (T.setTop (mkF m (pc + 1) Ls (x :: y :: x :: st)))) : own_Go p.tables e below P (T.setTop (mkF m pc Ls (x :: y :: st))) := own_st (fun t k => XS.dupX1 X.here hx rfl hd rfl hc hc' k) g
theorem o_dup2 (X : Stand p l e R s m args below meth c T locs cells slots) (hx : p.tables.exec = Jvm.exec) {x y : Value} (hd : decode c.code pc = .ok (.dup2, 1)) (hc : x.category = 1) (hc' : y.category = 1) (g : own_Go p.tables e below P (T.setTop (mkF m (pc + 1) Ls (x :: y :: x :: y :: st)))) : own_Go p.tables e below P (T.setTop (mkF m pc Ls (x :: y :: st))) := own_st (fun t k => Jvm.Free.XT.dup2 X.here hx rfl hd rfl hc hc' k) g
theorem o_goto (X : Stand p l e R s m args below meth c T locs cells slots) (hx : p.tables.exec = Jvm.exec) {o : Int} {pc' : Nat} (hd : decode c.code pc = .ok (.goto o, 3)) (ho : 0 ≤ (pc : Int) + o) (hp : ((pc : Int) + o).toNat = pc') (g : own_Go p.tables e below P (T.setTop (mkF m pc' Ls st))) : own_Go p.tables e below P (T.setTop (mkF m pc Ls st)) := own_st (fun t k => XS.goto X.here hx rfl rfl hd ho hp k) g
theorem o_ifYes (X : Stand p l e R s m args below meth c T locs cells slots) (hx : p.tables.exec = Jvm.exec) {cd : ClassFile.Cond} {x : Int32} {o : Int} {pc' : Nat} (hd : decode c.code pc = .ok (.ifCond cd o, 3)) (hc : if_icmp.holds cd x 0 = true) (ho : 0 ≤ (pc : Int) + o) (hp : ((pc : Int) + o).toNat = pc') (g : own_Go p.tables e below P (T.setTop (mkF m pc' Ls st))) : own_Go p.tables e below P (T.setTop (mkF m pc Ls (.int x :: st))) := own_st (fun t k => XS.ifYes X.here hx rfl rfl hd rfl ((if0 _ _).trans hc) ho hp k) g
theorem o_ifNo (X : Stand p l e R s m args below meth c T locs cells slots) (hx : p.tables.exec = Jvm.exec) {cd : ClassFile.Cond} {x : Int32} {o : Int} (hd : decode c.code pc = .ok (.ifCond cd o, 3)) (hc : if_icmp.holds cd x 0 = false) (g : own_Go p.tables e below P (T.setTop (mkF m (pc + 3) Ls st))) : own_Go p.tables e below P (T.setTop (mkF m pc Ls (.int x :: st))) := own_st (fun t k => XS.ifNo X.here hx rfl hd rfl ((if0 _ _).trans hc) k) g
theorem o_icmpYes (X : Stand p l e R s m args below meth c T locs cells slots) (hx : p.tables.exec = Jvm.exec) {cd : ClassFile.Cond} {x y : Int32} {o : Int} {pc' : Nat} (hd : decode c.code pc = .ok (.if_icmp cd o, 3)) (hc : if_icmp.holds cd x y = true) (ho : 0 ≤ (pc : Int) + o) (hp : ((pc : Int) + o).toNat = pc') (g : own_Go p.tables e below P (T.setTop (mkF m pc' Ls st))) : own_Go p.tables e below P (T.setTop (mkF m pc Ls (.int y :: .int x :: st))) := own_st (fun t k => XS.icmpYes X.here hx rfl rfl hd rfl hc ho hp k) g
theorem o_icmpNo (X : Stand p l e R s m args below meth c T locs cells slots) (hx : p.tables.exec = Jvm.exec) {cd : ClassFile.Cond} {x y : Int32} {o : Int} (hd : decode c.code pc = .ok (.if_icmp cd o, 3)) (hc : if_icmp.holds cd x y = false) (g : own_Go p.tables e below P (T.setTop (mkF m (pc + 3) Ls st))) : own_Go p.tables e below P (T.setTop (mkF m pc Ls (.int y :: .int x :: st))) := own_st (fun t k => XS.icmpNo X.here hx rfl hd rfl hc k) g
theorem o_ifnullYes (X : Stand p l e R s m args below meth c T locs cells slots) (hx : p.tables.exec = Jvm.exec) {o : Int} {pc' : Nat} (hd : decode c.code pc = .ok (.ifnull o, 3)) (ho : 0 ≤ (pc : Int) + o) (hp : ((pc : Int) + o).toNat = pc') (g : own_Go p.tables e below P (T.setTop (mkF m pc' Ls st))) : own_Go p.tables e below P (T.setTop (mkF m pc Ls (.null :: st))) := own_st (fun t k => XS.ifnullYes X.here hx rfl rfl hd rfl ho hp k) g
theorem o_ifnullNo (X : Stand p l e R s m args below meth c T locs cells slots) (hx : p.tables.exec = Jvm.exec) {o : Int} {b : Addr} (hd : decode c.code pc = .ok (.ifnull o, 3)) (g : own_Go p.tables e below P (T.setTop (mkF m (pc + 3) Ls st))) : own_Go p.tables e below P (T.setTop (mkF m pc Ls (.ref b :: st))) := own_st (fun t k => XS.ifnullNo X.here hx rfl hd rfl k) g
theorem o_ifnonnullNo (X : Stand p l e R s m args below meth c T locs cells slots) (hx : p.tables.exec = Jvm.exec) {o : Int} (hd : decode c.code pc = .ok (.ifnonnull o, 3)) (g : own_Go p.tables e below P (T.setTop (mkF m (pc + 3) Ls st))) : own_Go p.tables e below P (T.setTop (mkF m pc Ls (.null :: st))) := own_st (fun t k => XS.ifnonnullNo X.here hx rfl hd rfl k) g
theorem o_ifnonnullYes (X : Stand p l e R s m args below meth c T locs cells slots) (hx : p.tables.exec = Jvm.exec) {o : Int} {b : Addr} {pc' : Nat} (hd : decode c.code pc = .ok (.ifnonnull o, 3)) (ho : 0 ≤ (pc : Int) + o) (hp : ((pc : Int) + o).toNat = pc') (g : own_Go p.tables e below P (T.setTop (mkF m pc' Ls st))) : own_Go p.tables e below P (T.setTop (mkF m pc Ls (.ref b :: st))) := own_st (fun t k => XS.ifnonnullYes X.here hx rfl rfl hd rfl ho hp k) g
theorem o_ldc (X : Stand p l e R s m args below meth c T locs cells slots) (hx : p.tables.exec = Jvm.exec) {own : String} {index : Nat} {v : Int32} (hown : s.vm.findClass own = some m.cls) (hd : decode c.code pc = .ok (.ldc index, 2)) (hk : (Cond.constant own index v).before args s = true) (g : own_Go p.tables e below P (T.setTop (mkF m (pc + 2) Ls (.int v :: st)))) : own_Go p.tables e below P (T.setTop (mkF m pc Ls st)) := own_st (X.ldcInt hx hown hk (g := mkF m pc Ls st) rfl hd) g
theorem o_ldc2 (X : Stand p l e R s m args below meth c T locs cells slots) (hx : p.tables.exec = Jvm.exec) {own : String} {index : Nat} {v : Int64} (hown : s.vm.findClass own = some m.cls) (hd : decode c.code pc = .ok (.ldc2_w index, 3)) (hk : (Cond.constantLong own index v).before args s = true) (g : own_Go p.tables e below P (T.setTop (mkF m (pc + 3) Ls (.long v :: st)))) : own_Go p.tables e below P (T.setTop (mkF m pc Ls st)) := own_st (X.ldc2Long hx hown hk (g := mkF m pc Ls st) rfl hd) g
end Steps2
end Jvm.RoadKit
namespace Jvm.Pilot.@@N@@
open Jvm Jvm.ClassFile Sem Op Lib Jvm.Free Jvm.Stand Jvm.LawKit Jvm.RoadKit Bundle Jvm.Pilot.@@N@@.Jvm.D
def own_can (p1 : Int32)  : Int32 := (if (255 : Int32) < p1 then (0 : Int32) else (1 : Int32))
theorem pn_2 : plainName "java/lang/StringLatin1" = true := by first | (simp [plainName, overriddenIn]; done) | decide +kernel
theorem d2_0 : decode jdk_43_method_3_code 0 = .ok (.iload_n 0, 1) := by decide +kernel
theorem d2_1 : decode jdk_43_method_3_code 1 = .ok (.sipush 255, 3) := by decide +kernel
theorem d2_4 : decode jdk_43_method_3_code 4 = .ok (.if_icmp .gt 7, 3) := by decide +kernel
theorem d2_11 : decode jdk_43_method_3_code 11 = .ok (.iconst 0, 1) := by decide +kernel
theorem d2_12 : decode jdk_43_method_3_code 12 = .ok (.ireturn, 1) := by decide +kernel
theorem d2_7 : decode jdk_43_method_3_code 7 = .ok (.iconst 1, 1) := by decide +kernel
theorem d2_8 : decode jdk_43_method_3_code 8 = .ok (.goto 4, 3) := by decide +kernel
theorem ef_rm2 (m : MethodId) (p1 : Int32) : entryFrame m #[(.int p1)] 1 = mkF m 0 #[iv p1] [] := by first | (simp [entryFrame, mkF, argsToLocals, Value.category]; done) | rfl
def Q_rm2 (Z : State) (a0 : Array Value) (p1 : Int32)  (h0 : Heap) (n0 : Nat) (v : Option Value) (h : Heap) (L : List Loc) : Prop := v = some (.int (own_can p1)) ∧ Fr n0 L ∧ h = h0
set_option maxRecDepth 65536 in
set_option maxHeartbeats 40000000 in
theorem rm2 (l : Launch) (Z : State) (a0 : Array Value) (hw : ∀ d ∈ tables_1, d.before a0 Z = true) (ws : List Jvm.Cond) (p1 : Int32)  (h0 : Heap) (n0 : Nat) (Z0 : n0 ≤ h0.size) :
    MetFree l (⟨"java/lang/StringLatin1", "canEncode", "(C)Z"⟩ : MethodName) (head1 (Jvm.Cond.code (⟨"java/lang/StringLatin1", "canEncode", "(C)Z"⟩ : MethodName) jdk_43_method_3_code 1 (some .boolean) :: ws) ({ frames := 0, cells := 0, slots := 0, locals := 0 } : Room)) (fun a U => a = #[(.int p1)] ∧ Z.Warmed39 U.vm ∧ U.heap = h0) (fun _ _ _ _ _ => True) (fun _ U o U' => ∃ v L, o = .returned v ∧ Q_rm2 Z a0 p1 h0 n0 v U'.heap L ∧ FrameEnd U o U' L ({ frames := 0, cells := 0, slots := 0, locals := 0 } : Room).cells ({ frames := 0, cells := 0, slots := 0, locals := 0 } : Room).slots) := by
  refine MetFree.of_bodySF (plainFor_of_name pn_2) hisR ?_
  intro p e s m args below meth c s₁ Bd hml0 hP hK
  obtain ⟨rfl, hZ, hh⟩ := hP
  have hx := Bd.exec
  have hby := Bd.bytes
  have hml : c.maxLocals = 1 := hml0
  have hown : s.vm.findClass "java/lang/StringLatin1" = some m.cls := findClass_of_methodNamed Bd.named
  have hnm := (name_of_methodNamed Bd.named Bd.method).1
  have hlk : meth.locks = false := BodyLoose.notSynchronized (by assumption)
  have X0 : Stand p l e ({ frames := 0, cells := 0, slots := 0, locals := 0 } : Room) s m #[(.int p1)] below meth c s₁ [] 0 0 := Stand.of_body Bd
  have e0 : s₁.heap = h0 := by rw [← hh, Bd.state]; rfl
  have N0 := Fr.nil n0
  show own_Go p.tables e below (fun o U' => ∃ v L, o = .returned v ∧ Q_rm2 Z a0 p1 h0 n0 v U'.heap L ∧ FrameEnd s o U' L ({ frames := 0, cells := 0, slots := 0, locals := 0 } : Room).cells ({ frames := 0, cells := 0, slots := 0, locals := 0 } : Room).slots) (s₁.setTop (entryFrame m #[(.int p1)] 1))
  refine own_st (fun t k => castTop (ef_rm2 m p1) k) ?_
  have hv : own_can p1 = (if (255 : Int32) < p1 then (0 : Int32) else (1 : Int32)) := rfl
  show own_Go _ _ _ _ (s₁.setTop (mkF m 0 #[iv p1] []))
  refine o_iloadN X0 hx (hb hby d2_0) rfl ?_
  refine o_sipush X0 hx 255 (hb hby d2_1) rfl ?_
  by_cases hc4_1 : (255 : Int32) < p1
  · have hv2 := hv.trans (if_pos hc4_1)
    refine o_icmpYes X0 hx (pc' := 11) (hb hby d2_4) (tlt hc4_1).2.2.1 (by decide) (by decide) ?_
    refine o_iconst X0 hx 0 (hb hby d2_11) rfl ?_
    exact own_end X0 e0 (v := some (.int (0 : Int32))) (fun h => by rw [Bd.returns] at h; cases h) hlk (fun fs hr => retN X0 hx (z := (0 : Int32)) (t := .boolean) Bd.returns (by simp) (hb hby d2_12) hr) (Q := Q_rm2 Z a0 p1 h0 n0) ⟨(congrArg (fun z => some (Value.int z)) hv2.symm), N0, rfl⟩ (by decide) (by decide)
  · have hv3 := hv.trans (if_neg hc4_1)
    refine o_icmpNo X0 hx (hb hby d2_4) (flt hc4_1).2.2.1 ?_
    refine o_iconst X0 hx 1 (hb hby d2_7) rfl ?_
    refine o_goto X0 hx (pc' := 12) (hb hby d2_8) (by decide) (by decide) ?_
    exact own_end X0 e0 (v := some (.int (1 : Int32))) (fun h => by rw [Bd.returns] at h; cases h) hlk (fun fs hr => retN X0 hx (z := (1 : Int32)) (t := .boolean) Bd.returns (by simp) (hb hby d2_12) hr) (Q := Q_rm2 Z a0 p1 h0 n0) ⟨(congrArg (fun z => some (Value.int z)) hv3.symm), N0, rfl⟩ (by decide) (by decide)
theorem d3_0 : decode jdk_43_method_46_code 0 = .ok (.iconst 1, 1) := by decide +kernel
theorem d3_1 : decode jdk_43_method_46_code 1 = .ok (.newarray .byte, 2) := by decide +kernel
theorem d3_3 : decode jdk_43_method_46_code 3 = .ok (.dup, 1) := by decide +kernel
theorem d3_4 : decode jdk_43_method_46_code 4 = .ok (.iconst 0, 1) := by decide +kernel
theorem d3_5 : decode jdk_43_method_46_code 5 = .ok (.iload_n 0, 1) := by decide +kernel
theorem d3_6 : decode jdk_43_method_46_code 6 = .ok (.i2b, 1) := by decide +kernel
theorem d3_7 : decode jdk_43_method_46_code 7 = .ok (.bastore, 1) := by decide +kernel
theorem d3_8 : decode jdk_43_method_46_code 8 = .ok (.areturn, 1) := by decide +kernel
theorem ef_rm3 (m : MethodId) (p1 : Int32) : entryFrame m #[(.int p1)] 1 = mkF m 0 #[iv p1] [] := by first | (simp [entryFrame, mkF, argsToLocals, Value.category]; done) | rfl
def Q_rm3 (Z : State) (a0 : Array Value) (p1 : Int32)  (h0 : Heap) (n0 : Nat) (v : Option Value) (h : Heap) (L : List Loc) : Prop := ∃ b : Addr, v = some (.ref b) ∧ Fr n0 L ∧ Keep h0 h [] ∧ n0 ≤ b ∧ h0.size ≤ b
set_option maxRecDepth 65536 in
set_option maxHeartbeats 40000000 in
theorem rm3 (l : Launch) (Z : State) (a0 : Array Value) (hw : ∀ d ∈ tables_1, d.before a0 Z = true) (ws : List Jvm.Cond) (p1 : Int32)  (h0 : Heap) (n0 : Nat) (Z0 : n0 ≤ h0.size) :
    MetFree l (⟨"java/lang/StringLatin1", "toBytes", "(C)[B"⟩ : MethodName) (head1 (Jvm.Cond.code (⟨"java/lang/StringLatin1", "toBytes", "(C)[B"⟩ : MethodName) jdk_43_method_46_code 1 (some (.array .byte)) :: ws) ({ frames := 0, cells := 1, slots := 1, locals := 0 } : Room)) (fun a U => a = #[(.int p1)] ∧ Z.Warmed39 U.vm ∧ U.heap = h0) (fun _ _ _ _ _ => True) (fun _ U o U' => ∃ v L, o = .returned v ∧ Q_rm3 Z a0 p1 h0 n0 v U'.heap L ∧ FrameEnd U o U' L ({ frames := 0, cells := 1, slots := 1, locals := 0 } : Room).cells ({ frames := 0, cells := 1, slots := 1, locals := 0 } : Room).slots) := by
  refine MetFree.of_bodySF (plainFor_of_name pn_2) hisR ?_
  intro p e s m args below meth c s₁ Bd hml0 hP hK
  obtain ⟨rfl, hZ, hh⟩ := hP
  have hx := Bd.exec
  have hby := Bd.bytes
  have hml : c.maxLocals = 1 := hml0
  have hown : s.vm.findClass "java/lang/StringLatin1" = some m.cls := findClass_of_methodNamed Bd.named
  have hnm := (name_of_methodNamed Bd.named Bd.method).1
  have hlk : meth.locks = false := BodyLoose.notSynchronized (by assumption)
  have X0 : Stand p l e ({ frames := 0, cells := 1, slots := 1, locals := 0 } : Room) s m #[(.int p1)] below meth c s₁ [] 0 0 := Stand.of_body Bd
  have e0 : s₁.heap = h0 := by rw [← hh, Bd.state]; rfl
  have N0 := Fr.nil n0
  show own_Go p.tables e below (fun o U' => ∃ v L, o = .returned v ∧ Q_rm3 Z a0 p1 h0 n0 v U'.heap L ∧ FrameEnd s o U' L ({ frames := 0, cells := 1, slots := 1, locals := 0 } : Room).cells ({ frames := 0, cells := 1, slots := 1, locals := 0 } : Room).slots) (s₁.setTop (entryFrame m #[(.int p1)] 1))
  refine own_st (fun t k => castTop (ef_rm3 m p1) k) ?_
  show own_Go _ _ _ _ (s₁.setTop (mkF m 0 #[iv p1] []))
  refine o_iconst X0 hx 1 (hb hby d3_0) rfl ?_
  obtain ⟨T1, h1, k1, X1, e1, E1, A1, st1⟩ := newP X0 hx hZ (hw _ (List.mem_of_getElem? (i := 15) rfl)) e0 (g := (mkF m 1 #[iv p1] [(.int 1)])) rfl (hb hby d3_1) rfl (by decide) (cap := 1) (by decide) (by decide) (by decide) (by decide)
  obtain ⟨b1, g1⟩ : ∃ z, z = h0.size := ⟨_, rfl⟩
  rw [← g1] at A1 st1
  have V1 : Arv Z h1 b1 k1 .byte (1 : Int32) [(.int (0 : Int32))] (.int (0 : Int32)) := (Arv.new A1 (by decide)).pad (pad_rep [] (.int (0 : Int32)) 1)
  have gg1 : n0 ≤ b1 := Nat.le_trans Z0 (Nat.le_of_eq g1.symm)
  have sz1 : h0.size ≤ b1 := Nat.le_trans (Keep.refl h0 []).1 (Nat.le_of_eq g1.symm)
  refine own_st st1 ?_
  show own_Go _ _ _ _ (T1.setTop (mkF m 3 #[iv p1] [(.ref b1)]))
  refine o_dup X1 hx (hb hby d3_3) rfl ?_
  refine o_iconst X1 hx 0 (hb hby d3_4) rfl ?_
  refine o_iloadN X1 hx (hb hby d3_5) rfl ?_
  refine o_i2b X1 hx (hb hby d3_6) ?_
  obtain ⟨cl2, Ar2, qk2, Sz2, Ng2, Hs2, Gs2⟩ := id V1
  obtain ⟨T3, h3, X3, e3, W3, st3⟩ := stB X1 hx hZ e1 Ar2 (j := (0 : Int32)) (inb_of Sz2 ⟨by decide, by decide⟩) (g := (mkF m 7 #[iv p1] [(.int (p1.toInt8.toInt32)), (.int 0), (.ref b1), (.ref b1)])) rfl rfl (hb hby d3_7)
  refine own_st st3 ?_
  have V3 : Arv Z h3 b1 k1 .byte (1 : Int32) [(.int ((p1.toInt8.toInt32).toInt8.toInt32))] (.int (0 : Int32)) := Arv.set Ar2 qk2 Sz2 Ng2 Hs2 Gs2 (fits_nar_byte _) W3 0 rfl (Nat.le_of_ble_eq_true rfl)
  have N3 := Fr.snoc X3 N0 gg1
  show own_Go _ _ _ _ (T3.setTop (mkF m 8 #[iv p1] [(.ref b1)]))
  have Kp4 : Keep h0 h3 [] := (((Keep.refl h0 []).ext E1).wr W3 (Or.inr sz1))
  exact own_end X3 e3 (v := some (.ref b1)) (fun h => by rw [Bd.returns] at h; cases h) hlk (fun fs hr => own_retA X3 hx Bd.returns rfl rfl (hb hby d3_8) hr) (Q := Q_rm3 Z a0 p1 h0 n0) ⟨b1, rfl, N3, Kp4, gg1, sz1⟩ (by decide) (by decide)
theorem pn_4 : plainName "java/lang/String" = true := by first | (simp [plainName, overriddenIn]; done) | decide +kernel
theorem d4_0 : decode jdk_42_method_151_code 0 = .ok (.aload_n 0, 1) := by decide +kernel
theorem d4_1 : decode jdk_42_method_151_code 1 = .ok (.invokespecial 1, 3) := by decide +kernel
theorem d4_4 : decode jdk_42_method_151_code 4 = .ok (.aload_n 0, 1) := by decide +kernel
theorem d4_5 : decode jdk_42_method_151_code 5 = .ok (.aload_n 1, 1) := by decide +kernel
theorem d4_6 : decode jdk_42_method_151_code 6 = .ok (.putfield 9, 3) := by decide +kernel
theorem d4_9 : decode jdk_42_method_151_code 9 = .ok (.aload_n 0, 1) := by decide +kernel
theorem d4_10 : decode jdk_42_method_151_code 10 = .ok (.iload_n 2, 1) := by decide +kernel
theorem d4_11 : decode jdk_42_method_151_code 11 = .ok (.putfield 15, 3) := by decide +kernel
theorem d4_14 : decode jdk_42_method_151_code 14 = .ok (.return_, 1) := by decide +kernel
theorem ef_rm4 (m : MethodId) (a1 : Addr) (a2 : Addr) (p3 : Int32) : entryFrame m #[(.ref a1), (.ref a2), (.int p3)] 3 = mkF m 0 #[rv a1, rv a2, iv p3] [] := by first | (simp [entryFrame, mkF, argsToLocals, Value.category]; done) | rfl
def Q_rm4 (Z : State) (a0 : Array Value) (a1 : Addr) (a2 : Addr) (p3 : Int32)  (h0 : Heap) (n0 : Nat) (v : Option Value) (h : Heap) (L : List Loc) : Prop := v = none ∧ Fr n0 L ∧ Keep h0 h [a1] ∧ Fld Z h a1 "java/lang/String" "value" "[B" (.ref a2) ∧ Fld Z h a1 "java/lang/String" "coder" "B" (.int (p3.toInt8.toInt32))
set_option maxRecDepth 65536 in
set_option maxHeartbeats 40000000 in
theorem rm4 (l : Launch) (Z : State) (a0 : Array Value) (hw : ∀ d ∈ tables_1, d.before a0 Z = true) (ws : List Jvm.Cond) (a1 : Addr) (a2 : Addr) (p3 : Int32)  (h0 : Heap) (n0 : Nat) (Z0 : n0 ≤ h0.size) (E1 : Exa Z h0 a1 "java/lang/String") (g1 : n0 ≤ a1) (F0 : Fld Z h0 a1 "java/lang/String" "value" "[B" .null) (F1 : Fld Z h0 a1 "java/lang/String" "coder" "B" (.int (0 : Int32))) :
    MetFree l (⟨"java/lang/String", "<init>", "([BB)V"⟩ : MethodName) (head1 (Jvm.Cond.code (⟨"java/lang/String", "<init>", "([BB)V"⟩ : MethodName) jdk_42_method_151_code 3 none :: ws) ({ frames := 1, cells := 0, slots := 0, locals := 12 } : Room)) (fun a U => a = #[(.ref a1), (.ref a2), (.int p3)] ∧ Z.Warmed39 U.vm ∧ U.heap = h0) (fun _ _ _ _ _ => True) (fun _ U o U' => ∃ v L, o = .returned v ∧ Q_rm4 Z a0 a1 a2 p3 h0 n0 v U'.heap L ∧ FrameEnd U o U' L ({ frames := 1, cells := 0, slots := 0, locals := 12 } : Room).cells ({ frames := 1, cells := 0, slots := 0, locals := 12 } : Room).slots) := by
  refine MetFree.of_bodySF (plainFor_of_name pn_4) hisR ?_
  intro p e s m args below meth c s₁ Bd hml0 hP hK
  obtain ⟨rfl, hZ, hh⟩ := hP
  have hx := Bd.exec
  have hby := Bd.bytes
  have hml : c.maxLocals = 3 := hml0
  have hown : s.vm.findClass "java/lang/String" = some m.cls := findClass_of_methodNamed Bd.named
  have hnm := (name_of_methodNamed Bd.named Bd.method).1
  have hlk : meth.locks = false := BodyLoose.notSynchronized (by assumption)
  have X0 : Stand p l e ({ frames := 1, cells := 0, slots := 0, locals := 12 } : Room) s m #[(.ref a1), (.ref a2), (.int p3)] below meth c s₁ [] 0 0 := Stand.of_body Bd
  have e0 : s₁.heap = h0 := by rw [← hh, Bd.state]; rfl
  have N0 := Fr.nil n0
  show own_Go p.tables e below (fun o U' => ∃ v L, o = .returned v ∧ Q_rm4 Z a0 a1 a2 p3 h0 n0 v U'.heap L ∧ FrameEnd s o U' L ({ frames := 1, cells := 0, slots := 0, locals := 12 } : Room).cells ({ frames := 1, cells := 0, slots := 0, locals := 12 } : Room).slots) (s₁.setTop (entryFrame m #[(.ref a1), (.ref a2), (.int p3)] 3))
  refine own_st (fun t k => castTop (ef_rm4 m a1 a2 p3) k) ?_
  show own_Go _ _ _ _ (s₁.setTop (mkF m 0 #[rv a1, rv a2, iv p3] []))
  refine o_aloadN X0 hx (hb hby d4_0) rfl rfl ?_
  obtain ⟨T1, X1, e1, st1⟩ := initO X0 hx hZ hown (hw _ (List.mem_of_getElem? (i := 20) rfl)) (hw _ (List.mem_of_getElem? (i := 21) rfl)) (hw _ (List.mem_of_getElem? (i := 22) rfl)) e0 (g := (mkF m 1 #[rv a1, rv a2, iv p3] [(.ref a1)])) rfl (by rw [hml]; rfl) rfl (hb hby d4_1) (by decide) (W := 0) (by show 2 * 0 + _ ≤ _; exact Nat.le_of_eq rfl) (by decide)
  refine own_st st1 ?_
  show own_Go _ _ _ _ (T1.setTop (mkF m 4 #[rv a1, rv a2, iv p3] []))
  refine o_aloadN X1 hx (hb hby d4_4) rfl rfl ?_
  refine o_aloadN X1 hx (hb hby d4_5) rfl rfl ?_
  obtain ⟨T2, h2, X2, e2, W2, st2⟩ := putF X1 hx hZ hown (host := "") (Or.inl (hw _ (List.mem_of_getElem? (i := 23) rfl))) Via.refl e1 F0 E1 (Or.inr ⟨(hw _ (List.mem_of_getElem? (i := 24) rfl)), rfl, hnm⟩) (hw _ (List.mem_of_getElem? (i := 11) rfl)) (ty := (.array .byte)) (by decide) rfl rfl (g := (mkF m 6 #[rv a1, rv a2, iv p3] [(.ref a2), (.ref a1)])) rfl rfl (hb hby d4_6)
  refine own_st st2 ?_
  have N2 := Fr.snoc X2 N0 g1
  show own_Go _ _ _ _ (T2.setTop (mkF m 9 #[rv a1, rv a2, iv p3] []))
  refine o_aloadN X2 hx (hb hby d4_9) rfl rfl ?_
  refine o_iloadN X2 hx (hb hby d4_10) rfl ?_
  have Fa3 := (F1.other W2 (Or.inr (slot_ne (Or.inr (hw _ (List.mem_of_getElem? (i := 26) rfl))) (Or.inr (hw _ (List.mem_of_getElem? (i := 24) rfl))) (by decide) (t := .byte) (t' := (.array .byte)) (by decide) (by decide))))
  have Fa4 := (E1.wr W2)
  obtain ⟨T5, h5, X5, e5, W5, st5⟩ := putFN X2 hx hZ hown (hw _ (List.mem_of_getElem? (i := 25) rfl)) Via.refl e2 Fa3 Fa4 (Or.inr ⟨(hw _ (List.mem_of_getElem? (i := 26) rfl)), rfl, hnm⟩) (hw _ (List.mem_of_getElem? (i := 11) rfl)) (ty := .byte) (v' := (.int (p3.toInt8.toInt32))) (by decide) rfl (fits_nar_byte _) (g := (mkF m 11 #[rv a1, rv a2, iv p3] [(.int p3), (.ref a1)])) rfl rfl (hb hby d4_11)
  refine own_st st5 ?_
  have N5 := Fr.snoc X5 N2 g1
  show own_Go _ _ _ _ (T5.setTop (mkF m 14 #[rv a1, rv a2, iv p3] []))
  have Kp6 : Keep h0 h5 [a1] := (((Keep.refl h0 [a1]).wr W2 (Or.inl (List.mem_of_getElem? (i := 0) rfl))).wr W5 (Or.inl (List.mem_of_getElem? (i := 0) rfl)))
  have Fa7 := ((F0.same W2).other W5 (Or.inr (slot_ne (Or.inr (hw _ (List.mem_of_getElem? (i := 24) rfl))) (Or.inr (hw _ (List.mem_of_getElem? (i := 26) rfl))) (by decide) (t := (.array .byte)) (t' := .byte) (by decide) (by decide))))
  have Fa8 := (Fa3.same W5)
  exact own_end X5 e5 (v := none) (fun _ => rfl) hlk (fun fs hr => X5.returnOut hx Bd.returns (hb hby d4_14) hr) (Q := Q_rm4 Z a0 a1 a2 p3 h0 n0) ⟨rfl, N5, Kp6, Fa7, Fa8⟩ (by decide) (by decide)
theorem own_canT {x : Int32} (h : ¬ (255 : Int32) < x) : ¬ own_can x = (0 : Int32) := by unfold own_can; rw [if_neg h]; decide
theorem d1_0 : decode jdk_42_method_139_code 0 = .ok (.getstatic 38, 3) := by decide +kernel
theorem d1_3 : decode jdk_42_method_139_code 3 = .ok (.ifCond .eq 23, 3) := by decide +kernel
theorem d1_6 : decode jdk_42_method_139_code 6 = .ok (.iload_n 0, 1) := by decide +kernel
theorem d1_7 : decode jdk_42_method_139_code 7 = .ok (.invokestatic 1015, 3) := by decide +kernel
theorem pd_1 : parseMethodDescriptor "(C)Z" = some ⟨[.char], some .boolean⟩ := by decide +kernel
theorem d1_10 : decode jdk_42_method_139_code 10 = .ok (.ifCond .eq 16, 3) := by decide +kernel
theorem d1_13 : decode jdk_42_method_139_code 13 = .ok (.new 10, 3) := by decide +kernel
theorem d1_16 : decode jdk_42_method_139_code 16 = .ok (.dup, 1) := by decide +kernel
theorem d1_17 : decode jdk_42_method_139_code 17 = .ok (.iload_n 0, 1) := by decide +kernel
theorem d1_18 : decode jdk_42_method_139_code 18 = .ok (.invokestatic 1018, 3) := by decide +kernel
theorem pd_2 : parseMethodDescriptor "(C)[B" = some ⟨[.char], some (.array .byte)⟩ := by decide +kernel
theorem d1_21 : decode jdk_42_method_139_code 21 = .ok (.iconst 0, 1) := by decide +kernel
theorem d1_22 : decode jdk_42_method_139_code 22 = .ok (.invokespecial 209, 3) := by decide +kernel
theorem pd_3 : parseMethodDescriptor "([BB)V" = some ⟨[(.array .byte), .byte], none⟩ := by decide +kernel
theorem d1_25 : decode jdk_42_method_139_code 25 = .ok (.areturn, 1) := by decide +kernel
theorem ef_rm1 (m : MethodId) (p1 : Int32) : entryFrame m #[(.int p1)] 1 = mkF m 0 #[iv p1] [] := by first | (simp [entryFrame, mkF, argsToLocals, Value.category]; done) | rfl
def Q_rm1 (Z : State) (a0 : Array Value) (p1 : Int32) (w : Int32) (h0 : Heap) (n0 : Nat) (v : Option Value) (h : Heap) (L : List Loc) : Prop := ∃ b : Addr, v = some (.ref b) ∧ Fr n0 L ∧ Keep h0 h [] ∧ n0 ≤ b ∧ h0.size ≤ b
set_option maxRecDepth 65536 in
set_option maxHeartbeats 40000000 in
theorem rm1 (l : Launch) (Z : State) (a0 : Array Value) (hw : ∀ d ∈ tables_1, d.before a0 Z = true) (ws : List Jvm.Cond) (p1 : Int32) (w : Int32) (h0 : Heap) (n0 : Nat) (Z0 : n0 ≤ h0.size) (S1 : Sta Z h0 "java/lang/String" "COMPACT_STRINGS" "Z" (.int w)) (hw0 : ¬ w = (0 : Int32)) (hp : ¬ (255 : Int32) < p1) :
    MetFree l (⟨"java/lang/String", "valueOf", "(C)Ljava/lang/String;"⟩ : MethodName) (head1 (Jvm.Cond.code (⟨"java/lang/String", "valueOf", "(C)Ljava/lang/String;"⟩ : MethodName) jdk_42_method_139_code 1 (some (.object "java/lang/String")) :: ws) ({ frames := 2, cells := 2, slots := 5, locals := 27 } : Room)) (fun a U => a = #[(.int p1)] ∧ Z.Warmed39 U.vm ∧ U.heap = h0) (fun _ _ _ _ _ => True) (fun _ U o U' => ∃ v L, o = .returned v ∧ Q_rm1 Z a0 p1 w h0 n0 v U'.heap L ∧ FrameEnd U o U' L ({ frames := 2, cells := 2, slots := 5, locals := 27 } : Room).cells ({ frames := 2, cells := 2, slots := 5, locals := 27 } : Room).slots) := by
  refine MetFree.of_bodySF (plainFor_of_name pn_4) hisR ?_
  intro p e s m args below meth c s₁ Bd hml0 hP hK
  obtain ⟨rfl, hZ, hh⟩ := hP
  have hx := Bd.exec
  have hby := Bd.bytes
  have hml : c.maxLocals = 1 := hml0
  have hown : s.vm.findClass "java/lang/String" = some m.cls := findClass_of_methodNamed Bd.named
  have hnm := (name_of_methodNamed Bd.named Bd.method).1
  have hlk : meth.locks = false := BodyLoose.notSynchronized (by assumption)
  have X0 : Stand p l e ({ frames := 2, cells := 2, slots := 5, locals := 27 } : Room) s m #[(.int p1)] below meth c s₁ [] 0 0 := Stand.of_body Bd
  have e0 : s₁.heap = h0 := by rw [← hh, Bd.state]; rfl
  have N0 := Fr.nil n0
  show own_Go p.tables e below (fun o U' => ∃ v L, o = .returned v ∧ Q_rm1 Z a0 p1 w h0 n0 v U'.heap L ∧ FrameEnd s o U' L ({ frames := 2, cells := 2, slots := 5, locals := 27 } : Room).cells ({ frames := 2, cells := 2, slots := 5, locals := 27 } : Room).slots) (s₁.setTop (entryFrame m #[(.int p1)] 1))
  refine own_st (fun t k => castTop (ef_rm1 m p1) k) ?_
  show own_Go _ _ _ _ (s₁.setTop (mkF m 0 #[iv p1] []))
  obtain ⟨T1, X1, e1, st1⟩ := getS2 X0 hx hZ hown (host := "") (Or.inl (hw _ (List.mem_of_getElem? (i := 5) rfl))) Via.refl e0 S1 (g := (mkF m 0 #[iv p1] [])) rfl (hb hby d1_0)
  refine own_st st1 ?_
  show own_Go _ _ _ _ (T1.setTop (mkF m 3 #[iv p1] [(.int w)]))
  refine o_ifNo X1 hx (hb hby d1_3) (feq hw0).1 ?_
  refine o_iloadN X1 hx (hb hby d1_6) rfl ?_
  obtain ⟨_, _, ⟨T2, L2, k2, n2⟩, -, X2, ⟨Lc2, hQ2, l2, y2, z2⟩, st2⟩ := Jvm.LawKit.callS X1 hx (y := (⟨"java/lang/StringLatin1", "canEncode", "(C)Z"⟩ : MethodName)) hown (mvT hZ (hw _ (List.mem_of_getElem? (i := 6) rfl))) (mvT hZ (hw _ (List.mem_of_getElem? (i := 7) rfl))) (mvT hZ (hw _ (List.mem_of_getElem? (i := 8) rfl))) (mvT hZ (hw _ (List.mem_of_getElem? (i := 9) rfl))) (by decide) (backOf (W := 0) (rm2 l Z a0 hw [] p1  h0 n0 Z0) hZ (hw _ (List.mem_of_getElem? (i := 9) rfl)) (hw _ (List.mem_of_getElem? (i := 8) rfl)) (by decide) (by decide)) (g := (mkF m 7 #[iv p1] [(.int p1)])) rfl (by rw [hml]; rfl) (argsL := [(.int p1)]) (rest := []) (lenOf pd_1 rfl) rfl (by show 2 * 0 + _ ≤ _; exact Nat.le_of_eq rfl) (hb hby d1_7) (fun _ _ => ⟨rfl, e1, (by decide : 0 + 0 ≤ _), (by decide : 0 + 0 ≤ _)⟩)
  dsimp only [Pt.U, Pt.locs, Pt.cells, Pt.slots] at X2 l2 y2 z2 st2 hQ2
  subst l2 y2 z2
  obtain ⟨rfl, Nq2, e2⟩ := hQ2
  have N2 := Fr.app N0 Nq2
  refine own_st st2 ?_
  show own_Go _ _ _ _ (T2.setTop (mkF m 10 #[iv p1] [(.int (own_can p1))]))
  refine o_ifNo X2 hx (hb hby d1_10) (feq (own_canT hp)).1 ?_
  obtain ⟨T3, h3, X3, e3, E3, A3, D3, -, st3⟩ := newO X2 hx hZ hown (hw _ (List.mem_of_getElem? (i := 10) rfl)) (hw _ (List.mem_of_getElem? (i := 11) rfl)) (hw _ (List.mem_of_getElem? (i := 3) rfl)) e2 (g := (mkF m 13 #[iv p1] [])) rfl (hb hby d1_13) (by decide) (by decide)
  obtain ⟨b3, g3⟩ : ∃ z, z = h0.size := ⟨_, rfl⟩
  rw [← g3] at A3 D3 st3
  have gg3 : n0 ≤ b3 := Nat.le_trans Z0 (Nat.le_of_eq g3.symm)
  have sz3 : h0.size ≤ b3 := Nat.le_trans (Keep.refl h0 []).1 (Nat.le_of_eq g3.symm)
  have Fi3_value : Fld Z h3 b3 "java/lang/String" "value" "[B" .null := D3 (Or.inr (hw _ (List.mem_of_getElem? (i := 24) rfl))) (ty := (.array .byte)) (by decide)
  have Fi3_coder : Fld Z h3 b3 "java/lang/String" "coder" "B" (.int (0 : Int32)) := D3 (Or.inr (hw _ (List.mem_of_getElem? (i := 26) rfl))) (ty := .byte) (by decide)
  refine own_st st3 ?_
  show own_Go _ _ _ _ (T3.setTop (mkF m 16 #[iv p1] [(.ref b3)]))
  refine o_dup X3 hx (hb hby d1_16) rfl ?_
  refine o_iloadN X3 hx (hb hby d1_17) rfl ?_
  have Zs5 : n0 ≤ h3.size := (Nat.le_trans Z0 E3.1)
  obtain ⟨_, _, ⟨T4, L4, k4, n4⟩, -, X4, ⟨Lc4, hQ4, l4, y4, z4⟩, st4⟩ := Jvm.LawKit.callS X3 hx (y := (⟨"java/lang/StringLatin1", "toBytes", "(C)[B"⟩ : MethodName)) hown (mvT hZ (hw _ (List.mem_of_getElem? (i := 12) rfl))) (mvT hZ (hw _ (List.mem_of_getElem? (i := 13) rfl))) (mvT hZ (hw _ (List.mem_of_getElem? (i := 8) rfl))) (mvT hZ (hw _ (List.mem_of_getElem? (i := 14) rfl))) (by decide) (backOf (W := 2) (rm3 l Z a0 hw [] p1  h3 n0 Zs5) hZ (hw _ (List.mem_of_getElem? (i := 14) rfl)) (hw _ (List.mem_of_getElem? (i := 8) rfl)) (by decide) (by decide)) (g := (mkF m 18 #[iv p1] [(.int p1), (.ref b3), (.ref b3)])) rfl (by rw [hml]; rfl) (argsL := [(.int p1)]) (rest := [(.ref b3), (.ref b3)]) (lenOf pd_2 rfl) rfl (by show 2 * 0 + _ ≤ _; exact Nat.le_of_eq rfl) (hb hby d1_18) (fun _ _ => ⟨rfl, e3, (by decide : 1 + 1 ≤ _), (by decide : 4 + 1 ≤ _)⟩)
  dsimp only [Pt.U, Pt.locs, Pt.cells, Pt.slots] at X4 l4 y4 z4 st4 hQ4
  subst l4 y4 z4
  obtain ⟨b_4, rfl, Nq4, K4, gq4_b, sq4_b⟩ := hQ4
  have N4 := Fr.app N2 Nq4
  have Kp6 : Keep h0 h3 [] := ((Keep.refl h0 []).ext E3)
  have szq4_b : h0.size ≤ b_4 := Nat.le_trans Kp6.1 sq4_b
  refine own_st st4 ?_
  show own_Go _ _ _ _ (T4.setTop (mkF m 21 #[iv p1] [(.ref b_4), (.ref b3), (.ref b3)]))
  refine o_iconst X4 hx 0 (hb hby d1_21) rfl ?_
  have Fa8 := (A3.keep K4)
  have Fa9 := (Fi3_value.keep K4 nin0)
  have Fa10 := (Fi3_coder.keep K4 nin0)
  have Zs11 : n0 ≤ T4.heap.size := (Nat.le_trans Zs5 K4.1)
  obtain ⟨_, _, ⟨T7, L7, k7, n7⟩, -, X7, ⟨Lc7, hQ7, l7, y7, z7⟩, st7⟩ := X4.specialBack hx (y := (⟨"java/lang/String", "<init>", "([BB)V"⟩ : MethodName)) rfl hown (mvT hZ (hw _ (List.mem_of_getElem? (i := 16) rfl))) (mvT hZ (hw _ (List.mem_of_getElem? (i := 17) rfl))) (mvT hZ (hw _ (List.mem_of_getElem? (i := 19) rfl))) (by decide) (backOf (W := 1) (rm4 l Z a0 hw [] b3 b_4 (0 : Int32)  T4.heap n0 Zs11 Fa8 gg3 Fa9 Fa10) hZ (hw _ (List.mem_of_getElem? (i := 19) rfl)) (hw _ (List.mem_of_getElem? (i := 3) rfl)) (by decide) (by decide)) (g := (mkF m 22 #[iv p1] [(.int 0), (.ref b_4), (.ref b3), (.ref b3)])) rfl (by rw [hml]; rfl) (Steps.refl _) (a := b3) (argsL := [(.ref b_4), (.int 0)]) (rest := [(.ref b3)]) (lenOf pd_3 rfl) rfl (by show 2 * 0 + _ ≤ _; exact Nat.le_of_eq rfl) (hb hby d1_22) (fun _ _ => ⟨rfl, rfl, (by decide : 2 + 0 ≤ _), (by decide : 5 + 0 ≤ _)⟩)
  dsimp only [Pt.U, Pt.locs, Pt.cells, Pt.slots] at X7 l7 y7 z7 st7 hQ7
  subst l7 y7 z7
  obtain ⟨rfl, Nq7, K7, Fq7_0, Fq7_1⟩ := hQ7
  have N7 := Fr.app N4 Nq7
  refine own_tr st7 ?_
  show own_Go _ _ _ _ (T7.setTop (mkF m 25 #[iv p1] [(.ref b3)]))
  have Kp12 : Keep h0 T7.heap [] := ((Kp6.trans K4 all0).trans K7 (allS (Or.inr sz3) all0))
  exact own_end X7 rfl (v := some (.ref b3)) (fun h => by rw [Bd.returns] at h; cases h) hlk (fun fs hr => own_retA X7 hx Bd.returns rfl rfl (hb hby d1_25) hr) (Q := Q_rm1 Z a0 p1 w h0 n0) ⟨b3, rfl, N7, Kp12, gg3, sz3⟩ (by decide) (by decide)
theorem pn_7 : plainName "com/example/wire3/wire3/Indicator" = true := by first | (simp [plainName, overriddenIn]; done) | decide +kernel
theorem d7_0 : decode prog_10_method_1_code 0 = .ok (.aload_n 0, 1) := by decide +kernel
theorem d7_1 : decode prog_10_method_1_code 1 = .ok (.invokespecial 1, 3) := by decide +kernel
theorem d7_4 : decode prog_10_method_1_code 4 = .ok (.aload_n 0, 1) := by decide +kernel
theorem d7_5 : decode prog_10_method_1_code 5 = .ok (.lload_n 1, 1) := by decide +kernel
theorem d7_6 : decode prog_10_method_1_code 6 = .ok (.putfield 7, 3) := by decide +kernel
theorem d7_9 : decode prog_10_method_1_code 9 = .ok (.return_, 1) := by decide +kernel
theorem ef_rm7 (m : MethodId) (a1 : Addr) (q2 : Int64) : entryFrame m #[(.ref a1), (.long q2)] 3 = mkF m 0 #[rv a1, .val (.long q2), .second] [] := by first | (simp [entryFrame, mkF, argsToLocals, Value.category]; done) | rfl
def Q_rm7 (Z : State) (a0 : Array Value) (a1 : Addr) (q2 : Int64)  (h0 : Heap) (n0 : Nat) (v : Option Value) (h : Heap) (L : List Loc) : Prop := v = none ∧ Fr n0 L ∧ Keep h0 h [a1] ∧ Fld Z h a1 "com/example/wire3/wire3/Indicator" "bits" "J" (.long q2)
set_option maxRecDepth 65536 in
set_option maxHeartbeats 40000000 in
theorem rm7 (l : Launch) (Z : State) (a0 : Array Value) (hw : ∀ d ∈ tables_1, d.before a0 Z = true) (ws : List Jvm.Cond) (a1 : Addr) (q2 : Int64)  (h0 : Heap) (n0 : Nat) (Z0 : n0 ≤ h0.size) (E1 : Exa Z h0 a1 "com/example/wire3/wire3/Indicator") (g1 : n0 ≤ a1) (F0 : Fld Z h0 a1 "com/example/wire3/wire3/Indicator" "bits" "J" (.long (0 : Int64))) :
    MetFree l (⟨"com/example/wire3/wire3/Indicator", "<init>", "(J)V"⟩ : MethodName) (head1 (Jvm.Cond.code (⟨"com/example/wire3/wire3/Indicator", "<init>", "(J)V"⟩ : MethodName) prog_10_method_1_code 3 none :: ws) ({ frames := 1, cells := 0, slots := 0, locals := 12 } : Room)) (fun a U => a = #[(.ref a1), (.long q2)] ∧ Z.Warmed39 U.vm ∧ U.heap = h0) (fun _ _ _ _ _ => True) (fun _ U o U' => ∃ v L, o = .returned v ∧ Q_rm7 Z a0 a1 q2 h0 n0 v U'.heap L ∧ FrameEnd U o U' L ({ frames := 1, cells := 0, slots := 0, locals := 12 } : Room).cells ({ frames := 1, cells := 0, slots := 0, locals := 12 } : Room).slots) := by
  refine MetFree.of_bodySF (plainFor_of_name pn_7) hisR ?_
  intro p e s m args below meth c s₁ Bd hml0 hP hK
  obtain ⟨rfl, hZ, hh⟩ := hP
  have hx := Bd.exec
  have hby := Bd.bytes
  have hml : c.maxLocals = 3 := hml0
  have hown : s.vm.findClass "com/example/wire3/wire3/Indicator" = some m.cls := findClass_of_methodNamed Bd.named
  have hnm := (name_of_methodNamed Bd.named Bd.method).1
  have hlk : meth.locks = false := BodyLoose.notSynchronized (by assumption)
  have X0 : Stand p l e ({ frames := 1, cells := 0, slots := 0, locals := 12 } : Room) s m #[(.ref a1), (.long q2)] below meth c s₁ [] 0 0 := Stand.of_body Bd
  have e0 : s₁.heap = h0 := by rw [← hh, Bd.state]; rfl
  have N0 := Fr.nil n0
  show own_Go p.tables e below (fun o U' => ∃ v L, o = .returned v ∧ Q_rm7 Z a0 a1 q2 h0 n0 v U'.heap L ∧ FrameEnd s o U' L ({ frames := 1, cells := 0, slots := 0, locals := 12 } : Room).cells ({ frames := 1, cells := 0, slots := 0, locals := 12 } : Room).slots) (s₁.setTop (entryFrame m #[(.ref a1), (.long q2)] 3))
  refine own_st (fun t k => castTop (ef_rm7 m a1 q2) k) ?_
  show own_Go _ _ _ _ (s₁.setTop (mkF m 0 #[rv a1, .val (.long q2), .second] []))
  refine o_aloadN X0 hx (hb hby d7_0) rfl rfl ?_
  obtain ⟨T1, X1, e1, st1⟩ := initO X0 hx hZ hown (hw _ (List.mem_of_getElem? (i := 37) rfl)) (hw _ (List.mem_of_getElem? (i := 21) rfl)) (hw _ (List.mem_of_getElem? (i := 22) rfl)) e0 (g := (mkF m 1 #[rv a1, .val (.long q2), .second] [(.ref a1)])) rfl (by rw [hml]; rfl) rfl (hb hby d7_1) (by decide) (W := 0) (by show 2 * 0 + _ ≤ _; exact Nat.le_of_eq rfl) (by decide)
  refine own_st st1 ?_
  show own_Go _ _ _ _ (T1.setTop (mkF m 4 #[rv a1, .val (.long q2), .second] []))
  refine o_aloadN X1 hx (hb hby d7_4) rfl rfl ?_
  refine o_lloadN X1 hx (hb hby d7_5) rfl ?_
  obtain ⟨T2, h2, X2, e2, W2, st2⟩ := putF X1 hx hZ hown (host := "") (Or.inl (hw _ (List.mem_of_getElem? (i := 38) rfl))) Via.refl e1 F0 E1 (Or.inr ⟨(hw _ (List.mem_of_getElem? (i := 39) rfl)), rfl, hnm⟩) (hw _ (List.mem_of_getElem? (i := 33) rfl)) (ty := .long) (by decide) rfl rfl (g := (mkF m 6 #[rv a1, .val (.long q2), .second] [(.long q2), (.ref a1)])) rfl rfl (hb hby d7_6)
  refine own_st st2 ?_
  have N2 := Fr.snoc X2 N0 g1
  show own_Go _ _ _ _ (T2.setTop (mkF m 9 #[rv a1, .val (.long q2), .second] []))
  have Kp3 : Keep h0 h2 [a1] := ((Keep.refl h0 [a1]).wr W2 (Or.inl (List.mem_of_getElem? (i := 0) rfl)))
  have Fa4 := (F0.same W2)
  exact own_end X2 e2 (v := none) (fun _ => rfl) hlk (fun fs hr => X2.returnOut hx Bd.returns (hb hby d7_9) hr) (Q := Q_rm7 Z a0 a1 q2 h0 n0) ⟨rfl, N2, Kp3, Fa4⟩ (by decide) (by decide)
theorem d8_0 : decode prog_10_method_5_code 0 = .ok (.aload_n 0, 1) := by decide +kernel
theorem d8_1 : decode prog_10_method_5_code 1 = .ok (.getfield 7, 3) := by decide +kernel
theorem d8_4 : decode prog_10_method_5_code 4 = .ok (.lreturn, 1) := by decide +kernel
theorem ef_rm8 (m : MethodId) (a1 : Addr) : entryFrame m #[(.ref a1)] 1 = mkF m 0 #[rv a1] [] := by first | (simp [entryFrame, mkF, argsToLocals, Value.category]; done) | rfl
def Q_rm8 (Z : State) (a0 : Array Value) (a1 : Addr) (w1 : Int64) (h0 : Heap) (n0 : Nat) (v : Option Value) (h : Heap) (L : List Loc) : Prop := v = some (.long w1) ∧ Fr n0 L ∧ h = h0
set_option maxRecDepth 65536 in
set_option maxHeartbeats 40000000 in
theorem rm8 (l : Launch) (Z : State) (a0 : Array Value) (hw : ∀ d ∈ tables_1, d.before a0 Z = true) (ws : List Jvm.Cond) (a1 : Addr) (w1 : Int64) (h0 : Heap) (n0 : Nat) (Z0 : n0 ≤ h0.size) (F1 : Fld Z h0 a1 "com/example/wire3/wire3/Indicator" "bits" "J" (.long w1)) :
    MetFree l (⟨"com/example/wire3/wire3/Indicator", "bits", "()J"⟩ : MethodName) (head1 (Jvm.Cond.code (⟨"com/example/wire3/wire3/Indicator", "bits", "()J"⟩ : MethodName) prog_10_method_5_code 1 (some .long) :: ws) ({ frames := 0, cells := 0, slots := 0, locals := 0 } : Room)) (fun a U => a = #[(.ref a1)] ∧ Z.Warmed39 U.vm ∧ U.heap = h0) (fun _ _ _ _ _ => True) (fun _ U o U' => ∃ v L, o = .returned v ∧ Q_rm8 Z a0 a1 w1 h0 n0 v U'.heap L ∧ FrameEnd U o U' L ({ frames := 0, cells := 0, slots := 0, locals := 0 } : Room).cells ({ frames := 0, cells := 0, slots := 0, locals := 0 } : Room).slots) := by
  refine MetFree.of_bodySF (plainFor_of_name pn_7) hisR ?_
  intro p e s m args below meth c s₁ Bd hml0 hP hK
  obtain ⟨rfl, hZ, hh⟩ := hP
  have hx := Bd.exec
  have hby := Bd.bytes
  have hml : c.maxLocals = 1 := hml0
  have hown : s.vm.findClass "com/example/wire3/wire3/Indicator" = some m.cls := findClass_of_methodNamed Bd.named
  have hnm := (name_of_methodNamed Bd.named Bd.method).1
  have hlk : meth.locks = false := BodyLoose.notSynchronized (by assumption)
  have X0 : Stand p l e ({ frames := 0, cells := 0, slots := 0, locals := 0 } : Room) s m #[(.ref a1)] below meth c s₁ [] 0 0 := Stand.of_body Bd
  have e0 : s₁.heap = h0 := by rw [← hh, Bd.state]; rfl
  have N0 := Fr.nil n0
  show own_Go p.tables e below (fun o U' => ∃ v L, o = .returned v ∧ Q_rm8 Z a0 a1 w1 h0 n0 v U'.heap L ∧ FrameEnd s o U' L ({ frames := 0, cells := 0, slots := 0, locals := 0 } : Room).cells ({ frames := 0, cells := 0, slots := 0, locals := 0 } : Room).slots) (s₁.setTop (entryFrame m #[(.ref a1)] 1))
  refine own_st (fun t k => castTop (ef_rm8 m a1) k) ?_
  have hv : w1 = w1 := rfl
  show own_Go _ _ _ _ (s₁.setTop (mkF m 0 #[rv a1] []))
  refine o_aloadN X0 hx (hb hby d8_0) rfl rfl ?_
  obtain ⟨T1, X1, e1, st1⟩ := getF X0 hx hZ hown (host := "") (Or.inl (hw _ (List.mem_of_getElem? (i := 38) rfl))) Via.refl e0 F1 (g := (mkF m 1 #[rv a1] [(.ref a1)])) rfl rfl (hb hby d8_1)
  refine own_st st1 ?_
  show own_Go _ _ _ _ (T1.setTop (mkF m 4 #[rv a1] [(.long w1)]))
  exact own_end X1 e1 (v := some (.long w1)) (fun h => by rw [Bd.returns] at h; cases h) hlk (fun fs hr => X1.lreturnOut hx Bd.returns (hb hby d8_4) hr) (Q := Q_rm8 Z a0 a1 w1 h0 n0) ⟨(congrArg (fun z => some (Value.long z)) hv.symm), N0, rfl⟩ (by decide) (by decide)
theorem d6_0 : decode prog_10_method_4_code 0 = .ok (.lload_n 0, 1) := by decide +kernel
theorem d6_1 : decode prog_10_method_4_code 1 = .ok (.lconst 0, 1) := by decide +kernel
theorem d6_2 : decode prog_10_method_4_code 2 = .ok (.lcmp, 1) := by decide +kernel
theorem d6_3 : decode prog_10_method_4_code 3 = .ok (.ifCond .ne 14, 3) := by decide +kernel
theorem d6_17 : decode prog_10_method_4_code 17 = .ok (.lload_n 0, 1) := by decide +kernel
theorem d6_18 : decode prog_10_method_4_code 18 = .ok (.lconst 0, 1) := by decide +kernel
theorem d6_19 : decode prog_10_method_4_code 19 = .ok (.lcmp, 1) := by decide +kernel
theorem d6_20 : decode prog_10_method_4_code 20 = .ok (.ifCond .lt 11, 3) := by decide +kernel
theorem d6_23 : decode prog_10_method_4_code 23 = .ok (.lload_n 0, 1) := by decide +kernel
theorem d6_24 : decode prog_10_method_4_code 24 = .ok (.ldc2_w 33, 3) := by decide +kernel
theorem d6_27 : decode prog_10_method_4_code 27 = .ok (.lcmp, 1) := by decide +kernel
theorem d6_28 : decode prog_10_method_4_code 28 = .ok (.ifCond .le 18, 3) := by decide +kernel
theorem d6_46 : decode prog_10_method_4_code 46 = .ok (.new 8, 3) := by decide +kernel
theorem d6_49 : decode prog_10_method_4_code 49 = .ok (.dup, 1) := by decide +kernel
theorem d6_50 : decode prog_10_method_4_code 50 = .ok (.lload_n 0, 1) := by decide +kernel
theorem d6_51 : decode prog_10_method_4_code 51 = .ok (.invokespecial 23, 3) := by decide +kernel
theorem pd_4 : parseMethodDescriptor "(J)V" = some ⟨[.long], none⟩ := by decide +kernel
theorem d6_54 : decode prog_10_method_4_code 54 = .ok (.areturn, 1) := by decide +kernel
theorem ef_rmck0 (m : MethodId) (q1 : Int64) (a2 : Addr) : entryFrame m #[(.long q1), (.ref a2)] 3 = mkF m 0 #[.val (.long q1), .second, rv a2] [] := by first | (simp [entryFrame, mkF, argsToLocals, Value.category]; done) | rfl
def Q_rmck0 (Z : State) (a0 : Array Value) (q1 : Int64) (a2 : Addr)  (h0 : Heap) (n0 : Nat) (v : Option Value) (h : Heap) (L : List Loc) : Prop := ∃ b : Addr, v = some (.ref b) ∧ Fr n0 L ∧ Keep h0 h [] ∧ n0 ≤ b ∧ h0.size ≤ b ∧ Exa Z h b "com/example/wire3/wire3/Indicator" ∧ Fld Z h b "com/example/wire3/wire3/Indicator" "bits" "J" (.long q1)
set_option maxRecDepth 65536 in
set_option maxHeartbeats 40000000 in
theorem rmck0 (l : Launch) (Z : State) (a0 : Array Value) (hw : ∀ d ∈ tables_1, d.before a0 Z = true) (ws : List Jvm.Cond) (q1 : Int64) (a2 : Addr)  (h0 : Heap) (n0 : Nat) (Z0 : n0 ≤ h0.size) (hb0 : ¬ q1 = (0 : Int64)) (hb1 : ¬ q1 < (0 : Int64)) (hb2 : ¬ (4294967295 : Int64) < q1) :
    MetFree l (⟨"com/example/wire3/wire3/Indicator", "checked", "(JLjava/lang/String;)Lcom/example/wire3/wire3/Indicator;"⟩ : MethodName) (head1 (Jvm.Cond.code (⟨"com/example/wire3/wire3/Indicator", "checked", "(JLjava/lang/String;)Lcom/example/wire3/wire3/Indicator;"⟩ : MethodName) prog_10_method_4_code 3 (some (.object "com/example/wire3/wire3/Indicator")) :: ws) ({ frames := 2, cells := 1, slots := 1, locals := 27 } : Room)) (fun a U => a = #[(.long q1), (.ref a2)] ∧ Z.Warmed39 U.vm ∧ U.heap = h0) (fun _ _ _ _ _ => True) (fun _ U o U' => ∃ v L, o = .returned v ∧ Q_rmck0 Z a0 q1 a2 h0 n0 v U'.heap L ∧ FrameEnd U o U' L ({ frames := 2, cells := 1, slots := 1, locals := 27 } : Room).cells ({ frames := 2, cells := 1, slots := 1, locals := 27 } : Room).slots) := by
  refine MetFree.of_bodySF (plainFor_of_name pn_7) hisR ?_
  intro p e s m args below meth c s₁ Bd hml0 hP hK
  obtain ⟨rfl, hZ, hh⟩ := hP
  have hx := Bd.exec
  have hby := Bd.bytes
  have hml : c.maxLocals = 3 := hml0
  have hown : s.vm.findClass "com/example/wire3/wire3/Indicator" = some m.cls := findClass_of_methodNamed Bd.named
  have hnm := (name_of_methodNamed Bd.named Bd.method).1
  have hlk : meth.locks = false := BodyLoose.notSynchronized (by assumption)
  have X0 : Stand p l e ({ frames := 2, cells := 1, slots := 1, locals := 27 } : Room) s m #[(.long q1), (.ref a2)] below meth c s₁ [] 0 0 := Stand.of_body Bd
  have e0 : s₁.heap = h0 := by rw [← hh, Bd.state]; rfl
  have N0 := Fr.nil n0
  show own_Go p.tables e below (fun o U' => ∃ v L, o = .returned v ∧ Q_rmck0 Z a0 q1 a2 h0 n0 v U'.heap L ∧ FrameEnd s o U' L ({ frames := 2, cells := 1, slots := 1, locals := 27 } : Room).cells ({ frames := 2, cells := 1, slots := 1, locals := 27 } : Room).slots) (s₁.setTop (entryFrame m #[(.long q1), (.ref a2)] 3))
  refine own_st (fun t k => castTop (ef_rmck0 m q1 a2) k) ?_
  show own_Go _ _ _ _ (s₁.setTop (mkF m 0 #[.val (.long q1), .second, rv a2] []))
  refine o_lloadN X0 hx (hb hby d6_0) rfl ?_
  refine o_lconst X0 hx 0 (hb hby d6_1) rfl ?_
  refine o_lcmp X0 hx (hb hby d6_2) ?_
  refine o_ifYes X0 hx (pc' := 17) (hb hby d6_3) (feq (fun h => hb0 ((lw_eq _ _).mp h))).2 (by decide) (by decide) ?_
  refine o_lloadN X0 hx (hb hby d6_17) rfl ?_
  refine o_lconst X0 hx 0 (hb hby d6_18) rfl ?_
  refine o_lcmp X0 hx (hb hby d6_19) ?_
  refine o_ifNo X0 hx (hb hby d6_20) (flt (fun h => hb1 ((lw_lt _ _).mp h))).1 ?_
  refine o_lloadN X0 hx (hb hby d6_23) rfl ?_
  refine o_ldc2 X0 hx hown (hb hby d6_24) (mvT hZ (hw _ (List.mem_of_getElem? (i := 31) rfl))) ?_
  refine o_lcmp X0 hx (hb hby d6_27) ?_
  refine o_ifYes X0 hx (pc' := 46) (hb hby d6_28) (flt (fun h => hb2 ((lw_gt _ _).mp h))).2.2.2 (by decide) (by decide) ?_
  obtain ⟨T1, h1, X1, e1, E1, A1, D1, -, st1⟩ := newO X0 hx hZ hown (hw _ (List.mem_of_getElem? (i := 32) rfl)) (hw _ (List.mem_of_getElem? (i := 33) rfl)) (hw _ (List.mem_of_getElem? (i := 29) rfl)) e0 (g := (mkF m 46 #[.val (.long q1), .second, rv a2] [])) rfl (hb hby d6_46) (by decide) (by decide)
  obtain ⟨b1, g1⟩ : ∃ z, z = h0.size := ⟨_, rfl⟩
  rw [← g1] at A1 D1 st1
  have gg1 : n0 ≤ b1 := Nat.le_trans Z0 (Nat.le_of_eq g1.symm)
  have sz1 : h0.size ≤ b1 := Nat.le_trans (Keep.refl h0 []).1 (Nat.le_of_eq g1.symm)
  have Fi1_bits : Fld Z h1 b1 "com/example/wire3/wire3/Indicator" "bits" "J" (.long (0 : Int64)) := D1 (Or.inr (hw _ (List.mem_of_getElem? (i := 39) rfl))) (ty := .long) (by decide)
  refine own_st st1 ?_
  show own_Go _ _ _ _ (T1.setTop (mkF m 49 #[.val (.long q1), .second, rv a2] [(.ref b1)]))
  refine o_dup X1 hx (hb hby d6_49) rfl ?_
  refine o_lloadN X1 hx (hb hby d6_50) rfl ?_
  have Zs3 : n0 ≤ h1.size := (Nat.le_trans Z0 E1.1)
  obtain ⟨_, _, ⟨T2, L2, k2, n2⟩, -, X2, ⟨Lc2, hQ2, l2, y2, z2⟩, st2⟩ := X1.specialBack hx (y := (⟨"com/example/wire3/wire3/Indicator", "<init>", "(J)V"⟩ : MethodName)) rfl hown (mvT hZ (hw _ (List.mem_of_getElem? (i := 34) rfl))) (mvT hZ (hw _ (List.mem_of_getElem? (i := 35) rfl))) (mvT hZ (hw _ (List.mem_of_getElem? (i := 36) rfl))) (by decide) (backOf (W := 1) (rm7 l Z a0 hw [] b1 q1  h1 n0 Zs3 A1 gg1 Fi1_bits) hZ (hw _ (List.mem_of_getElem? (i := 36) rfl)) (hw _ (List.mem_of_getElem? (i := 29) rfl)) (by decide) (by decide)) (g := (mkF m 51 #[.val (.long q1), .second, rv a2] [(.long q1), (.ref b1), (.ref b1)])) rfl (by rw [hml]; rfl) (Steps.refl _) (a := b1) (argsL := [(.long q1)]) (rest := [(.ref b1)]) (lenOf pd_4 rfl) rfl (by show 2 * 0 + _ ≤ _; exact Nat.le_of_eq rfl) (hb hby d6_51) (fun _ _ => ⟨rfl, e1, (by decide : 1 + 0 ≤ _), (by decide : 1 + 0 ≤ _)⟩)
  dsimp only [Pt.U, Pt.locs, Pt.cells, Pt.slots] at X2 l2 y2 z2 st2 hQ2
  subst l2 y2 z2
  obtain ⟨rfl, Nq2, K2, Fq2_0⟩ := hQ2
  have N2 := Fr.app N0 Nq2
  refine own_tr st2 ?_
  show own_Go _ _ _ _ (T2.setTop (mkF m 54 #[.val (.long q1), .second, rv a2] [(.ref b1)]))
  have Kp4 : Keep h0 T2.heap [] := (((Keep.refl h0 []).ext E1).trans K2 (allS (Or.inr sz1) all0))
  have Fa5 := (A1.keep K2)
  exact own_end X2 rfl (v := some (.ref b1)) (fun h => by rw [Bd.returns] at h; cases h) hlk (fun fs hr => own_retA X2 hx Bd.returns rfl rfl (hb hby d6_54) hr) (Q := Q_rmck0 Z a0 q1 a2 h0 n0) ⟨b1, rfl, N2, Kp4, gg1, sz1, Fa5, Fq2_0⟩ (by decide) (by decide)
theorem ef_rmck1 (m : MethodId) (q1 : Int64) : entryFrame m #[(.long q1), .null] 3 = mkF m 0 #[.val (.long q1), .second, .val .null] [] := by first | (simp [entryFrame, mkF, argsToLocals, Value.category]; done) | rfl
def Q_rmck1 (Z : State) (a0 : Array Value) (q1 : Int64)  (h0 : Heap) (n0 : Nat) (v : Option Value) (h : Heap) (L : List Loc) : Prop := ∃ b : Addr, v = some (.ref b) ∧ Fr n0 L ∧ Keep h0 h [] ∧ n0 ≤ b ∧ h0.size ≤ b ∧ Exa Z h b "com/example/wire3/wire3/Indicator" ∧ Fld Z h b "com/example/wire3/wire3/Indicator" "bits" "J" (.long q1)
set_option maxRecDepth 65536 in
set_option maxHeartbeats 40000000 in
theorem rmck1 (l : Launch) (Z : State) (a0 : Array Value) (hw : ∀ d ∈ tables_1, d.before a0 Z = true) (ws : List Jvm.Cond) (q1 : Int64)  (h0 : Heap) (n0 : Nat) (Z0 : n0 ≤ h0.size) (hb0 : ¬ q1 = (0 : Int64)) (hb1 : ¬ q1 < (0 : Int64)) (hb2 : ¬ (4294967295 : Int64) < q1) :
    MetFree l (⟨"com/example/wire3/wire3/Indicator", "checked", "(JLjava/lang/String;)Lcom/example/wire3/wire3/Indicator;"⟩ : MethodName) (head1 (Jvm.Cond.code (⟨"com/example/wire3/wire3/Indicator", "checked", "(JLjava/lang/String;)Lcom/example/wire3/wire3/Indicator;"⟩ : MethodName) prog_10_method_4_code 3 (some (.object "com/example/wire3/wire3/Indicator")) :: ws) ({ frames := 2, cells := 1, slots := 1, locals := 27 } : Room)) (fun a U => a = #[(.long q1), .null] ∧ Z.Warmed39 U.vm ∧ U.heap = h0) (fun _ _ _ _ _ => True) (fun _ U o U' => ∃ v L, o = .returned v ∧ Q_rmck1 Z a0 q1 h0 n0 v U'.heap L ∧ FrameEnd U o U' L ({ frames := 2, cells := 1, slots := 1, locals := 27 } : Room).cells ({ frames := 2, cells := 1, slots := 1, locals := 27 } : Room).slots) := by
  refine MetFree.of_bodySF (plainFor_of_name pn_7) hisR ?_
  intro p e s m args below meth c s₁ Bd hml0 hP hK
  obtain ⟨rfl, hZ, hh⟩ := hP
  have hx := Bd.exec
  have hby := Bd.bytes
  have hml : c.maxLocals = 3 := hml0
  have hown : s.vm.findClass "com/example/wire3/wire3/Indicator" = some m.cls := findClass_of_methodNamed Bd.named
  have hnm := (name_of_methodNamed Bd.named Bd.method).1
  have hlk : meth.locks = false := BodyLoose.notSynchronized (by assumption)
  have X0 : Stand p l e ({ frames := 2, cells := 1, slots := 1, locals := 27 } : Room) s m #[(.long q1), .null] below meth c s₁ [] 0 0 := Stand.of_body Bd
  have e0 : s₁.heap = h0 := by rw [← hh, Bd.state]; rfl
  have N0 := Fr.nil n0
  show own_Go p.tables e below (fun o U' => ∃ v L, o = .returned v ∧ Q_rmck1 Z a0 q1 h0 n0 v U'.heap L ∧ FrameEnd s o U' L ({ frames := 2, cells := 1, slots := 1, locals := 27 } : Room).cells ({ frames := 2, cells := 1, slots := 1, locals := 27 } : Room).slots) (s₁.setTop (entryFrame m #[(.long q1), .null] 3))
  refine own_st (fun t k => castTop (ef_rmck1 m q1) k) ?_
  show own_Go _ _ _ _ (s₁.setTop (mkF m 0 #[.val (.long q1), .second, .val .null] []))
  refine o_lloadN X0 hx (hb hby d6_0) rfl ?_
  refine o_lconst X0 hx 0 (hb hby d6_1) rfl ?_
  refine o_lcmp X0 hx (hb hby d6_2) ?_
  refine o_ifYes X0 hx (pc' := 17) (hb hby d6_3) (feq (fun h => hb0 ((lw_eq _ _).mp h))).2 (by decide) (by decide) ?_
  refine o_lloadN X0 hx (hb hby d6_17) rfl ?_
  refine o_lconst X0 hx 0 (hb hby d6_18) rfl ?_
  refine o_lcmp X0 hx (hb hby d6_19) ?_
  refine o_ifNo X0 hx (hb hby d6_20) (flt (fun h => hb1 ((lw_lt _ _).mp h))).1 ?_
  refine o_lloadN X0 hx (hb hby d6_23) rfl ?_
  refine o_ldc2 X0 hx hown (hb hby d6_24) (mvT hZ (hw _ (List.mem_of_getElem? (i := 31) rfl))) ?_
  refine o_lcmp X0 hx (hb hby d6_27) ?_
  refine o_ifYes X0 hx (pc' := 46) (hb hby d6_28) (flt (fun h => hb2 ((lw_gt _ _).mp h))).2.2.2 (by decide) (by decide) ?_
  obtain ⟨T1, h1, X1, e1, E1, A1, D1, -, st1⟩ := newO X0 hx hZ hown (hw _ (List.mem_of_getElem? (i := 32) rfl)) (hw _ (List.mem_of_getElem? (i := 33) rfl)) (hw _ (List.mem_of_getElem? (i := 29) rfl)) e0 (g := (mkF m 46 #[.val (.long q1), .second, .val .null] [])) rfl (hb hby d6_46) (by decide) (by decide)
  obtain ⟨b1, g1⟩ : ∃ z, z = h0.size := ⟨_, rfl⟩
  rw [← g1] at A1 D1 st1
  have gg1 : n0 ≤ b1 := Nat.le_trans Z0 (Nat.le_of_eq g1.symm)
  have sz1 : h0.size ≤ b1 := Nat.le_trans (Keep.refl h0 []).1 (Nat.le_of_eq g1.symm)
  have Fi1_bits : Fld Z h1 b1 "com/example/wire3/wire3/Indicator" "bits" "J" (.long (0 : Int64)) := D1 (Or.inr (hw _ (List.mem_of_getElem? (i := 39) rfl))) (ty := .long) (by decide)
  refine own_st st1 ?_
  show own_Go _ _ _ _ (T1.setTop (mkF m 49 #[.val (.long q1), .second, .val .null] [(.ref b1)]))
  refine o_dup X1 hx (hb hby d6_49) rfl ?_
  refine o_lloadN X1 hx (hb hby d6_50) rfl ?_
  have Zs3 : n0 ≤ h1.size := (Nat.le_trans Z0 E1.1)
  obtain ⟨_, _, ⟨T2, L2, k2, n2⟩, -, X2, ⟨Lc2, hQ2, l2, y2, z2⟩, st2⟩ := X1.specialBack hx (y := (⟨"com/example/wire3/wire3/Indicator", "<init>", "(J)V"⟩ : MethodName)) rfl hown (mvT hZ (hw _ (List.mem_of_getElem? (i := 34) rfl))) (mvT hZ (hw _ (List.mem_of_getElem? (i := 35) rfl))) (mvT hZ (hw _ (List.mem_of_getElem? (i := 36) rfl))) (by decide) (backOf (W := 1) (rm7 l Z a0 hw [] b1 q1  h1 n0 Zs3 A1 gg1 Fi1_bits) hZ (hw _ (List.mem_of_getElem? (i := 36) rfl)) (hw _ (List.mem_of_getElem? (i := 29) rfl)) (by decide) (by decide)) (g := (mkF m 51 #[.val (.long q1), .second, .val .null] [(.long q1), (.ref b1), (.ref b1)])) rfl (by rw [hml]; rfl) (Steps.refl _) (a := b1) (argsL := [(.long q1)]) (rest := [(.ref b1)]) (lenOf pd_4 rfl) rfl (by show 2 * 0 + _ ≤ _; exact Nat.le_of_eq rfl) (hb hby d6_51) (fun _ _ => ⟨rfl, e1, (by decide : 1 + 0 ≤ _), (by decide : 1 + 0 ≤ _)⟩)
  dsimp only [Pt.U, Pt.locs, Pt.cells, Pt.slots] at X2 l2 y2 z2 st2 hQ2
  subst l2 y2 z2
  obtain ⟨rfl, Nq2, K2, Fq2_0⟩ := hQ2
  have N2 := Fr.app N0 Nq2
  refine own_tr st2 ?_
  show own_Go _ _ _ _ (T2.setTop (mkF m 54 #[.val (.long q1), .second, .val .null] [(.ref b1)]))
  have Kp4 : Keep h0 T2.heap [] := (((Keep.refl h0 []).ext E1).trans K2 (allS (Or.inr sz1) all0))
  have Fa5 := (A1.keep K2)
  exact own_end X2 rfl (v := some (.ref b1)) (fun h => by rw [Bd.returns] at h; cases h) hlk (fun fs hr => own_retA X2 hx Bd.returns rfl rfl (hb hby d6_54) hr) (Q := Q_rmck1 Z a0 q1 h0 n0) ⟨b1, rfl, N2, Kp4, gg1, sz1, Fa5, Fq2_0⟩ (by decide) (by decide)
theorem own_m32 (x : Int64) : ¬ (x &&& (4294967295 : Int64)) < (0 : Int64) ∧ ¬ (4294967295 : Int64) < (x &&& (4294967295 : Int64)) := by
  have h := c_maskL x (4294967295 : Int64) 32 (by decide) rfl
  have e : (4294967295 : Int64).toInt = 4294967295 := rfl
  have z : (0 : Int64).toInt = 0 := rfl
  rw [Int64.lt_iff_toInt_lt, Int64.lt_iff_toInt_lt, h, e, z]
  omega
theorem own_m8 (x : Int32) : ¬ (255 : Int32) < ((x &&& (255 : Int32)).toUInt32.toUInt16.toUInt32.toInt32) := by
  rw [i2c_mask, Int32.lt_iff_toInt_lt]
  have h := c_and x (255 : Int32) (by decide)
  omega
theorem pn_0 : plainName "com/example/wire3/wire3/IndicatorCheckedPinLaw" = true := by first | (simp [plainName, overriddenIn]; done) | decide +kernel
theorem pd_5 : parseMethodDescriptor "(C)Ljava/lang/String;" = some ⟨[.char], some (.object "java/lang/String")⟩ := by decide +kernel
theorem pd_6 : parseMethodDescriptor "(JLjava/lang/String;)Lcom/example/wire3/wire3/Indicator;" = some ⟨[.long, (.object "java/lang/String")], some (.object "com/example/wire3/wire3/Indicator")⟩ := by decide +kernel
theorem pd_7 : parseMethodDescriptor "()J" = some ⟨[], some .long⟩ := by decide +kernel
theorem ef_rm0 (m : MethodId) (q1 : Int64) (p2 : Int32) : entryFrame m #[(.long q1), (.int p2)] maxLocals = mkF m 0 #[.val (.long q1), .second, iv p2, .unset, .unset, .unset, .unset] [] := by first | (simp [entryFrame, mkF, argsToLocals, Value.category, maxLocals]; done) | rfl
def Q_rm0 (Z : State) (a0 : Array Value) (q1 : Int64) (p2 : Int32) (w : Int32) (h0 : Heap) (n0 : Nat) (v : Option Value) (h : Heap) (L : List Loc) : Prop := v = some (.int (1 : Int32)) ∧ Fr n0 L ∧ Keep h0 h []
set_option maxRecDepth 65536 in
set_option maxHeartbeats 40000000 in
theorem rm0 (l : Launch) (Z : State) (a0 : Array Value) (hw : ∀ d ∈ tables_1, d.before a0 Z = true) (ws : List Jvm.Cond) (q1 : Int64) (p2 : Int32) (w : Int32) (h0 : Heap) (n0 : Nat) (Z0 : n0 ≤ h0.size) (S1 : Sta Z h0 "java/lang/String" "COMPACT_STRINGS" "Z" (.int w)) (hw0 : ¬ w = (0 : Int32)) :
    MetFree l x (head1 (Jvm.Cond.code x code maxLocals ret :: ws) room_1) (fun a U => a = #[(.long q1), (.int p2)] ∧ Z.Warmed39 U.vm ∧ U.heap = h0) (fun _ _ _ _ _ => True) (fun _ U o U' => ∃ v L, o = .returned v ∧ Q_rm0 Z a0 q1 p2 w h0 n0 v U'.heap L ∧ FrameEnd U o U' L room_1.cells room_1.slots) := by
  refine MetFree.of_bodySF (plainFor_of_name pn_0) hisR ?_
  intro p e s m args below meth c s₁ Bd hml0 hP hK
  obtain ⟨rfl, hZ, hh⟩ := hP
  have hx := Bd.exec
  have hby := Bd.bytes
  have hml : c.maxLocals = 7 := hml0
  have hown : s.vm.findClass "com/example/wire3/wire3/IndicatorCheckedPinLaw" = some m.cls := findClass_of_methodNamed Bd.named
  have hnm := (name_of_methodNamed Bd.named Bd.method).1
  have hlk : meth.locks = false := BodyLoose.notSynchronized (by assumption)
  have X0 : Stand p l e room_1 s m #[(.long q1), (.int p2)] below meth c s₁ [] 0 0 := Stand.of_body Bd
  have e0 : s₁.heap = h0 := by rw [← hh, Bd.state]; rfl
  have N0 := Fr.nil n0
  show own_Go p.tables e below (fun o U' => ∃ v L, o = .returned v ∧ Q_rm0 Z a0 q1 p2 w h0 n0 v U'.heap L ∧ FrameEnd s o U' L room_1.cells room_1.slots) (s₁.setTop (entryFrame m #[(.long q1), (.int p2)] maxLocals))
  refine own_st (fun t k => castTop (ef_rm0 m q1 p2) k) ?_
  show own_Go _ _ _ _ (s₁.setTop (mkF m 0 #[.val (.long q1), .second, iv p2, .unset, .unset, .unset, .unset] []))
  refine o_lloadN X0 hx (hb hby at_0) rfl ?_
  refine o_ldc2 X0 hx hown (hb hby at_1) (mvT hZ (hw _ (List.mem_of_getElem? (i := 0) rfl))) ?_
  refine o_land X0 hx (hb hby at_4) ?_
  refine o_lstoreN X0 hx (hb hby at_5) (l' := #[.val (.long q1), .second, iv p2, .val (.long (q1 &&& (4294967295 : Int64))), .second, .unset, .unset]) rfl ?_
  refine o_lloadN X0 hx (hb hby at_6) rfl ?_
  refine o_lconst X0 hx 0 (hb hby at_7) rfl ?_
  refine o_lcmp X0 hx (hb hby at_8) ?_
  by_cases hc9_1 : (lcmpW (q1 &&& (4294967295 : Int64)) (0 : Int64)) = (0 : Int32)
  · refine o_ifNo X0 hx (hb hby at_9) (teq hc9_1).2 ?_
    refine o_lconst X0 hx 1 (hb hby at_12) rfl ?_
    refine o_lstoreN X0 hx (hb hby at_13) (l' := #[.val (.long q1), .second, iv p2, .val (.long 1), .second, .unset, .unset]) rfl ?_
    refine o_iloadN X0 hx (hb hby at_14) rfl ?_
    refine o_iconst X0 hx 1 (hb hby at_15) rfl ?_
    refine o_iand X0 hx (hb hby at_16) ?_
    by_cases hc17_2 : (p2 &&& (1 : Int32)) = (0 : Int32)
    · refine o_ifYes X0 hx (pc' := 24) (hb hby at_17) (teq hc17_2).1 (by decide) (by decide) ?_
      refine o_iloadN X0 hx (hb hby at_24) rfl ?_
      refine o_iconst X0 hx 1 (hb hby at_25) rfl ?_
      refine o_iushr X0 hx (hb hby at_26) ?_
      refine o_sipush X0 hx 255 (hb hby at_27) rfl ?_
      refine o_iand X0 hx (hb hby at_30) ?_
      refine o_i2c X0 hx (hb hby at_31) ?_
      obtain ⟨_, _, ⟨T3, L3, k3, n3⟩, -, X3, ⟨Lc3, hQ3, l3, y3, z3⟩, st3⟩ := Jvm.LawKit.callS X0 hx (y := (⟨"java/lang/String", "valueOf", "(C)Ljava/lang/String;"⟩ : MethodName)) hown (mvT hZ (hw _ (List.mem_of_getElem? (i := 1) rfl))) (mvT hZ (hw _ (List.mem_of_getElem? (i := 2) rfl))) (mvT hZ (hw _ (List.mem_of_getElem? (i := 3) rfl))) (mvT hZ (hw _ (List.mem_of_getElem? (i := 4) rfl))) (by decide) (backOf (W := 0) (rm1 l Z a0 hw [] ((((p2.toUInt32 >>> ((1 : Int32) &&& 31).toUInt32).toInt32) &&& (255 : Int32)).toUInt32.toUInt16.toUInt32.toInt32) w h0 n0 Z0 S1 hw0 (own_m8 _)) hZ (hw _ (List.mem_of_getElem? (i := 4) rfl)) (hw _ (List.mem_of_getElem? (i := 3) rfl)) (by decide) (by decide)) (g := (mkF m 32 #[.val (.long q1), .second, iv p2, .val (.long 1), .second, .unset, .unset] [(.int ((((p2.toUInt32 >>> ((1 : Int32) &&& 31).toUInt32).toInt32) &&& (255 : Int32)).toUInt32.toUInt16.toUInt32.toInt32))])) rfl (by rw [hml]; rfl) (argsL := [(.int ((((p2.toUInt32 >>> ((1 : Int32) &&& 31).toUInt32).toInt32) &&& (255 : Int32)).toUInt32.toUInt16.toUInt32.toInt32))]) (rest := []) (lenOf pd_5 rfl) rfl (by show 2 * 0 + _ ≤ _; exact Nat.le_of_eq rfl) (hb hby at_32) (fun _ _ => ⟨rfl, e0, (by decide : 0 + 2 ≤ _), (by decide : 0 + 5 ≤ _)⟩)
      dsimp only [Pt.U, Pt.locs, Pt.cells, Pt.slots] at X3 l3 y3 z3 st3 hQ3
      subst l3 y3 z3
      obtain ⟨b_3, rfl, Nq3, K3, gq3_b, sq3_b⟩ := hQ3
      have N3 := Fr.app N0 Nq3
      have szq3_b : h0.size ≤ b_3 := Nat.le_trans (Keep.refl h0 []).1 sq3_b
      refine own_st st3 ?_
      show own_Go _ _ _ _ (T3.setTop (mkF m 35 #[.val (.long q1), .second, iv p2, .val (.long 1), .second, .unset, .unset] [(.ref b_3)]))
      refine o_astore X3 hx (hb hby at_35) rfl (l' := #[.val (.long q1), .second, iv p2, .val (.long 1), .second, rv b_3, .unset]) rfl ?_
      refine o_lloadN X3 hx (hb hby at_37) rfl ?_
      refine o_aload X3 hx (hb hby at_38) rfl rfl ?_
      have Zs5 : n0 ≤ T3.heap.size := (Nat.le_trans Z0 K3.1)
      obtain ⟨_, _, ⟨T4, L4, k4, n4⟩, -, X4, ⟨Lc4, hQ4, l4, y4, z4⟩, st4⟩ := Jvm.LawKit.callS X3 hx (y := (⟨"com/example/wire3/wire3/Indicator", "checked", "(JLjava/lang/String;)Lcom/example/wire3/wire3/Indicator;"⟩ : MethodName)) hown (mvT hZ (hw _ (List.mem_of_getElem? (i := 27) rfl))) (mvT hZ (hw _ (List.mem_of_getElem? (i := 28) rfl))) (mvT hZ (hw _ (List.mem_of_getElem? (i := 29) rfl))) (mvT hZ (hw _ (List.mem_of_getElem? (i := 30) rfl))) (by decide) (backOf (W := 0) (rmck0 l Z a0 hw [] (1 : Int64) b_3  T3.heap n0 Zs5 (by decide) (by decide) (by decide)) hZ (hw _ (List.mem_of_getElem? (i := 30) rfl)) (hw _ (List.mem_of_getElem? (i := 29) rfl)) (by decide) (by decide)) (g := (mkF m 40 #[.val (.long q1), .second, iv p2, .val (.long 1), .second, rv b_3, .unset] [(.ref b_3), (.long 1)])) rfl (by rw [hml]; rfl) (argsL := [(.long 1), (.ref b_3)]) (rest := []) (lenOf pd_6 rfl) rfl (by show 2 * 0 + _ ≤ _; exact Nat.le_of_eq rfl) (hb hby at_40) (fun _ _ => ⟨rfl, rfl, (by decide : 2 + 1 ≤ _), (by decide : 5 + 1 ≤ _)⟩)
      dsimp only [Pt.U, Pt.locs, Pt.cells, Pt.slots] at X4 l4 y4 z4 st4 hQ4
      subst l4 y4 z4
      obtain ⟨b_4, rfl, Nq4, K4, gq4_b, sq4_b, Fq4_0, Fq4_1⟩ := hQ4
      have N4 := Fr.app N3 Nq4
      have Kp6 : Keep h0 T3.heap [] := ((Keep.refl h0 []).trans K3 all0)
      have szq4_b : h0.size ≤ b_4 := Nat.le_trans Kp6.1 sq4_b
      refine own_st st4 ?_
      show own_Go _ _ _ _ (T4.setTop (mkF m 43 #[.val (.long q1), .second, iv p2, .val (.long 1), .second, rv b_3, .unset] [(.ref b_4)]))
      refine o_astore X4 hx (hb hby at_43) rfl (l' := #[.val (.long q1), .second, iv p2, .val (.long 1), .second, rv b_3, rv b_4]) rfl ?_
      refine o_aload X4 hx (hb hby at_45) rfl rfl ?_
      refine o_ifnullNo X4 hx (hb hby at_47) ?_
      refine o_aload X4 hx (hb hby at_50) rfl rfl ?_
      have Zs8 : n0 ≤ T4.heap.size := (Nat.le_trans Zs5 K4.1)
      obtain ⟨cq7, kq7, q7a, q7b, q7c⟩ := isOf hZ rfl Fq4_0
      obtain ⟨_, _, ⟨T7, L7, k7, n7⟩, -, X7, ⟨Lc7, hQ7, l7, y7, z7⟩, st7⟩ := X4.virtualBack hx (y := (⟨"com/example/wire3/wire3/Indicator", "bits", "()J"⟩ : MethodName)) (z := (⟨"com/example/wire3/wire3/Indicator", "bits", "()J"⟩ : MethodName)) hown (mvT hZ (hw _ (List.mem_of_getElem? (i := 40) rfl))) (mvT hZ (hw _ (List.mem_of_getElem? (i := 41) rfl))) (notFace_of_selects (args := #[]) (mvT hZ (hw _ (List.mem_of_getElem? (i := 43) rfl)))) (mvT hZ (hw _ (List.mem_of_getElem? (i := 43) rfl))) (mvT hZ (hw _ (List.mem_of_getElem? (i := 42) rfl))) (by decide) (backOf (W := 0) (rm8 l Z a0 hw [] b_4 (1 : Int64) T4.heap n0 Zs8 Fq4_1) hZ (hw _ (List.mem_of_getElem? (i := 44) rfl)) (hw _ (List.mem_of_getElem? (i := 29) rfl)) (by decide) (by decide)) q7a q7c (g := (mkF m 52 #[.val (.long q1), .second, iv p2, .val (.long 1), .second, rv b_3, rv b_4] [(.ref b_4)])) rfl (by rw [hml]; rfl) (Steps.refl _) (argsL := []) (rest := []) (lenOf pd_7 rfl) rfl (by show 2 * 0 + _ ≤ _; exact Nat.le_of_eq rfl) (hb hby at_52) (fun _ _ => ⟨rfl, rfl, (by decide : 3 + 0 ≤ _), (by decide : 6 + 0 ≤ _)⟩)
      dsimp only [Pt.U, Pt.locs, Pt.cells, Pt.slots] at X7 l7 y7 z7 st7 hQ7
      subst l7 y7 z7
      obtain ⟨rfl, Nq7, e7⟩ := hQ7
      have N7 := Fr.app N4 Nq7
      refine own_tr st7 ?_
      show own_Go _ _ _ _ (T7.setTop (mkF m 55 #[.val (.long q1), .second, iv p2, .val (.long 1), .second, rv b_3, rv b_4] [(.long 1)]))
      refine o_lloadN X7 hx (hb hby at_55) rfl ?_
      refine o_lcmp X7 hx (hb hby at_56) ?_
      refine o_ifNo X7 hx (hb hby at_57) (teq ((lw_eq _ _).mpr rfl)).2 ?_
      refine o_iconst X7 hx 1 (hb hby at_60) rfl ?_
      refine o_goto X7 hx (pc' := 65) (hb hby at_61) (by decide) (by decide) ?_
      have Kp9 : Keep h0 T4.heap [] := (Kp6.trans K4 all0)
      exact own_end X7 e7 (v := some (.int (1 : Int32))) (fun h => by rw [Bd.returns] at h; cases h) hlk (fun fs hr => retN X7 hx (z := (1 : Int32)) (t := .boolean) Bd.returns (by simp) (hb hby at_65) hr) (Q := Q_rm0 Z a0 q1 p2 w h0 n0) ⟨rfl, N7, Kp9⟩ (by decide) (by decide)
    · refine o_ifNo X0 hx (hb hby at_17) (feq hc17_2).1 ?_
      refine o_aconstNull X0 hx (hb hby at_20) ?_
      refine o_goto X0 hx (pc' := 35) (hb hby at_21) (by decide) (by decide) ?_
      refine o_astore X0 hx (hb hby at_35) rfl (l' := #[.val (.long q1), .second, iv p2, .val (.long 1), .second, .val .null, .unset]) rfl ?_
      refine o_lloadN X0 hx (hb hby at_37) rfl ?_
      refine o_aload X0 hx (hb hby at_38) rfl rfl ?_
      obtain ⟨_, _, ⟨T10, L10, k10, n10⟩, -, X10, ⟨Lc10, hQ10, l10, y10, z10⟩, st10⟩ := Jvm.LawKit.callS X0 hx (y := (⟨"com/example/wire3/wire3/Indicator", "checked", "(JLjava/lang/String;)Lcom/example/wire3/wire3/Indicator;"⟩ : MethodName)) hown (mvT hZ (hw _ (List.mem_of_getElem? (i := 27) rfl))) (mvT hZ (hw _ (List.mem_of_getElem? (i := 28) rfl))) (mvT hZ (hw _ (List.mem_of_getElem? (i := 29) rfl))) (mvT hZ (hw _ (List.mem_of_getElem? (i := 30) rfl))) (by decide) (backOf (W := 0) (rmck1 l Z a0 hw [] (1 : Int64)  h0 n0 Z0 (by decide) (by decide) (by decide)) hZ (hw _ (List.mem_of_getElem? (i := 30) rfl)) (hw _ (List.mem_of_getElem? (i := 29) rfl)) (by decide) (by decide)) (g := (mkF m 40 #[.val (.long q1), .second, iv p2, .val (.long 1), .second, .val .null, .unset] [.null, (.long 1)])) rfl (by rw [hml]; rfl) (argsL := [(.long 1), .null]) (rest := []) (lenOf pd_6 rfl) rfl (by show 2 * 0 + _ ≤ _; exact Nat.le_of_eq rfl) (hb hby at_40) (fun _ _ => ⟨rfl, e0, (by decide : 0 + 1 ≤ _), (by decide : 0 + 1 ≤ _)⟩)
      dsimp only [Pt.U, Pt.locs, Pt.cells, Pt.slots] at X10 l10 y10 z10 st10 hQ10
      subst l10 y10 z10
      obtain ⟨b_10, rfl, Nq10, K10, gq10_b, sq10_b, Fq10_0, Fq10_1⟩ := hQ10
      have N10 := Fr.app N0 Nq10
      have szq10_b : h0.size ≤ b_10 := Nat.le_trans (Keep.refl h0 []).1 sq10_b
      refine own_st st10 ?_
      show own_Go _ _ _ _ (T10.setTop (mkF m 43 #[.val (.long q1), .second, iv p2, .val (.long 1), .second, .val .null, .unset] [(.ref b_10)]))
      refine o_astore X10 hx (hb hby at_43) rfl (l' := #[.val (.long q1), .second, iv p2, .val (.long 1), .second, .val .null, rv b_10]) rfl ?_
      refine o_aload X10 hx (hb hby at_45) rfl rfl ?_
      refine o_ifnullNo X10 hx (hb hby at_47) ?_
      refine o_aload X10 hx (hb hby at_50) rfl rfl ?_
      have Zs12 : n0 ≤ T10.heap.size := (Nat.le_trans Z0 K10.1)
      obtain ⟨cq11, kq11, q11a, q11b, q11c⟩ := isOf hZ rfl Fq10_0
      obtain ⟨_, _, ⟨T11, L11, k11, n11⟩, -, X11, ⟨Lc11, hQ11, l11, y11, z11⟩, st11⟩ := X10.virtualBack hx (y := (⟨"com/example/wire3/wire3/Indicator", "bits", "()J"⟩ : MethodName)) (z := (⟨"com/example/wire3/wire3/Indicator", "bits", "()J"⟩ : MethodName)) hown (mvT hZ (hw _ (List.mem_of_getElem? (i := 40) rfl))) (mvT hZ (hw _ (List.mem_of_getElem? (i := 41) rfl))) (notFace_of_selects (args := #[]) (mvT hZ (hw _ (List.mem_of_getElem? (i := 43) rfl)))) (mvT hZ (hw _ (List.mem_of_getElem? (i := 43) rfl))) (mvT hZ (hw _ (List.mem_of_getElem? (i := 42) rfl))) (by decide) (backOf (W := 0) (rm8 l Z a0 hw [] b_10 (1 : Int64) T10.heap n0 Zs12 Fq10_1) hZ (hw _ (List.mem_of_getElem? (i := 44) rfl)) (hw _ (List.mem_of_getElem? (i := 29) rfl)) (by decide) (by decide)) q11a q11c (g := (mkF m 52 #[.val (.long q1), .second, iv p2, .val (.long 1), .second, .val .null, rv b_10] [(.ref b_10)])) rfl (by rw [hml]; rfl) (Steps.refl _) (argsL := []) (rest := []) (lenOf pd_7 rfl) rfl (by show 2 * 0 + _ ≤ _; exact Nat.le_of_eq rfl) (hb hby at_52) (fun _ _ => ⟨rfl, rfl, (by decide : 1 + 0 ≤ _), (by decide : 1 + 0 ≤ _)⟩)
      dsimp only [Pt.U, Pt.locs, Pt.cells, Pt.slots] at X11 l11 y11 z11 st11 hQ11
      subst l11 y11 z11
      obtain ⟨rfl, Nq11, e11⟩ := hQ11
      have N11 := Fr.app N10 Nq11
      refine own_tr st11 ?_
      show own_Go _ _ _ _ (T11.setTop (mkF m 55 #[.val (.long q1), .second, iv p2, .val (.long 1), .second, .val .null, rv b_10] [(.long 1)]))
      refine o_lloadN X11 hx (hb hby at_55) rfl ?_
      refine o_lcmp X11 hx (hb hby at_56) ?_
      refine o_ifNo X11 hx (hb hby at_57) (teq ((lw_eq _ _).mpr rfl)).2 ?_
      refine o_iconst X11 hx 1 (hb hby at_60) rfl ?_
      refine o_goto X11 hx (pc' := 65) (hb hby at_61) (by decide) (by decide) ?_
      have Kp13 : Keep h0 T10.heap [] := ((Keep.refl h0 []).trans K10 all0)
      exact own_end X11 e11 (v := some (.int (1 : Int32))) (fun h => by rw [Bd.returns] at h; cases h) hlk (fun fs hr => retN X11 hx (z := (1 : Int32)) (t := .boolean) Bd.returns (by simp) (hb hby at_65) hr) (Q := Q_rm0 Z a0 q1 p2 w h0 n0) ⟨rfl, N11, Kp13⟩ (by decide) (by decide)
  · refine o_ifYes X0 hx (pc' := 14) (hb hby at_9) (feq hc9_1).2 (by decide) (by decide) ?_
    refine o_iloadN X0 hx (hb hby at_14) rfl ?_
    refine o_iconst X0 hx 1 (hb hby at_15) rfl ?_
    refine o_iand X0 hx (hb hby at_16) ?_
    by_cases hc17_14 : (p2 &&& (1 : Int32)) = (0 : Int32)
    · refine o_ifYes X0 hx (pc' := 24) (hb hby at_17) (teq hc17_14).1 (by decide) (by decide) ?_
      refine o_iloadN X0 hx (hb hby at_24) rfl ?_
      refine o_iconst X0 hx 1 (hb hby at_25) rfl ?_
      refine o_iushr X0 hx (hb hby at_26) ?_
      refine o_sipush X0 hx 255 (hb hby at_27) rfl ?_
      refine o_iand X0 hx (hb hby at_30) ?_
      refine o_i2c X0 hx (hb hby at_31) ?_
      obtain ⟨_, _, ⟨T15, L15, k15, n15⟩, -, X15, ⟨Lc15, hQ15, l15, y15, z15⟩, st15⟩ := Jvm.LawKit.callS X0 hx (y := (⟨"java/lang/String", "valueOf", "(C)Ljava/lang/String;"⟩ : MethodName)) hown (mvT hZ (hw _ (List.mem_of_getElem? (i := 1) rfl))) (mvT hZ (hw _ (List.mem_of_getElem? (i := 2) rfl))) (mvT hZ (hw _ (List.mem_of_getElem? (i := 3) rfl))) (mvT hZ (hw _ (List.mem_of_getElem? (i := 4) rfl))) (by decide) (backOf (W := 0) (rm1 l Z a0 hw [] ((((p2.toUInt32 >>> ((1 : Int32) &&& 31).toUInt32).toInt32) &&& (255 : Int32)).toUInt32.toUInt16.toUInt32.toInt32) w h0 n0 Z0 S1 hw0 (own_m8 _)) hZ (hw _ (List.mem_of_getElem? (i := 4) rfl)) (hw _ (List.mem_of_getElem? (i := 3) rfl)) (by decide) (by decide)) (g := (mkF m 32 #[.val (.long q1), .second, iv p2, .val (.long (q1 &&& (4294967295 : Int64))), .second, .unset, .unset] [(.int ((((p2.toUInt32 >>> ((1 : Int32) &&& 31).toUInt32).toInt32) &&& (255 : Int32)).toUInt32.toUInt16.toUInt32.toInt32))])) rfl (by rw [hml]; rfl) (argsL := [(.int ((((p2.toUInt32 >>> ((1 : Int32) &&& 31).toUInt32).toInt32) &&& (255 : Int32)).toUInt32.toUInt16.toUInt32.toInt32))]) (rest := []) (lenOf pd_5 rfl) rfl (by show 2 * 0 + _ ≤ _; exact Nat.le_of_eq rfl) (hb hby at_32) (fun _ _ => ⟨rfl, e0, (by decide : 0 + 2 ≤ _), (by decide : 0 + 5 ≤ _)⟩)
      dsimp only [Pt.U, Pt.locs, Pt.cells, Pt.slots] at X15 l15 y15 z15 st15 hQ15
      subst l15 y15 z15
      obtain ⟨b_15, rfl, Nq15, K15, gq15_b, sq15_b⟩ := hQ15
      have N15 := Fr.app N0 Nq15
      have szq15_b : h0.size ≤ b_15 := Nat.le_trans (Keep.refl h0 []).1 sq15_b
      refine own_st st15 ?_
      show own_Go _ _ _ _ (T15.setTop (mkF m 35 #[.val (.long q1), .second, iv p2, .val (.long (q1 &&& (4294967295 : Int64))), .second, .unset, .unset] [(.ref b_15)]))
      refine o_astore X15 hx (hb hby at_35) rfl (l' := #[.val (.long q1), .second, iv p2, .val (.long (q1 &&& (4294967295 : Int64))), .second, rv b_15, .unset]) rfl ?_
      refine o_lloadN X15 hx (hb hby at_37) rfl ?_
      refine o_aload X15 hx (hb hby at_38) rfl rfl ?_
      have Zs17 : n0 ≤ T15.heap.size := (Nat.le_trans Z0 K15.1)
      obtain ⟨_, _, ⟨T16, L16, k16, n16⟩, -, X16, ⟨Lc16, hQ16, l16, y16, z16⟩, st16⟩ := Jvm.LawKit.callS X15 hx (y := (⟨"com/example/wire3/wire3/Indicator", "checked", "(JLjava/lang/String;)Lcom/example/wire3/wire3/Indicator;"⟩ : MethodName)) hown (mvT hZ (hw _ (List.mem_of_getElem? (i := 27) rfl))) (mvT hZ (hw _ (List.mem_of_getElem? (i := 28) rfl))) (mvT hZ (hw _ (List.mem_of_getElem? (i := 29) rfl))) (mvT hZ (hw _ (List.mem_of_getElem? (i := 30) rfl))) (by decide) (backOf (W := 0) (rmck0 l Z a0 hw [] (q1 &&& (4294967295 : Int64)) b_15  T15.heap n0 Zs17 (fun h => hc9_1 ((lw_eq _ _).mpr h)) (own_m32 q1).1 (own_m32 q1).2) hZ (hw _ (List.mem_of_getElem? (i := 30) rfl)) (hw _ (List.mem_of_getElem? (i := 29) rfl)) (by decide) (by decide)) (g := (mkF m 40 #[.val (.long q1), .second, iv p2, .val (.long (q1 &&& (4294967295 : Int64))), .second, rv b_15, .unset] [(.ref b_15), (.long (q1 &&& (4294967295 : Int64)))])) rfl (by rw [hml]; rfl) (argsL := [(.long (q1 &&& (4294967295 : Int64))), (.ref b_15)]) (rest := []) (lenOf pd_6 rfl) rfl (by show 2 * 0 + _ ≤ _; exact Nat.le_of_eq rfl) (hb hby at_40) (fun _ _ => ⟨rfl, rfl, (by decide : 2 + 1 ≤ _), (by decide : 5 + 1 ≤ _)⟩)
      dsimp only [Pt.U, Pt.locs, Pt.cells, Pt.slots] at X16 l16 y16 z16 st16 hQ16
      subst l16 y16 z16
      obtain ⟨b_16, rfl, Nq16, K16, gq16_b, sq16_b, Fq16_0, Fq16_1⟩ := hQ16
      have N16 := Fr.app N15 Nq16
      have Kp18 : Keep h0 T15.heap [] := ((Keep.refl h0 []).trans K15 all0)
      have szq16_b : h0.size ≤ b_16 := Nat.le_trans Kp18.1 sq16_b
      refine own_st st16 ?_
      show own_Go _ _ _ _ (T16.setTop (mkF m 43 #[.val (.long q1), .second, iv p2, .val (.long (q1 &&& (4294967295 : Int64))), .second, rv b_15, .unset] [(.ref b_16)]))
      refine o_astore X16 hx (hb hby at_43) rfl (l' := #[.val (.long q1), .second, iv p2, .val (.long (q1 &&& (4294967295 : Int64))), .second, rv b_15, rv b_16]) rfl ?_
      refine o_aload X16 hx (hb hby at_45) rfl rfl ?_
      refine o_ifnullNo X16 hx (hb hby at_47) ?_
      refine o_aload X16 hx (hb hby at_50) rfl rfl ?_
      have Zs20 : n0 ≤ T16.heap.size := (Nat.le_trans Zs17 K16.1)
      obtain ⟨cq19, kq19, q19a, q19b, q19c⟩ := isOf hZ rfl Fq16_0
      obtain ⟨_, _, ⟨T19, L19, k19, n19⟩, -, X19, ⟨Lc19, hQ19, l19, y19, z19⟩, st19⟩ := X16.virtualBack hx (y := (⟨"com/example/wire3/wire3/Indicator", "bits", "()J"⟩ : MethodName)) (z := (⟨"com/example/wire3/wire3/Indicator", "bits", "()J"⟩ : MethodName)) hown (mvT hZ (hw _ (List.mem_of_getElem? (i := 40) rfl))) (mvT hZ (hw _ (List.mem_of_getElem? (i := 41) rfl))) (notFace_of_selects (args := #[]) (mvT hZ (hw _ (List.mem_of_getElem? (i := 43) rfl)))) (mvT hZ (hw _ (List.mem_of_getElem? (i := 43) rfl))) (mvT hZ (hw _ (List.mem_of_getElem? (i := 42) rfl))) (by decide) (backOf (W := 0) (rm8 l Z a0 hw [] b_16 (q1 &&& (4294967295 : Int64)) T16.heap n0 Zs20 Fq16_1) hZ (hw _ (List.mem_of_getElem? (i := 44) rfl)) (hw _ (List.mem_of_getElem? (i := 29) rfl)) (by decide) (by decide)) q19a q19c (g := (mkF m 52 #[.val (.long q1), .second, iv p2, .val (.long (q1 &&& (4294967295 : Int64))), .second, rv b_15, rv b_16] [(.ref b_16)])) rfl (by rw [hml]; rfl) (Steps.refl _) (argsL := []) (rest := []) (lenOf pd_7 rfl) rfl (by show 2 * 0 + _ ≤ _; exact Nat.le_of_eq rfl) (hb hby at_52) (fun _ _ => ⟨rfl, rfl, (by decide : 3 + 0 ≤ _), (by decide : 6 + 0 ≤ _)⟩)
      dsimp only [Pt.U, Pt.locs, Pt.cells, Pt.slots] at X19 l19 y19 z19 st19 hQ19
      subst l19 y19 z19
      obtain ⟨rfl, Nq19, e19⟩ := hQ19
      have N19 := Fr.app N16 Nq19
      refine own_tr st19 ?_
      show own_Go _ _ _ _ (T19.setTop (mkF m 55 #[.val (.long q1), .second, iv p2, .val (.long (q1 &&& (4294967295 : Int64))), .second, rv b_15, rv b_16] [(.long (q1 &&& (4294967295 : Int64)))]))
      refine o_lloadN X19 hx (hb hby at_55) rfl ?_
      refine o_lcmp X19 hx (hb hby at_56) ?_
      refine o_ifNo X19 hx (hb hby at_57) (teq ((lw_eq _ _).mpr rfl)).2 ?_
      refine o_iconst X19 hx 1 (hb hby at_60) rfl ?_
      refine o_goto X19 hx (pc' := 65) (hb hby at_61) (by decide) (by decide) ?_
      have Kp21 : Keep h0 T16.heap [] := (Kp18.trans K16 all0)
      exact own_end X19 e19 (v := some (.int (1 : Int32))) (fun h => by rw [Bd.returns] at h; cases h) hlk (fun fs hr => retN X19 hx (z := (1 : Int32)) (t := .boolean) Bd.returns (by simp) (hb hby at_65) hr) (Q := Q_rm0 Z a0 q1 p2 w h0 n0) ⟨rfl, N19, Kp21⟩ (by decide) (by decide)
    · refine o_ifNo X0 hx (hb hby at_17) (feq hc17_14).1 ?_
      refine o_aconstNull X0 hx (hb hby at_20) ?_
      refine o_goto X0 hx (pc' := 35) (hb hby at_21) (by decide) (by decide) ?_
      refine o_astore X0 hx (hb hby at_35) rfl (l' := #[.val (.long q1), .second, iv p2, .val (.long (q1 &&& (4294967295 : Int64))), .second, .val .null, .unset]) rfl ?_
      refine o_lloadN X0 hx (hb hby at_37) rfl ?_
      refine o_aload X0 hx (hb hby at_38) rfl rfl ?_
      obtain ⟨_, _, ⟨T22, L22, k22, n22⟩, -, X22, ⟨Lc22, hQ22, l22, y22, z22⟩, st22⟩ := Jvm.LawKit.callS X0 hx (y := (⟨"com/example/wire3/wire3/Indicator", "checked", "(JLjava/lang/String;)Lcom/example/wire3/wire3/Indicator;"⟩ : MethodName)) hown (mvT hZ (hw _ (List.mem_of_getElem? (i := 27) rfl))) (mvT hZ (hw _ (List.mem_of_getElem? (i := 28) rfl))) (mvT hZ (hw _ (List.mem_of_getElem? (i := 29) rfl))) (mvT hZ (hw _ (List.mem_of_getElem? (i := 30) rfl))) (by decide) (backOf (W := 0) (rmck1 l Z a0 hw [] (q1 &&& (4294967295 : Int64))  h0 n0 Z0 (fun h => hc9_1 ((lw_eq _ _).mpr h)) (own_m32 q1).1 (own_m32 q1).2) hZ (hw _ (List.mem_of_getElem? (i := 30) rfl)) (hw _ (List.mem_of_getElem? (i := 29) rfl)) (by decide) (by decide)) (g := (mkF m 40 #[.val (.long q1), .second, iv p2, .val (.long (q1 &&& (4294967295 : Int64))), .second, .val .null, .unset] [.null, (.long (q1 &&& (4294967295 : Int64)))])) rfl (by rw [hml]; rfl) (argsL := [(.long (q1 &&& (4294967295 : Int64))), .null]) (rest := []) (lenOf pd_6 rfl) rfl (by show 2 * 0 + _ ≤ _; exact Nat.le_of_eq rfl) (hb hby at_40) (fun _ _ => ⟨rfl, e0, (by decide : 0 + 1 ≤ _), (by decide : 0 + 1 ≤ _)⟩)
      dsimp only [Pt.U, Pt.locs, Pt.cells, Pt.slots] at X22 l22 y22 z22 st22 hQ22
      subst l22 y22 z22
      obtain ⟨b_22, rfl, Nq22, K22, gq22_b, sq22_b, Fq22_0, Fq22_1⟩ := hQ22
      have N22 := Fr.app N0 Nq22
      have szq22_b : h0.size ≤ b_22 := Nat.le_trans (Keep.refl h0 []).1 sq22_b
      refine own_st st22 ?_
      show own_Go _ _ _ _ (T22.setTop (mkF m 43 #[.val (.long q1), .second, iv p2, .val (.long (q1 &&& (4294967295 : Int64))), .second, .val .null, .unset] [(.ref b_22)]))
      refine o_astore X22 hx (hb hby at_43) rfl (l' := #[.val (.long q1), .second, iv p2, .val (.long (q1 &&& (4294967295 : Int64))), .second, .val .null, rv b_22]) rfl ?_
      refine o_aload X22 hx (hb hby at_45) rfl rfl ?_
      refine o_ifnullNo X22 hx (hb hby at_47) ?_
      refine o_aload X22 hx (hb hby at_50) rfl rfl ?_
      have Zs24 : n0 ≤ T22.heap.size := (Nat.le_trans Z0 K22.1)
      obtain ⟨cq23, kq23, q23a, q23b, q23c⟩ := isOf hZ rfl Fq22_0
      obtain ⟨_, _, ⟨T23, L23, k23, n23⟩, -, X23, ⟨Lc23, hQ23, l23, y23, z23⟩, st23⟩ := X22.virtualBack hx (y := (⟨"com/example/wire3/wire3/Indicator", "bits", "()J"⟩ : MethodName)) (z := (⟨"com/example/wire3/wire3/Indicator", "bits", "()J"⟩ : MethodName)) hown (mvT hZ (hw _ (List.mem_of_getElem? (i := 40) rfl))) (mvT hZ (hw _ (List.mem_of_getElem? (i := 41) rfl))) (notFace_of_selects (args := #[]) (mvT hZ (hw _ (List.mem_of_getElem? (i := 43) rfl)))) (mvT hZ (hw _ (List.mem_of_getElem? (i := 43) rfl))) (mvT hZ (hw _ (List.mem_of_getElem? (i := 42) rfl))) (by decide) (backOf (W := 0) (rm8 l Z a0 hw [] b_22 (q1 &&& (4294967295 : Int64)) T22.heap n0 Zs24 Fq22_1) hZ (hw _ (List.mem_of_getElem? (i := 44) rfl)) (hw _ (List.mem_of_getElem? (i := 29) rfl)) (by decide) (by decide)) q23a q23c (g := (mkF m 52 #[.val (.long q1), .second, iv p2, .val (.long (q1 &&& (4294967295 : Int64))), .second, .val .null, rv b_22] [(.ref b_22)])) rfl (by rw [hml]; rfl) (Steps.refl _) (argsL := []) (rest := []) (lenOf pd_7 rfl) rfl (by show 2 * 0 + _ ≤ _; exact Nat.le_of_eq rfl) (hb hby at_52) (fun _ _ => ⟨rfl, rfl, (by decide : 1 + 0 ≤ _), (by decide : 1 + 0 ≤ _)⟩)
      dsimp only [Pt.U, Pt.locs, Pt.cells, Pt.slots] at X23 l23 y23 z23 st23 hQ23
      subst l23 y23 z23
      obtain ⟨rfl, Nq23, e23⟩ := hQ23
      have N23 := Fr.app N22 Nq23
      refine own_tr st23 ?_
      show own_Go _ _ _ _ (T23.setTop (mkF m 55 #[.val (.long q1), .second, iv p2, .val (.long (q1 &&& (4294967295 : Int64))), .second, .val .null, rv b_22] [(.long (q1 &&& (4294967295 : Int64)))]))
      refine o_lloadN X23 hx (hb hby at_55) rfl ?_
      refine o_lcmp X23 hx (hb hby at_56) ?_
      refine o_ifNo X23 hx (hb hby at_57) (teq ((lw_eq _ _).mpr rfl)).2 ?_
      refine o_iconst X23 hx 1 (hb hby at_60) rfl ?_
      refine o_goto X23 hx (pc' := 65) (hb hby at_61) (by decide) (by decide) ?_
      have Kp25 : Keep h0 T22.heap [] := ((Keep.refl h0 []).trans K22 all0)
      exact own_end X23 e23 (v := some (.int (1 : Int32))) (fun h => by rw [Bd.returns] at h; cases h) hlk (fun fs hr => retN X23 hx (z := (1 : Int32)) (t := .boolean) Bd.returns (by simp) (hb hby at_65) hr) (Q := Q_rm0 Z a0 q1 p2 w h0 n0) ⟨rfl, N23, Kp25⟩ (by decide) (by decide)
set_option maxRecDepth 65536 in
set_option maxHeartbeats 40000000 in
theorem comes_1 {Post : Tables → Env → Array Value → State → Outcome → State → Prop} (hpost : ∀ tb e args s v u, (limb_1_1.after args s (.returned v) u = true ∧ limb_1_2.after args s (.returned v) u = true ∧ True) → FrameEnd s (.returned v) u (Jvm.fieldLocs frame_1_writes args s ++ Jvm.arrayLocs frame_1_arrays args s ++ Jvm.staticLocs frame_1_statics s) 16 128 → Post tb e args s (.returned v) u) :
    ArmFor flags0 classFile x code maxLocals ret World_1 tables_1 room_1 Calls_1 rest_1 Pre_1 Post := by
  intro l hfl _ _ p e ha hc hk s m args below hf hA hF happ hP
  obtain ⟨hcalls, hrest, hpre⟩ := hP
  obtain ⟨-, -, -, hnamed, -, -, -, hat⟩ := (Spec.applies_iff hf).mp happ
  obtain ⟨hg, hn⟩ := and_e (Cond.before_iff.mp (show (Jvm.Cond.and given_1 narrow_1).before args s = true from hpre))
  obtain ⟨g1, g2⟩ := and_e hg
  obtain ⟨g3, g4⟩ := and_e g2
  obtain ⟨w0, w1, rfl⟩ : ∃ w0 w1 : Value, args = #[w0, w1] := by
    have hs : args.size = 2 := by simpa [Cond.value, given_1] using g1
    obtain ⟨L⟩ := args
    match L, hs with
    | [w0, w1], _ => exact ⟨w0, w1, rfl⟩
  have hw := fun d (hd : d ∈ tables_1) => atoms_spec (ws := Jvm.Cond.code x code maxLocals ret :: tables_1) hat d (List.mem_cons_of_mem _ hd)
  have hfit : Fit s := fun {y c} hc i hi => by
    obtain ⟨ha, rfl⟩ := Array.getElem?_eq_some_iff.mp hc
    have q := List.all_eq_true.mp ((Array.all_eq_true_iff_forall_mem.mp hF) _ (Array.getElem_mem ha)) i (List.mem_range.mpr hi)
    simpa [Array.getElem?_eq_getElem hi] using q
  obtain ⟨hsets, hown0⟩ := atoms_of _ (rest_1_c_eq ▸ (show rest_1_c.before _ s = true from hrest))
  have hr0 := Cond.before_iff.mp hown0
  obtain ⟨i0, ei0⟩ := isL_v g3
  obtain rfl : w0 = (.long i0) := Option.some.inj ei0
  obtain ⟨i1, ei1⟩ := is_v g4
  obtain rfl : w1 = (.int i1) := Option.some.inj ei1
  obtain ⟨wC, evC⟩ := is_v (Cond.before_iff.mp (hsets _ (List.mem_of_getElem? (i := 1) rfl)))
  have hwC : ¬ wC = (0 : Int32) := gotF (Cond.eq_ints evC (Term.int_eval (0))) (not_v (Cond.before_iff.mp (hsets _ (List.mem_of_getElem? (i := 2) rfl))))
  obtain ⟨n, o, h1, h2, h3, _, L, rfl, ⟨rfl, N, -⟩, hq⟩ := rm0 l s _ hw tables_1 i0 i1 wC s.heap s.heap.size (Nat.le_refl _) (Sta.start evC (Or.inl (hsets _ (List.mem_of_getElem? (i := 0) rfl)))) hwC p e ha hc hk s m _ below hf ((Spec.applies_iff_loose hf).mp happ).1 ⟨rfl, State.Warmed39.refl s, rfl⟩ trivial
  refine ⟨n, _, h1, h2, h3, hpost _ _ _ _ _ _ ⟨Cond.after_iff.mpr rfl, Cond.after_iff.mpr (eq_i res_at (Term.int_eval (1)) rfl), trivial⟩ ⟨hq.1, hq.2.1, (hq.2.2.sift fun y hy => Or.inr (N y hy)).mono (by decide) (by decide)⟩⟩
theorem main_1_1 : Claimed_1_1 := comes_1 fun _ _ _ _ _ _ h hF => ⟨h.1, hF⟩
theorem main_1_2 : Claimed_1_2 := comes_1 fun _ _ _ _ _ _ h hF => ⟨h.2.1, hF⟩
end Jvm.Pilot.@@N@@
namespace Jvm.Pilot.@@N@@
open Jvm Jvm.ClassFile Sem Op Lib Jvm.Free Jvm.Stand Jvm.Pilot.@@N@@.Jvm.D
/-! MADE BY PROGRAM (witnessworld.py) out of the Statement's table words and the real class files: 17 classes; the members and pool entries that the words name. The judged class is class 1, her method 1. -/
namespace start1
open Jvm.ClassFile
def u (s : String) : CpInfo := .utf8 (stringToUtf16 s)
/-- a pool by its gaps: so many unusable entries, then the entry; so many at the end -/
def gap : Nat → List CpInfo → List CpInfo
  | 0, r => r
  | n + 1, r => .unusable :: gap n r
def poolList (es : List (Nat × CpInfo)) (last : Nat) : List CpInfo := es.foldr (fun e r => gap e.1 (e.2 :: r)) (gap last [])
def pool (es : List (Nat × CpInfo)) (last : Nat) : Array CpInfo := ⟨poolList es last⟩
def fileOf (pool : Array CpInfo) (this : Nat) (attrs : Array Attribute := #[]) (ms : Array MethodInfo := #[]) (fl : Nat := 33) (sup : Nat := 0) (ifs : Array Nat := #[]) (fds : Array FieldInfo := #[]) : ClassFile where
  minorVersion := 0
  majorVersion := 65
  constantPool := pool
  accessFlags := fl
  thisClass := this
  superClass := sup
  interfaces := ifs
  fields := fds
  methods := ms
  attributes := attrs
def plain (name : String) (sup : Option ClassId) : Class where
  name := name
  kind := .ordinary
  loader := none
  accessFlags := 33
  super := sup
  interfaces := #[]
  cf := none
  fields := #[]
  methods := #[]
  instanceTypes := #[]
  staticTypes := #[]
  resolved := #[]
  callSites := []
  init := .initialized
  statics := none
  mirror := none

def pool0 : Array CpInfo := pool [(5, u "<init>"), (0, u "()V"), (1, .class_ 10), (1, u "java/lang/Object")] 113

def k0c0 : Code := { maxStack := 0, maxLocals := 1, code := object_method_1_code, exceptionTable := #[], attributes := #[] }
def k0m0 : Method := { name := "<init>", desc := "()V", sig := { parameters := [], returnType := none }, accessFlags := 1, code := some k0c0 }
/-- java/lang/Object -/
def k0 : Class := { plain "java/lang/Object" none with
  accessFlags := 33
  interfaces := #[]
  cf := some (fileOf pool0 8 #[] #[{ accessFlags := 1, nameIndex := 5, descriptorIndex := 6, attributes := #[] }] 33 0 #[] #[])
  fields := #[]
  methods := #[k0m0]
  instanceTypes := #[]
  staticTypes := #[]
  resolved := Array.replicate 124 none
  statics := none }

def pool1 : Array CpInfo := pool [(2, .class_ 4), (1, u "java/lang/Object"), (0, u "<init>"), (0, u "()V"), (0, .long 4294967295), (1, .methodref 10 11), (0, .class_ 12), (0, .nameAndType 13 14), (0, u "java/lang/String"), (0, u "valueOf"), (0, u "(C)Ljava/lang/String;"), (0, .methodref 16 17), (0, .class_ 18), (0, .nameAndType 19 20), (0, u "com/example/wire3/wire3/Indicator"), (0, u "checked"), (0, u "(JLjava/lang/String;)Lcom/example/wire3/wire3/Indicator;"), (0, .methodref 16 22), (0, .nameAndType 23 24), (0, u "bits"), (0, u "()J"), (0, .class_ 26), (0, u "com/example/wire3/wire3/IndicatorCheckedPinLaw"), (2, u "law"), (0, u "(JI)Z")] 3

def k1m0 : Method := { name := "<init>", desc := "()V", sig := { parameters := [], returnType := none }, accessFlags := 1, code := none }
def k1c1 : Code := { maxStack := 4, maxLocals := 7, code := code, exceptionTable := #[], attributes := #[] }
def k1m1 : Method := { name := "law", desc := "(JI)Z", sig := { parameters := [.long, .int], returnType := some .boolean }, accessFlags := 9, code := some k1c1 }
/-- com/example/wire3/wire3/IndicatorCheckedPinLaw -/
def k1 : Class := { plain "com/example/wire3/wire3/IndicatorCheckedPinLaw" (some 0) with
  accessFlags := 49
  interfaces := #[]
  cf := some (fileOf pool1 25 #[] #[{ accessFlags := 1, nameIndex := 5, descriptorIndex := 6, attributes := #[] }, { accessFlags := 9, nameIndex := 29, descriptorIndex := 30, attributes := #[] }] 49 2 #[] #[])
  fields := #[]
  methods := #[k1m0, k1m1]
  instanceTypes := #[]
  staticTypes := #[]
  resolved := Array.replicate 34 none
  statics := none }

def pool2 : Array CpInfo := pool [(1, .class_ 2), (0, u "java/io/Serializable"), (0, .class_ 4), (0, u "java/lang/Object")] 2

/-- java/io/Serializable -/
def k2 : Class := { plain "java/io/Serializable" (some 0) with
  accessFlags := 1537
  interfaces := #[]
  cf := some (fileOf pool2 1 #[] #[] 1537 3 #[] #[])
  fields := #[]
  methods := #[]
  instanceTypes := #[]
  staticTypes := #[]
  resolved := Array.replicate 7 none
  statics := none }

def pool3 : Array CpInfo := pool [(1, .class_ 2), (0, u "java/lang/Comparable"), (0, .class_ 4), (0, u "java/lang/Object")] 7

/-- java/lang/Comparable -/
def k3 : Class := { plain "java/lang/Comparable" (some 0) with
  accessFlags := 1537
  interfaces := #[]
  cf := some (fileOf pool3 1 #[] #[] 1537 3 #[] #[])
  fields := #[]
  methods := #[]
  instanceTypes := #[]
  staticTypes := #[]
  resolved := Array.replicate 12 none
  statics := none }

def pool4 : Array CpInfo := pool [(2, .class_ 4), (1, u "java/lang/CharSequence"), (42, .class_ 48), (0, u "java/lang/CharSequence$1CodePointIterator"), (10, .class_ 60), (0, u "java/lang/CharSequence$1CharIterator"), (5, .class_ 67), (0, u "java/lang/Object")] 63

/-- java/lang/CharSequence -/
def k4 : Class := { plain "java/lang/CharSequence" (some 0) with
  accessFlags := 1537
  interfaces := #[]
  cf := some (fileOf pool4 2 #[.nestMembers #[47, 59]] #[] 1537 66 #[] #[])
  fields := #[]
  methods := #[]
  instanceTypes := #[]
  staticTypes := #[]
  resolved := Array.replicate 131 none
  statics := none }

def pool5 : Array CpInfo := pool [(1, .class_ 2), (0, u "java/lang/constant/Constable"), (0, .class_ 4), (0, u "java/lang/Object")] 6

/-- java/lang/constant/Constable -/
def k5 : Class := { plain "java/lang/constant/Constable" (some 0) with
  accessFlags := 1537
  interfaces := #[]
  cf := some (fileOf pool5 1 #[] #[] 1537 3 #[] #[])
  fields := #[]
  methods := #[]
  instanceTypes := #[]
  staticTypes := #[]
  resolved := Array.replicate 11 none
  statics := none }

def pool6 : Array CpInfo := pool [(1, .class_ 2), (0, u "java/lang/constant/ConstantDesc"), (0, .class_ 4), (0, u "java/lang/Object")] 32

/-- java/lang/constant/ConstantDesc -/
def k6 : Class := { plain "java/lang/constant/ConstantDesc" (some 0) with
  accessFlags := 1537
  interfaces := #[]
  cf := some (fileOf pool6 1 #[] #[] 1537 3 #[] #[])
  fields := #[]
  methods := #[]
  instanceTypes := #[]
  staticTypes := #[]
  resolved := Array.replicate 37 none
  statics := none }

def pool7 : Array CpInfo := pool [(1, .methodref 2 3), (0, .class_ 4), (0, .nameAndType 5 6), (0, u "java/lang/Object"), (0, u "<init>"), (0, u "()V"), (2, .fieldref 10 11), (0, .class_ 12), (0, .nameAndType 13 14), (0, u "java/lang/String"), (0, u "value"), (0, u "[B"), (0, .fieldref 10 16), (0, .nameAndType 17 18), (0, u "coder"), (0, u "B"), (2, u "hash"), (0, u "I"), (2, u "hashIsZero"), (0, u "Z"), (11, .fieldref 10 39), (0, .nameAndType 40 26), (0, u "COMPACT_STRINGS"), (12, u "toBytes"), (53, .class_ 109), (1, u "java/lang/StringLatin1"), (99, .methodref 10 210), (0, .nameAndType 5 211), (0, u "([BB)V"), (157, u "(C)Z"), (205, .class_ 576), (0, u "java/lang/CharSequence"), (22, u "CASE_INSENSITIVE_ORDER"), (0, u "Ljava/util/Comparator;"), (181, u "valueOf"), (0, u "(C)Ljava/lang/String;"), (231, .methodref 107 1016), (0, .nameAndType 1017 369), (0, u "canEncode"), (0, .methodref 107 1019), (0, .nameAndType 53 1020), (0, u "(C)[B"), (80, u "serialPersistentFields"), (0, u "[Ljava/io/ObjectStreamField;"), (0, .class_ 1104), (0, u "java/lang/String$CaseInsensitiveComparator"), (1, .class_ 1107), (0, u "java/io/Serializable"), (0, .class_ 1109), (0, u "java/lang/Comparable"), (0, .class_ 1111), (0, u "java/lang/constant/Constable"), (0, .class_ 1113), (0, u "java/lang/constant/ConstantDesc"), (2, u "serialVersionUID"), (0, u "J"), (3, u "REPL"), (0, u "C"), (2, u "LATIN1"), (1, u "UTF16")] 323

def k7m0 : Method := { name := "<init>", desc := "()V", sig := { parameters := [], returnType := none }, accessFlags := 1, code := none }
def k7c1 : Code := { maxStack := 4, maxLocals := 1, code := jdk_42_method_139_code, exceptionTable := #[], attributes := #[] }
def k7m1 : Method := { name := "valueOf", desc := "(C)Ljava/lang/String;", sig := { parameters := [.char], returnType := some (.object "java/lang/String") }, accessFlags := 9, code := some k7c1 }
def k7c2 : Code := { maxStack := 2, maxLocals := 3, code := jdk_42_method_151_code, exceptionTable := #[], attributes := #[] }
def k7m2 : Method := { name := "<init>", desc := "([BB)V", sig := { parameters := [(.array .byte), .byte], returnType := none }, accessFlags := 0, code := some k7c2 }
/-- java/lang/String -/
def k7 : Class := { plain "java/lang/String" (some 0) with
  accessFlags := 49
  interfaces := #[2, 3, 4, 5, 6]
  cf := some (fileOf pool7 10 #[.nestMembers #[1103]] #[{ accessFlags := 1, nameIndex := 5, descriptorIndex := 6, attributes := #[] }, { accessFlags := 9, nameIndex := 782, descriptorIndex := 783, attributes := #[] }, { accessFlags := 0, nameIndex := 5, descriptorIndex := 211, attributes := #[] }] 49 2 #[1106, 1108, 575, 1110, 1112] #[{ accessFlags := 18, nameIndex := 13, descriptorIndex := 14, attributes := #[] }, { accessFlags := 18, nameIndex := 17, descriptorIndex := 18, attributes := #[] }, { accessFlags := 2, nameIndex := 21, descriptorIndex := 22, attributes := #[] }, { accessFlags := 2, nameIndex := 25, descriptorIndex := 26, attributes := #[] }, { accessFlags := 26, nameIndex := 1116, descriptorIndex := 1117, attributes := #[] }, { accessFlags := 24, nameIndex := 40, descriptorIndex := 26, attributes := #[] }, { accessFlags := 26, nameIndex := 1101, descriptorIndex := 1102, attributes := #[] }, { accessFlags := 26, nameIndex := 1121, descriptorIndex := 1122, attributes := #[] }, { accessFlags := 25, nameIndex := 599, descriptorIndex := 600, attributes := #[] }, { accessFlags := 24, nameIndex := 1125, descriptorIndex := 18, attributes := #[] }, { accessFlags := 24, nameIndex := 1127, descriptorIndex := 18, attributes := #[] }])
  fields := #[{ name := "value", type := (.array .byte), accessFlags := 18, slot := 0, constantValue := 0 }, { name := "coder", type := .byte, accessFlags := 18, slot := 1, constantValue := 0 }, { name := "hash", type := .int, accessFlags := 2, slot := 2, constantValue := 0 }, { name := "hashIsZero", type := .boolean, accessFlags := 2, slot := 3, constantValue := 0 }, { name := "serialVersionUID", type := .long, accessFlags := 26, slot := 0, constantValue := 0 }, { name := "COMPACT_STRINGS", type := .boolean, accessFlags := 24, slot := 1, constantValue := 0 }, { name := "serialPersistentFields", type := (.array (.object "java/io/ObjectStreamField")), accessFlags := 26, slot := 2, constantValue := 0 }, { name := "REPL", type := .char, accessFlags := 26, slot := 3, constantValue := 0 }, { name := "CASE_INSENSITIVE_ORDER", type := (.object "java/util/Comparator"), accessFlags := 25, slot := 4, constantValue := 0 }, { name := "LATIN1", type := .byte, accessFlags := 24, slot := 5, constantValue := 0 }, { name := "UTF16", type := .byte, accessFlags := 24, slot := 6, constantValue := 0 }]
  methods := #[k7m0, k7m1, k7m2]
  instanceTypes := #[(.array .byte), .byte, .int, .boolean]
  staticTypes := #[.long, .boolean, (.array (.object "java/io/ObjectStreamField")), .char, (.object "java/util/Comparator"), .byte, .byte]
  resolved := Array.replicate 1451 none
  statics := some 0 }

def pool8 : Array CpInfo := pool [(4, .class_ 6), (1, u "java/lang/Object"), (0, u "<init>"), (0, u "()V"), (5, .class_ 16), (1, u "java/lang/StringLatin1"), (73, u "canEncode"), (14, u "(C)Z"), (15, u "$assertionsDisabled"), (0, u "Z"), (98, .class_ 223), (1, u "java/lang/StringLatin1$LinesSpliterator"), (156, u "toBytes"), (1, u "(C)[B"), (7, .class_ 391), (0, u "java/lang/StringLatin1$CharsSpliterator")] 3

def k8m0 : Method := { name := "<init>", desc := "()V", sig := { parameters := [], returnType := none }, accessFlags := 0, code := none }
def k8c1 : Code := { maxStack := 2, maxLocals := 1, code := jdk_43_method_3_code, exceptionTable := #[], attributes := #[] }
def k8m1 : Method := { name := "canEncode", desc := "(C)Z", sig := { parameters := [.char], returnType := some .boolean }, accessFlags := 9, code := some k8c1 }
def k8c2 : Code := { maxStack := 4, maxLocals := 1, code := jdk_43_method_46_code, exceptionTable := #[], attributes := #[] }
def k8m2 : Method := { name := "toBytes", desc := "(C)[B", sig := { parameters := [.char], returnType := some (.array .byte) }, accessFlags := 9, code := some k8c2 }
/-- java/lang/StringLatin1 -/
def k8 : Class := { plain "java/lang/StringLatin1" (some 0) with
  accessFlags := 48
  interfaces := #[]
  cf := some (fileOf pool8 14 #[.nestMembers #[390, 221]] #[{ accessFlags := 0, nameIndex := 7, descriptorIndex := 8, attributes := #[] }, { accessFlags := 9, nameIndex := 90, descriptorIndex := 105, attributes := #[] }, { accessFlags := 9, nameIndex := 380, descriptorIndex := 382, attributes := #[] }] 48 4 #[] #[{ accessFlags := 4120, nameIndex := 121, descriptorIndex := 122, attributes := #[] }])
  fields := #[{ name := "$assertionsDisabled", type := .boolean, accessFlags := 4120, slot := 0, constantValue := 0 }]
  methods := #[k8m0, k8m1, k8m2]
  instanceTypes := #[]
  staticTypes := #[.boolean]
  resolved := Array.replicate 395 none
  statics := none }

def pool9 : Array CpInfo := pool [(1, .methodref 2 3), (0, .class_ 4), (0, .nameAndType 5 6), (0, u "java/lang/Object"), (0, u "<init>"), (0, u "()V"), (0, .fieldref 8 9), (0, .class_ 10), (0, .nameAndType 11 12), (0, u "com/example/wire3/wire3/Indicator"), (0, u "bits"), (0, u "J"), (2, u "checked"), (0, u "(JLjava/lang/String;)Lcom/example/wire3/wire3/Indicator;"), (5, u "()J"), (0, .methodref 8 24), (0, .nameAndType 5 25), (0, u "(J)V"), (7, .long 4294967295), (48, u "MAX_BITS")] 35

def k9c0 : Code := { maxStack := 3, maxLocals := 3, code := prog_10_method_1_code, exceptionTable := #[], attributes := #[] }
def k9m0 : Method := { name := "<init>", desc := "(J)V", sig := { parameters := [.long], returnType := none }, accessFlags := 2, code := some k9c0 }
def k9c1 : Code := { maxStack := 4, maxLocals := 3, code := prog_10_method_4_code, exceptionTable := #[], attributes := #[] }
def k9m1 : Method := { name := "checked", desc := "(JLjava/lang/String;)Lcom/example/wire3/wire3/Indicator;", sig := { parameters := [.long, (.object "java/lang/String")], returnType := some (.object "com/example/wire3/wire3/Indicator") }, accessFlags := 8, code := some k9c1 }
def k9c2 : Code := { maxStack := 2, maxLocals := 1, code := prog_10_method_5_code, exceptionTable := #[], attributes := #[] }
def k9m2 : Method := { name := "bits", desc := "()J", sig := { parameters := [], returnType := some .long }, accessFlags := 1, code := some k9c2 }
/-- com/example/wire3/wire3/Indicator -/
def k9 : Class := { plain "com/example/wire3/wire3/Indicator" (some 0) with
  accessFlags := 49
  interfaces := #[]
  cf := some (fileOf pool9 8 #[] #[{ accessFlags := 2, nameIndex := 5, descriptorIndex := 25, attributes := #[] }, { accessFlags := 8, nameIndex := 15, descriptorIndex := 16, attributes := #[] }, { accessFlags := 1, nameIndex := 11, descriptorIndex := 22, attributes := #[] }] 49 2 #[] #[{ accessFlags := 25, nameIndex := 82, descriptorIndex := 12, attributes := #[] }, { accessFlags := 18, nameIndex := 11, descriptorIndex := 12, attributes := #[] }])
  fields := #[{ name := "MAX_BITS", type := .long, accessFlags := 25, slot := 0, constantValue := 0 }, { name := "bits", type := .long, accessFlags := 18, slot := 0, constantValue := 0 }]
  methods := #[k9m0, k9m1, k9m2]
  instanceTypes := #[.long]
  staticTypes := #[.long]
  resolved := Array.replicate 118 none
  statics := none }

def pool10 : Array CpInfo := pool [(2, .class_ 4), (1, u "java/lang/Object"), (0, u "<init>"), (0, u "()V"), (17, .class_ 26), (1, u "jdk/internal/util/Preconditions"), (28, .class_ 56), (0, u "jdk/internal/util/Preconditions$4"), (57, .class_ 115), (0, u "jdk/internal/util/Preconditions$1"), (7, u "SIOOBE_FORMATTER"), (0, u "Ljava/util/function/BiFunction;"), (0, .class_ 126), (0, u "jdk/internal/util/Preconditions$2"), (3, u "AIOOBE_FORMATTER"), (0, .class_ 132), (0, u "jdk/internal/util/Preconditions$3"), (3, u "IOOBE_FORMATTER")] 57

def k10m0 : Method := { name := "<init>", desc := "()V", sig := { parameters := [], returnType := none }, accessFlags := 1, code := none }
/-- jdk/internal/util/Preconditions -/
def k10 : Class := { plain "jdk/internal/util/Preconditions" (some 0) with
  accessFlags := 33
  interfaces := #[]
  cf := some (fileOf pool10 24 #[.nestMembers #[55, 131, 125, 114]] #[{ accessFlags := 1, nameIndex := 5, descriptorIndex := 6, attributes := #[] }] 33 2 #[] #[{ accessFlags := 25, nameIndex := 123, descriptorIndex := 124, attributes := #[] }, { accessFlags := 25, nameIndex := 130, descriptorIndex := 124, attributes := #[] }, { accessFlags := 25, nameIndex := 136, descriptorIndex := 124, attributes := #[] }])
  fields := #[{ name := "SIOOBE_FORMATTER", type := (.object "java/util/function/BiFunction"), accessFlags := 25, slot := 0, constantValue := 0 }, { name := "AIOOBE_FORMATTER", type := (.object "java/util/function/BiFunction"), accessFlags := 25, slot := 1, constantValue := 0 }, { name := "IOOBE_FORMATTER", type := (.object "java/util/function/BiFunction"), accessFlags := 25, slot := 2, constantValue := 0 }]
  methods := #[k10m0]
  instanceTypes := #[]
  staticTypes := #[(.object "java/util/function/BiFunction"), (.object "java/util/function/BiFunction"), (.object "java/util/function/BiFunction")]
  resolved := Array.replicate 194 none
  statics := some 1 }

def pool11 : Array CpInfo := pool [(9, u "<init>"), (6, .class_ 18), (1, u "java/lang/Object"), (0, u "()V"), (1, .class_ 23), (1, u "jdk/internal/util/ArraysSupport"), (0, u "LOG2_ARRAY_LONG_INDEX_SCALE"), (0, u "I"), (2, u "U"), (0, u "Ljdk/internal/misc/Unsafe;"), (8, u "BIG_ENDIAN"), (0, u "Z"), (8, u "LOG2_BYTE_BIT_SIZE"), (4, u "LOG2_ARRAY_INT_INDEX_SCALE"), (54, u "JLA"), (0, u "Ljdk/internal/access/JavaLangAccess;"), (11, u "LOG2_ARRAY_BOOLEAN_INDEX_SCALE"), (9, u "LOG2_ARRAY_BYTE_INDEX_SCALE"), (5, u "LOG2_ARRAY_CHAR_INDEX_SCALE"), (5, u "LOG2_ARRAY_SHORT_INDEX_SCALE"), (18, u "LOG2_ARRAY_FLOAT_INDEX_SCALE"), (24, u "LOG2_ARRAY_DOUBLE_INDEX_SCALE"), (89, u "T_BOOLEAN"), (2, u "T_CHAR"), (1, u "T_FLOAT"), (1, u "T_DOUBLE"), (1, u "T_BYTE"), (1, u "T_SHORT"), (1, u "T_INT"), (1, u "T_LONG"), (1, u "SOFT_MAX_ARRAY_LENGTH")] 83

def k11m0 : Method := { name := "<init>", desc := "()V", sig := { parameters := [], returnType := none }, accessFlags := 2, code := none }
/-- jdk/internal/util/ArraysSupport -/
def k11 : Class := { plain "jdk/internal/util/ArraysSupport" (some 0) with
  accessFlags := 33
  interfaces := #[]
  cf := some (fileOf pool11 21 #[] #[{ accessFlags := 2, nameIndex := 9, descriptorIndex := 19, attributes := #[] }] 33 16 #[] #[{ accessFlags := 24, nameIndex := 28, descriptorIndex := 29, attributes := #[] }, { accessFlags := 26, nameIndex := 38, descriptorIndex := 39, attributes := #[] }, { accessFlags := 25, nameIndex := 121, descriptorIndex := 25, attributes := #[] }, { accessFlags := 25, nameIndex := 131, descriptorIndex := 25, attributes := #[] }, { accessFlags := 25, nameIndex := 137, descriptorIndex := 25, attributes := #[] }, { accessFlags := 25, nameIndex := 143, descriptorIndex := 25, attributes := #[] }, { accessFlags := 25, nameIndex := 53, descriptorIndex := 25, attributes := #[] }, { accessFlags := 25, nameIndex := 24, descriptorIndex := 25, attributes := #[] }, { accessFlags := 25, nameIndex := 162, descriptorIndex := 25, attributes := #[] }, { accessFlags := 25, nameIndex := 187, descriptorIndex := 25, attributes := #[] }, { accessFlags := 26, nameIndex := 48, descriptorIndex := 25, attributes := #[] }, { accessFlags := 25, nameIndex := 277, descriptorIndex := 25, attributes := #[] }, { accessFlags := 25, nameIndex := 280, descriptorIndex := 25, attributes := #[] }, { accessFlags := 25, nameIndex := 282, descriptorIndex := 25, attributes := #[] }, { accessFlags := 25, nameIndex := 284, descriptorIndex := 25, attributes := #[] }, { accessFlags := 25, nameIndex := 286, descriptorIndex := 25, attributes := #[] }, { accessFlags := 25, nameIndex := 288, descriptorIndex := 25, attributes := #[] }, { accessFlags := 25, nameIndex := 290, descriptorIndex := 25, attributes := #[] }, { accessFlags := 25, nameIndex := 292, descriptorIndex := 25, attributes := #[] }, { accessFlags := 26, nameIndex := 108, descriptorIndex := 109, attributes := #[] }, { accessFlags := 25, nameIndex := 294, descriptorIndex := 25, attributes := #[] }])
  fields := #[{ name := "U", type := (.object "jdk/internal/misc/Unsafe"), accessFlags := 24, slot := 0, constantValue := 0 }, { name := "BIG_ENDIAN", type := .boolean, accessFlags := 26, slot := 1, constantValue := 0 }, { name := "LOG2_ARRAY_BOOLEAN_INDEX_SCALE", type := .int, accessFlags := 25, slot := 2, constantValue := 0 }, { name := "LOG2_ARRAY_BYTE_INDEX_SCALE", type := .int, accessFlags := 25, slot := 3, constantValue := 0 }, { name := "LOG2_ARRAY_CHAR_INDEX_SCALE", type := .int, accessFlags := 25, slot := 4, constantValue := 0 }, { name := "LOG2_ARRAY_SHORT_INDEX_SCALE", type := .int, accessFlags := 25, slot := 5, constantValue := 0 }, { name := "LOG2_ARRAY_INT_INDEX_SCALE", type := .int, accessFlags := 25, slot := 6, constantValue := 0 }, { name := "LOG2_ARRAY_LONG_INDEX_SCALE", type := .int, accessFlags := 25, slot := 7, constantValue := 0 }, { name := "LOG2_ARRAY_FLOAT_INDEX_SCALE", type := .int, accessFlags := 25, slot := 8, constantValue := 0 }, { name := "LOG2_ARRAY_DOUBLE_INDEX_SCALE", type := .int, accessFlags := 25, slot := 9, constantValue := 0 }, { name := "LOG2_BYTE_BIT_SIZE", type := .int, accessFlags := 26, slot := 10, constantValue := 0 }, { name := "T_BOOLEAN", type := .int, accessFlags := 25, slot := 11, constantValue := 0 }, { name := "T_CHAR", type := .int, accessFlags := 25, slot := 12, constantValue := 0 }, { name := "T_FLOAT", type := .int, accessFlags := 25, slot := 13, constantValue := 0 }, { name := "T_DOUBLE", type := .int, accessFlags := 25, slot := 14, constantValue := 0 }, { name := "T_BYTE", type := .int, accessFlags := 25, slot := 15, constantValue := 0 }, { name := "T_SHORT", type := .int, accessFlags := 25, slot := 16, constantValue := 0 }, { name := "T_INT", type := .int, accessFlags := 25, slot := 17, constantValue := 0 }, { name := "T_LONG", type := .int, accessFlags := 25, slot := 18, constantValue := 0 }, { name := "JLA", type := (.object "jdk/internal/access/JavaLangAccess"), accessFlags := 26, slot := 19, constantValue := 0 }, { name := "SOFT_MAX_ARRAY_LENGTH", type := .int, accessFlags := 25, slot := 20, constantValue := 0 }]
  methods := #[k11m0]
  instanceTypes := #[]
  staticTypes := #[(.object "jdk/internal/misc/Unsafe"), .boolean, .int, .int, .int, .int, .int, .int, .int, .int, .int, .int, .int, .int, .int, .int, .int, .int, .int, (.object "jdk/internal/access/JavaLangAccess"), .int]
  resolved := Array.replicate 378 none
  statics := none }

def pool12 : Array CpInfo := pool [(1, u "java/lang/Cloneable"), (0, .class_ 1), (0, u "java/lang/Object"), (0, .class_ 3)] 3

/-- java/lang/Cloneable -/
def k12 : Class := { plain "java/lang/Cloneable" (some 0) with
  accessFlags := 1537
  interfaces := #[]
  cf := some (fileOf pool12 2 #[] #[] 1537 4 #[] #[])
  fields := #[]
  methods := #[]
  instanceTypes := #[]
  staticTypes := #[]
  resolved := Array.replicate 8 none
  statics := none }

/-- the primitive byte -/
def k13 : Class := { plain "byte" none with kind := .primitive 'B', accessFlags := 0x411 }
/-- [B -/
def k14 : Class := { plain "[B" (some 0) with kind := .array 13 .byte, interfaces := #[12, 2], accessFlags := 1041 }

/-- the primitive int -/
def k15 : Class := { plain "int" none with kind := .primitive 'I', accessFlags := 0x411 }
/-- [I -/
def k16 : Class := { plain "[I" (some 0) with kind := .array 15 .int, interfaces := #[12, 2], accessFlags := 1041 }

def heap : Heap := #[{ cls := 7, slots := #[.long 0, .int 1, .null, .int 0, .null, .int 0, .int 0], vm := .statics 7 },
  { cls := 10, slots := #[.null, .null, .null], vm := .statics 10 }]
def classes : Array Class := #[k0, k1, k2, k3, k4, k5, k6, k7, k8, k9, k10, k11, k12, k13, k14, k15, k16]
def interned : List (Array UInt16 × Addr) := []
def slotsUsed : Nat := 10
def theMethod : MethodId := ⟨1, 1⟩
def args0 : Array Value := #[.long 5, .int 4]
def aboutOver (below : List Frame) : State where
  vm := { classes := classes, interned := interned.toArray }
  heap := heap
  slotsUsed := slotsUsed
  threads := #[{ frames := .invoking theMethod args0 :: below }]
def below0 : List Frame := [.native { method := ⟨0, 0⟩, args := #[] }]
def about1 : State := aboutOver below0
def p0 : Program := .bare "" "" ""
def e0 : Env := launch0.env 0 0 0
theorem w_frames : about1.frames = Frame.invoking theMethod args0 :: below0 := rfl
set_option maxRecDepth 65536 in
theorem w_args : argsFit about1.vm theMethod args0 = true := by decide +kernel
set_option maxRecDepth 65536 in
theorem w_heap : heapFits about1 = true := by decide +kernel
set_option maxRecDepth 65536 in
theorem w_runnable : about1.curStatus? = some .runnable := by decide +kernel
set_option maxRecDepth 65536 in
theorem w_alone : about1.alone = true := by decide +kernel
set_option maxRecDepth 65536 in
theorem w_named : about1.methodNamed? x = some theMethod := by decide +kernel
set_option maxRecDepth 65536 in
theorem w_hears : about1.hears theMethod below0 = true := by decide +kernel
set_option maxRecDepth 65536 in
theorem w_ripe : about1.ripe theMethod args0 below0 = true := by decide +kernel
theorem w_running : about1.status = .running := rfl
set_option maxRecDepth 65536 in
theorem w_room : about1.hasRoom e0.platform room_1 = true :=
  launch0.hasRoom_least _ room_1 (by decide +kernel) (by decide +kernel) (by decide +kernel) (by decide +kernel) (by decide +kernel) (by decide +kernel)
theorem allAtoms_all (ts : List Jvm.Cond) (a : Array Jvm.Value) (st : Jvm.State) : (allAtoms ts).before a st = ts.all (fun c => c.before a st) := by
  induction ts with
  | nil => rfl
  | cons c t ih =>
    show (Jvm.Cond.and c (allAtoms t)).before a st = _
    rw [Jvm.Cond.before_and, ih, List.all_cons]
def words1 : List Jvm.Cond := Jvm.Cond.code x code maxLocals ret :: tables_1
/-- a 'code' word, met by the world's own term for the bytes: nothing is compared byte by byte -/
theorem code_word {y : MethodName} {bytes : ByteArray} {mx : Nat} {rt : Option FieldType} {a : Array Value} {s : State} {m : MethodId} {meth : Method} {c : Code} (h1 : s.methodNamed? y = some m) (h2 : s.vm.method? m = some meth) (h3 : meth.code = some c) (h4 : c.code = bytes)
    (h5 : (c.maxLocals == mx && c.exceptionTable.isEmpty && decide (c.maxStack ≤ mostOperands) && decide (meth.sig.returnType = rt) && !meth.locks && decide (parseMethodDescriptor y.desc = some meth.sig)) = true) : (Jvm.Cond.code y bytes mx rt).before a s = true := by
  simp only [Bool.and_eq_true, beq_iff_eq, Bool.not_eq_true', decide_eq_true_eq] at h5
  obtain ⟨⟨⟨⟨⟨g1, g2⟩, g3⟩, g4⟩, g5⟩, g6⟩ := h5
  simp [Cond.before, Cond.holds, Cond.value, h1, h2, h3, h4, g1, g2, g3, g4, g5, g6]
def isCode : Jvm.Cond → Bool
  | .code _ _ _ _ => true
  | _ => false
theorem all_split {L : List Jvm.Cond} {P : Jvm.Cond → Bool} (h1 : L.all (fun c => isCode c || P c) = true) (h2 : ∀ c ∈ L.filter isCode, P c = true) : L.all P = true := by
  refine List.all_eq_true.mpr fun c hc => ?_
  have h := List.all_eq_true.mp h1 c hc
  rcases Bool.eq_false_or_eq_true (isCode c) with hi | hi
  · exact h2 c (List.mem_filter.mpr ⟨hc, hi⟩)
  · simpa [hi] using h
set_option maxRecDepth 65536 in
theorem w_c0 : (Jvm.Cond.code x code maxLocals ret).before args0 about1 = true := code_word (m := ⟨1, 1⟩) (meth := k1m1) (c := k1c1) (by decide +kernel) rfl rfl rfl (by decide +kernel)
set_option maxRecDepth 65536 in
theorem w_c1 : (Jvm.Cond.code ({ cls := "java/lang/String", name := "valueOf", desc := "(C)Ljava/lang/String;" } : Jvm.MethodName) jdk_42_method_139_code (1 : Nat) (Option.some (Jvm.ClassFile.FieldType.object "java/lang/String"))).before args0 about1 = true := code_word (m := ⟨7, 1⟩) (meth := k7m1) (c := k7c1) (by decide +kernel) rfl rfl rfl (by decide +kernel)
set_option maxRecDepth 65536 in
theorem w_c2 : (Jvm.Cond.code ({ cls := "java/lang/StringLatin1", name := "canEncode", desc := "(C)Z" } : Jvm.MethodName) jdk_43_method_3_code (1 : Nat) (Option.some Jvm.ClassFile.FieldType.boolean)).before args0 about1 = true := code_word (m := ⟨8, 1⟩) (meth := k8m1) (c := k8c1) (by decide +kernel) rfl rfl rfl (by decide +kernel)
set_option maxRecDepth 65536 in
theorem w_c3 : (Jvm.Cond.code ({ cls := "java/lang/StringLatin1", name := "toBytes", desc := "(C)[B" } : Jvm.MethodName) jdk_43_method_46_code (1 : Nat) (Option.some (Jvm.ClassFile.FieldType.array Jvm.ClassFile.FieldType.byte))).before args0 about1 = true := code_word (m := ⟨8, 2⟩) (meth := k8m2) (c := k8c2) (by decide +kernel) rfl rfl rfl (by decide +kernel)
set_option maxRecDepth 65536 in
theorem w_c4 : (Jvm.Cond.code ({ cls := "java/lang/String", name := "<init>", desc := "([BB)V" } : Jvm.MethodName) jdk_42_method_151_code (3 : Nat) (Option.none : Option Jvm.ClassFile.FieldType)).before args0 about1 = true := code_word (m := ⟨7, 2⟩) (meth := k7m2) (c := k7c2) (by decide +kernel) rfl rfl rfl (by decide +kernel)
set_option maxRecDepth 65536 in
theorem w_c5 : (Jvm.Cond.code ({ cls := "java/lang/Object", name := "<init>", desc := "()V" } : Jvm.MethodName) object_method_1_code (1 : Nat) (Option.none : Option Jvm.ClassFile.FieldType)).before args0 about1 = true := code_word (m := ⟨0, 0⟩) (meth := k0m0) (c := k0c0) (by decide +kernel) rfl rfl rfl (by decide +kernel)
set_option maxRecDepth 65536 in
theorem w_c6 : (Jvm.Cond.code ({ cls := "com/example/wire3/wire3/Indicator", name := "checked", desc := "(JLjava/lang/String;)Lcom/example/wire3/wire3/Indicator;" } : Jvm.MethodName) prog_10_method_4_code (3 : Nat) (Option.some (Jvm.ClassFile.FieldType.object "com/example/wire3/wire3/Indicator"))).before args0 about1 = true := code_word (m := ⟨9, 1⟩) (meth := k9m1) (c := k9c1) (by decide +kernel) rfl rfl rfl (by decide +kernel)
set_option maxRecDepth 65536 in
theorem w_c7 : (Jvm.Cond.code ({ cls := "com/example/wire3/wire3/Indicator", name := "<init>", desc := "(J)V" } : Jvm.MethodName) prog_10_method_1_code (3 : Nat) (Option.none : Option Jvm.ClassFile.FieldType)).before args0 about1 = true := code_word (m := ⟨9, 0⟩) (meth := k9m0) (c := k9c0) (by decide +kernel) rfl rfl rfl (by decide +kernel)
set_option maxRecDepth 65536 in
theorem w_c8 : (Jvm.Cond.code ({ cls := "com/example/wire3/wire3/Indicator", name := "bits", desc := "()J" } : Jvm.MethodName) prog_10_method_5_code (1 : Nat) (Option.some Jvm.ClassFile.FieldType.long)).before args0 about1 = true := code_word (m := ⟨9, 2⟩) (meth := k9m2) (c := k9c2) (by decide +kernel) rfl rfl rfl (by decide +kernel)
def codes1 : List Jvm.Cond := [Jvm.Cond.code x code maxLocals ret, Jvm.Cond.code ({ cls := "java/lang/String", name := "valueOf", desc := "(C)Ljava/lang/String;" } : Jvm.MethodName) jdk_42_method_139_code (1 : Nat) (Option.some (Jvm.ClassFile.FieldType.object "java/lang/String")), Jvm.Cond.code ({ cls := "java/lang/StringLatin1", name := "canEncode", desc := "(C)Z" } : Jvm.MethodName) jdk_43_method_3_code (1 : Nat) (Option.some Jvm.ClassFile.FieldType.boolean), Jvm.Cond.code ({ cls := "java/lang/StringLatin1", name := "toBytes", desc := "(C)[B" } : Jvm.MethodName) jdk_43_method_46_code (1 : Nat) (Option.some (Jvm.ClassFile.FieldType.array Jvm.ClassFile.FieldType.byte)), Jvm.Cond.code ({ cls := "java/lang/String", name := "<init>", desc := "([BB)V" } : Jvm.MethodName) jdk_42_method_151_code (3 : Nat) (Option.none : Option Jvm.ClassFile.FieldType), Jvm.Cond.code ({ cls := "java/lang/Object", name := "<init>", desc := "()V" } : Jvm.MethodName) object_method_1_code (1 : Nat) (Option.none : Option Jvm.ClassFile.FieldType), Jvm.Cond.code ({ cls := "com/example/wire3/wire3/Indicator", name := "checked", desc := "(JLjava/lang/String;)Lcom/example/wire3/wire3/Indicator;" } : Jvm.MethodName) prog_10_method_4_code (3 : Nat) (Option.some (Jvm.ClassFile.FieldType.object "com/example/wire3/wire3/Indicator")), Jvm.Cond.code ({ cls := "com/example/wire3/wire3/Indicator", name := "<init>", desc := "(J)V" } : Jvm.MethodName) prog_10_method_1_code (3 : Nat) (Option.none : Option Jvm.ClassFile.FieldType), Jvm.Cond.code ({ cls := "com/example/wire3/wire3/Indicator", name := "bits", desc := "()J" } : Jvm.MethodName) prog_10_method_5_code (1 : Nat) (Option.some Jvm.ClassFile.FieldType.long)]
set_option maxRecDepth 65536 in
theorem codes_eq : words1.filter isCode = codes1 := rfl
theorem w_codes : ∀ c ∈ words1.filter isCode, c.before args0 about1 = true := by
  rw [codes_eq]
  intro c hc
  simp only [codes1, List.mem_cons, List.not_mem_nil, or_false] at hc
  rcases hc with rfl | rfl | rfl | rfl | rfl | rfl | rfl | rfl | rfl
  · exact w_c0
  · exact w_c1
  · exact w_c2
  · exact w_c3
  · exact w_c4
  · exact w_c5
  · exact w_c6
  · exact w_c7
  · exact w_c8
set_option maxRecDepth 65536 in
theorem w_t1 : (words1.take 24).all (fun c => isCode c || c.before args0 about1) = true := by decide +kernel
set_option maxRecDepth 65536 in
theorem w_t2 : (words1.drop 24).all (fun c => isCode c || c.before args0 about1) = true := by decide +kernel
theorem w_tables : (allAtoms (Jvm.Cond.code x code maxLocals ret :: tables_1)).before args0 about1 = true := by
  rw [allAtoms_all]
  show words1.all (fun c => c.before args0 about1) = true
  refine all_split ?_ w_codes
  rw [← List.take_append_drop 24 words1, List.all_append, w_t1, w_t2]
  rfl
set_option maxRecDepth 65536 in
theorem w_rest : rest_1_c.before args0 about1 = true := by decide +kernel
set_option maxRecDepth 65536 in
theorem w_case : (Jvm.Cond.and given_1 narrow_1).before args0 about1 = true := by decide +kernel
theorem w_applies : (headSpec (Jvm.Cond.code x code maxLocals ret :: tables_1) room_1).applies x e0.platform about1 = true :=
  (Spec.applies_iff w_frames).mpr ⟨w_running, w_runnable, w_alone, w_named, w_hears, w_ripe, w_room, w_tables⟩
theorem atStart : AtStart classFile x code maxLocals ret World_1 tables_1 room_1 Calls_1 rest_1 Pre_1 launch0 p0 e0 about1 theMethod args0 below0 :=
  ⟨lists_1, trivial, launch0.admits_env _ _ _, launch0.least_env, fairChoices_fair.cas, fairChoices_fair.clock, w_frames, w_args, w_heap, w_applies, trivial, w_rest, w_case⟩
end start1
theorem witness_1 : WitnessClaimed_1 := ⟨start1.p0, start1.e0, start1.about1, start1.theMethod, start1.args0, start1.below0, start1.atStart⟩
end Jvm.Pilot.@@N@@
