import JvmDerived
import JvmDerived.Pilot.@@N@@Statement
import JvmDerived.Pilot.@@N@@Code
set_option linter.unusedVariables false
set_option linter.unusedSimpArgs false
namespace Jvm.RoadKit
open Sem ClassFile Op Lib Jvm.Stand Jvm.Free Jvm.LawKit
section New
variable {p : Program} {l : Launch} {e : Env} {R : Room} {s : State} {m : MethodId} {args : Array Value} {below : List Frame} {meth : Method} {c : Code} {T : State} {locs : List Loc} {cells slots : Nat}
theorem retI (X : Stand p l e R s m args below meth c T locs cells slots) (hx : p.tables.exec = Jvm.exec) {pc : Nat} {Ls : Array Slot} {z : Int32} {rest : List Value} (hret : meth.sig.returnType = some .int) (hd : decode c.code pc = .ok (.ireturn, 1)) {fs : List Frame}
    (hl : ∀ (f : JFrame) (acts : List Action), f.method = m → f.locked = none → f.entered = [] → (doReturn e (T.setTop f) acts (some (.int z))).1 = T.setFrames fs) : Steps p.tables e below (T.setTop (mkF m pc Ls (.int z :: rest))) (T.setFrames fs) := by
  have hm' : T.vm.method? m = some meth := X.method'
  have hn : narrow .int (.int z) = .int z := rfl
  show Steps p.tables e below (T.setTop { method := m, pc := pc, locals := Ls, stack := _ :: rest, locked := none }) _
  jvm_step X.here [X.here.top, hx, hd, hm', hret, hn]
  first | (intro acts; rw [hl _ acts rfl rfl rfl]) | rw [hl _ _ rfl rfl rfl]
  exact Steps.refl _
theorem own_retA (X : Stand p l e R s m args below meth c T locs cells slots) (hx : p.tables.exec = Jvm.exec) {pc : Nat} {Ls : Array Slot} {w : Value} {t : FieldType} {rest : List Value} (hret : meth.sig.returnType = some t) (ht : t.isReference = true) (hw : w.isRef = true) (hd : decode c.code pc = .ok (.areturn, 1)) {fs : List Frame}
    (hl : ∀ (f : JFrame) (acts : List Action), f.method = m → f.locked = none → f.entered = [] → (doReturn e (T.setTop f) acts (some w)).1 = T.setFrames fs) : Steps p.tables e below (T.setTop (mkF m pc Ls (w :: rest))) (T.setFrames fs) := by
  have hm' : T.vm.method? m = some meth := X.method'
  rcases ref_cases hw with rfl | ⟨z, rfl⟩
  all_goals
    show Steps p.tables e below (T.setTop { method := m, pc := pc, locals := Ls, stack := _ :: rest, locked := none }) _
    jvm_step X.here [X.here.top, hx, hd, hm', hret, Value.isRef]
    try (refine ⟨ht, ?_⟩)
    first | (intro acts; rw [hl _ acts rfl rfl rfl]) | rw [hl _ _ rfl rfl rfl]
    exact Steps.refl _
end New
/-- from U the run comes to an end of which P tells -/
def own_Go (tb : Tables) (e : Env) (below : List Frame) (P : Outcome → State → Prop) (U : State) : Prop := ∃ s₂ o, Steps tb e below U s₂ ∧ s₂.status = .running ∧ Ended s₂ below o ∧ P o s₂
theorem own_st {tb : Tables} {e : Env} {below : List Frame} {P : Outcome → State → Prop} {U V : State} (h : ∀ t, Steps tb e below V t → Steps tb e below U t) (g : own_Go tb e below P V) : own_Go tb e below P U := by
  obtain ⟨s₂, o, h1, r⟩ := g
  exact ⟨s₂, o, h _ h1, r⟩
theorem own_tr {tb : Tables} {e : Env} {below : List Frame} {P : Outcome → State → Prop} {U V : State} (h : Steps tb e below U V) (g : own_Go tb e below P V) : own_Go tb e below P U := by
  obtain ⟨s₂, o, h1, r⟩ := g
  exact ⟨s₂, o, h.trans h1, r⟩
theorem own_end {p : Program} {l : Launch} {e : Env} {R : Room} {s : State} {m : MethodId} {args : Array Value} {below : List Frame} {meth : Method} {c : Code} {T : State} {locs : List Loc} {cells slots : Nat} (X : Stand p l e R s m args below meth c T locs cells slots) {h : Heap} (eT : T.heap = h) {v : Option Value} (hv : meth.sig.returnType = none → v = none) (hlk : meth.locks = false) {g : JFrame}
    (hst : ∀ fs, (∀ (f : JFrame) (acts : List Action), f.method = m → f.locked = none → f.entered = [] → (doReturn e (T.setTop f) acts v).1 = T.setFrames fs) → Steps p.tables e below (T.setTop g) (T.setFrames fs))
    {Q : Option Value → Heap → List Loc → Prop} (hQ : Q v h locs) {cc ss : Nat} (hc : cells ≤ cc) (hs : slots ≤ ss) :
    own_Go p.tables e below (fun o U' => ∃ v L, o = .returned v ∧ Q v U'.heap L ∧ FrameEnd s o U' L cc ss) (T.setTop g) := by
  subst eT
  obtain ⟨fs, hr, hrun, hended, hW, hsame⟩ := X.leave (v := v) hv hlk
  exact ⟨_, _, hst fs hr, hrun, hended, _, _, rfl, hQ, ⟨_, rfl⟩, hW, hsame.mono hc hs⟩
section Steps2
variable {p : Program} {l : Launch} {e : Env} {R : Room} {s : State} {m : MethodId} {args : Array Value} {below : List Frame} {meth : Method} {c : Code} {T : State} {locs : List Loc} {cells slots : Nat} {P : Outcome → State → Prop} {pc : Nat} {Ls : Array Slot} {st : List Value}
theorem o_iloadN (X : Stand p l e R s m args below meth c T locs cells slots) (hx : p.tables.exec = Jvm.exec) {k : Fin 4} {v : Int32} (hd : decode c.code pc = .ok (.iload_n k, 1)) (hl : Ls[k.val]? = some (.val (.int v))) (g : own_Go p.tables e below P (T.setTop (mkF m (pc + 1) Ls (.int v :: st)))) : own_Go p.tables e below P (T.setTop (mkF m pc Ls st)) := own_st (fun t k => XS.iloadN X.here hx rfl hd hl k) g
theorem o_iload (X : Stand p l e R s m args below meth c T locs cells slots) (hx : p.tables.exec = Jvm.exec) {k : Nat} {v : Int32} (hd : decode c.code pc = .ok (.iload k, 2)) (hl : Ls[k]? = some (.val (.int v))) (g : own_Go p.tables e below P (T.setTop (mkF m (pc + 2) Ls (.int v :: st)))) : own_Go p.tables e below P (T.setTop (mkF m pc Ls st)) := own_st (fun t k => XS.iload X.here hx rfl hd hl k) g
theorem o_lloadN (X : Stand p l e R s m args below meth c T locs cells slots) (hx : p.tables.exec = Jvm.exec) {k : Fin 4} {v : Int64} (hd : decode c.code pc = .ok (.lload_n k, 1)) (hl : Ls[k.val]? = some (.val (.long v))) (g : own_Go p.tables e below P (T.setTop (mkF m (pc + 1) Ls (.long v :: st)))) : own_Go p.tables e below P (T.setTop (mkF m pc Ls st)) := own_st (fun t k => XS.lloadN X.here hx rfl hd hl k) g
theorem o_lload (X : Stand p l e R s m args below meth c T locs cells slots) (hx : p.tables.exec = Jvm.exec) {k : Nat} {v : Int64} (hd : decode c.code pc = .ok (.lload k, 2)) (hl : Ls[k]? = some (.val (.long v))) (g : own_Go p.tables e below P (T.setTop (mkF m (pc + 2) Ls (.long v :: st)))) : own_Go p.tables e below P (T.setTop (mkF m pc Ls st)) := own_st (fun t k => XS.lload X.here hx rfl hd hl k) g
theorem o_aloadN (X : Stand p l e R s m args below meth c T locs cells slots) (hx : p.tables.exec = Jvm.exec) {k : Fin 4} {v : Value} (hd : decode c.code pc = .ok (.aload_n k, 1)) (hl : Ls[k.val]? = some (.val v)) (hv : v.isRef = true) (g : own_Go p.tables e below P (T.setTop (mkF m (pc + 1) Ls (v :: st)))) : own_Go p.tables e below P (T.setTop (mkF m pc Ls st)) := own_st (fun t k => XS.aloadN X.here hx rfl hd hl hv k) g
theorem o_aload (X : Stand p l e R s m args below meth c T locs cells slots) (hx : p.tables.exec = Jvm.exec) {k : Nat} {v : Value} (hd : decode c.code pc = .ok (.aload k, 2)) (hl : Ls[k]? = some (.val v)) (hv : v.isRef = true) (g : own_Go p.tables e below P (T.setTop (mkF m (pc + 2) Ls (v :: st)))) : own_Go p.tables e below P (T.setTop (mkF m pc Ls st)) := own_st (fun t k => XS.aload X.here hx rfl hd hl hv k) g
theorem o_istoreN (X : Stand p l e R s m args below meth c T locs cells slots) (hx : p.tables.exec = Jvm.exec) {k : Fin 4} {v : Int32} {l' : Array Slot} (hd : decode c.code pc = .ok (.istore_n k, 1)) (hl : storeLocals Ls k.val (.int v) = some l') (g : own_Go p.tables e below P (T.setTop (mkF m (pc + 1) l' st))) : own_Go p.tables e below P (T.setTop (mkF m pc Ls (.int v :: st))) := own_st (fun t k => XS.istoreN X.here hx rfl hd rfl hl k) g
theorem o_istore (X : Stand p l e R s m args below meth c T locs cells slots) (hx : p.tables.exec = Jvm.exec) {k : Nat} {v : Int32} {l' : Array Slot} (hd : decode c.code pc = .ok (.istore k, 2)) (hl : storeLocals Ls k (.int v) = some l') (g : own_Go p.tables e below P (T.setTop (mkF m (pc + 2) l' st))) : own_Go p.tables e below P (T.setTop (mkF m pc Ls (.int v :: st))) := own_st (fun t k => XS.istore X.here hx rfl hd rfl hl k) g
theorem o_lstoreN (X : Stand p l e R s m args below meth c T locs cells slots) (hx : p.tables.exec = Jvm.exec) {k : Fin 4} {v : Int64} {l' : Array Slot} (hd : decode c.code pc = .ok (.lstore_n k, 1)) (hl : storeLocals Ls k.val (.long v) = some l') (g : own_Go p.tables e below P (T.setTop (mkF m (pc + 1) l' st))) : own_Go p.tables e below P (T.setTop (mkF m pc Ls (.long v :: st))) := own_st (fun t k => XS.lstoreN X.here hx rfl hd rfl hl k) g
theorem o_lstore (X : Stand p l e R s m args below meth c T locs cells slots) (hx : p.tables.exec = Jvm.exec) {k : Nat} {v : Int64} {l' : Array Slot} (hd : decode c.code pc = .ok (.lstore k, 2)) (hl : storeLocals Ls k (.long v) = some l') (g : own_Go p.tables e below P (T.setTop (mkF m (pc + 2) l' st))) : own_Go p.tables e below P (T.setTop (mkF m pc Ls (.long v :: st))) := own_st (fun t k => XS.lstore X.here hx rfl hd rfl hl k) g
theorem o_astoreN (X : Stand p l e R s m args below meth c T locs cells slots) (hx : p.tables.exec = Jvm.exec) {k : Fin 4} {v : Value} {l' : Array Slot} (hd : decode c.code pc = .ok (.astore_n k, 1)) (hv : v.isRef = true) (hl : storeLocals Ls k.val v = some l') (g : own_Go p.tables e below P (T.setTop (mkF m (pc + 1) l' st))) : own_Go p.tables e below P (T.setTop (mkF m pc Ls (v :: st))) := own_st (fun t k => XS.astoreN X.here hx rfl hd rfl hv hl k) g
theorem o_astore (X : Stand p l e R s m args below meth c T locs cells slots) (hx : p.tables.exec = Jvm.exec) {k : Nat} {v : Value} {l' : Array Slot} (hd : decode c.code pc = .ok (.astore k, 2)) (hv : v.isRef = true) (hl : storeLocals Ls k v = some l') (g : own_Go p.tables e below P (T.setTop (mkF m (pc + 2) l' st))) : own_Go p.tables e below P (T.setTop (mkF m pc Ls (v :: st))) := own_st (fun t k => XS.astore X.here hx rfl hd rfl hv hl k) g
theorem o_iconst (X : Stand p l e R s m args below meth c T locs cells slots) (hx : p.tables.exec = Jvm.exec) {i : Int} (z : Int32) (hd : decode c.code pc = .ok (.iconst i, 1)) (hz : Int32.ofInt i = z) (g : own_Go p.tables e below P (T.setTop (mkF m (pc + 1) Ls (.int z :: st)))) : own_Go p.tables e below P (T.setTop (mkF m pc Ls st)) := by subst hz; exact own_st (fun t k => XS.iconst X.here hx rfl hd k) g
theorem o_bipush (X : Stand p l e R s m args below meth c T locs cells slots) (hx : p.tables.exec = Jvm.exec) {i : Int} (z : Int32) (hd : decode c.code pc = .ok (.bipush i, 2)) (hz : (Int8.ofInt i).toInt32 = z) (g : own_Go p.tables e below P (T.setTop (mkF m (pc + 2) Ls (.int z :: st)))) : own_Go p.tables e below P (T.setTop (mkF m pc Ls st)) := by subst hz; exact own_st (fun t k => XS.bipush X.here hx rfl hd k) g
theorem o_sipush (X : Stand p l e R s m args below meth c T locs cells slots) (hx : p.tables.exec = Jvm.exec) {i : Int} (z : Int32) (hd : decode c.code pc = .ok (.sipush i, 3)) (hz : (Int16.ofInt i).toInt32 = z) (g : own_Go p.tables e below P (T.setTop (mkF m (pc + 3) Ls (.int z :: st)))) : own_Go p.tables e below P (T.setTop (mkF m pc Ls st)) := by subst hz; exact own_st (fun t k => XS.sipush X.here hx rfl hd k) g
theorem o_lconst (X : Stand p l e R s m args below meth c T locs cells slots) (hx : p.tables.exec = Jvm.exec) {i : Fin 2} (z : Int64) (hd : decode c.code pc = .ok (.lconst i, 1)) (hz : Int64.ofNat i = z) (g : own_Go p.tables e below P (T.setTop (mkF m (pc + 1) Ls (.long z :: st)))) : own_Go p.tables e below P (T.setTop (mkF m pc Ls st)) := by subst hz; exact own_st (fun t k => XS.lconst X.here hx rfl hd k) g
theorem o_aconstNull (X : Stand p l e R s m args below meth c T locs cells slots) (hx : p.tables.exec = Jvm.exec) (hd : decode c.code pc = .ok (.aconst_null, 1)) (g : own_Go p.tables e below P (T.setTop (mkF m (pc + 1) Ls (.null :: st)))) : own_Go p.tables e below P (T.setTop (mkF m pc Ls st)) := own_st (fun t k => XS.aconstNull X.here hx rfl hd k) g
theorem o_iadd (X : Stand p l e R s m args below meth c T locs cells slots) (hx : p.tables.exec = Jvm.exec) {x y : Int32} (hd : decode c.code pc = .ok (.iadd, 1)) (g : own_Go p.tables e below P (T.setTop (mkF m (pc + 1) Ls (.int (x + y) :: st)))) : own_Go p.tables e below P (T.setTop (mkF m pc Ls (.int y :: .int x :: st))) := own_st (fun t k => XS.iadd X.here hx rfl hd rfl k) g
theorem o_ladd (X : Stand p l e R s m args below meth c T locs cells slots) (hx : p.tables.exec = Jvm.exec) {x y : Int64} (hd : decode c.code pc = .ok (.ladd, 1)) (g : own_Go p.tables e below P (T.setTop (mkF m (pc + 1) Ls (.long (x + y) :: st)))) : own_Go p.tables e below P (T.setTop (mkF m pc Ls (.long y :: .long x :: st))) := own_st (fun t k => XS.ladd X.here hx rfl hd rfl k) g
theorem o_isub (X : Stand p l e R s m args below meth c T locs cells slots) (hx : p.tables.exec = Jvm.exec) {x y : Int32} (hd : decode c.code pc = .ok (.isub, 1)) (g : own_Go p.tables e below P (T.setTop (mkF m (pc + 1) Ls (.int (x - y) :: st)))) : own_Go p.tables e below P (T.setTop (mkF m pc Ls (.int y :: .int x :: st))) := own_st (fun t k => XS.isub X.here hx rfl hd rfl k) g
theorem o_lsub (X : Stand p l e R s m args below meth c T locs cells slots) (hx : p.tables.exec = Jvm.exec) {x y : Int64} (hd : decode c.code pc = .ok (.lsub, 1)) (g : own_Go p.tables e below P (T.setTop (mkF m (pc + 1) Ls (.long (x - y) :: st)))) : own_Go p.tables e below P (T.setTop (mkF m pc Ls (.long y :: .long x :: st))) := own_st (fun t k => XS.lsub X.here hx rfl hd rfl k) g
theorem o_imul (X : Stand p l e R s m args below meth c T locs cells slots) (hx : p.tables.exec = Jvm.exec) {x y : Int32} (hd : decode c.code pc = .ok (.imul, 1)) (g : own_Go p.tables e below P (T.setTop (mkF m (pc + 1) Ls (.int (x * y) :: st)))) : own_Go p.tables e below P (T.setTop (mkF m pc Ls (.int y :: .int x :: st))) := own_st (fun t k => XS.imul X.here hx rfl hd rfl k) g
theorem o_lmul (X : Stand p l e R s m args below meth c T locs cells slots) (hx : p.tables.exec = Jvm.exec) {x y : Int64} (hd : decode c.code pc = .ok (.lmul, 1)) (g : own_Go p.tables e below P (T.setTop (mkF m (pc + 1) Ls (.long (x * y) :: st)))) : own_Go p.tables e below P (T.setTop (mkF m pc Ls (.long y :: .long x :: st))) := own_st (fun t k => XS.lmul X.here hx rfl hd rfl k) g
theorem o_iand (X : Stand p l e R s m args below meth c T locs cells slots) (hx : p.tables.exec = Jvm.exec) {x y : Int32} (hd : decode c.code pc = .ok (.iand, 1)) (g : own_Go p.tables e below P (T.setTop (mkF m (pc + 1) Ls (.int (x &&& y) :: st)))) : own_Go p.tables e below P (T.setTop (mkF m pc Ls (.int y :: .int x :: st))) := own_st (fun t k => XS.iand X.here hx rfl hd rfl k) g
theorem o_land (X : Stand p l e R s m args below meth c T locs cells slots) (hx : p.tables.exec = Jvm.exec) {x y : Int64} (hd : decode c.code pc = .ok (.land, 1)) (g : own_Go p.tables e below P (T.setTop (mkF m (pc + 1) Ls (.long (x &&& y) :: st)))) : own_Go p.tables e below P (T.setTop (mkF m pc Ls (.long y :: .long x :: st))) := own_st (fun t k => XS.land X.here hx rfl hd rfl k) g
theorem o_ior (X : Stand p l e R s m args below meth c T locs cells slots) (hx : p.tables.exec = Jvm.exec) {x y : Int32} (hd : decode c.code pc = .ok (.ior, 1)) (g : own_Go p.tables e below P (T.setTop (mkF m (pc + 1) Ls (.int (x ||| y) :: st)))) : own_Go p.tables e below P (T.setTop (mkF m pc Ls (.int y :: .int x :: st))) := own_st (fun t k => XS.ior X.here hx rfl hd rfl k) g
theorem o_lor (X : Stand p l e R s m args below meth c T locs cells slots) (hx : p.tables.exec = Jvm.exec) {x y : Int64} (hd : decode c.code pc = .ok (.lor, 1)) (g : own_Go p.tables e below P (T.setTop (mkF m (pc + 1) Ls (.long (x ||| y) :: st)))) : own_Go p.tables e below P (T.setTop (mkF m pc Ls (.long y :: .long x :: st))) := own_st (fun t k => XS.lor X.here hx rfl hd rfl k) g
theorem o_ixor (X : Stand p l e R s m args below meth c T locs cells slots) (hx : p.tables.exec = Jvm.exec) {x y : Int32} (hd : decode c.code pc = .ok (.ixor, 1)) (g : own_Go p.tables e below P (T.setTop (mkF m (pc + 1) Ls (.int (x ^^^ y) :: st)))) : own_Go p.tables e below P (T.setTop (mkF m pc Ls (.int y :: .int x :: st))) := own_st (fun t k => XS.ixor X.here hx rfl hd rfl k) g
theorem o_lxor (X : Stand p l e R s m args below meth c T locs cells slots) (hx : p.tables.exec = Jvm.exec) {x y : Int64} (hd : decode c.code pc = .ok (.lxor, 1)) (g : own_Go p.tables e below P (T.setTop (mkF m (pc + 1) Ls (.long (x ^^^ y) :: st)))) : own_Go p.tables e below P (T.setTop (mkF m pc Ls (.long y :: .long x :: st))) := own_st (fun t k => XS.lxor X.here hx rfl hd rfl k) g
theorem o_idiv (X : Stand p l e R s m args below meth c T locs cells slots) (hx : p.tables.exec = Jvm.exec) {x y : Int32} (hd : decode c.code pc = .ok (.idiv, 1)) (hy : y ≠ 0) (g : own_Go p.tables e below P (T.setTop (mkF m (pc + 1) Ls (.int (x / y) :: st)))) : own_Go p.tables e below P (T.setTop (mkF m pc Ls (.int y :: .int x :: st))) := own_st (fun t k => XS.idiv X.here hx rfl hd rfl hy k) g
theorem o_irem (X : Stand p l e R s m args below meth c T locs cells slots) (hx : p.tables.exec = Jvm.exec) {x y : Int32} (hd : decode c.code pc = .ok (.irem, 1)) (hy : y ≠ 0) (g : own_Go p.tables e below P (T.setTop (mkF m (pc + 1) Ls (.int (x - x / y * y) :: st)))) : own_Go p.tables e below P (T.setTop (mkF m pc Ls (.int y :: .int x :: st))) := own_st (fun t k => XS.irem X.here hx rfl hd rfl hy k) g
theorem o_ldiv (X : Stand p l e R s m args below meth c T locs cells slots) (hx : p.tables.exec = Jvm.exec) {x y : Int64} (hd : decode c.code pc = .ok (.ldiv, 1)) (hy : y ≠ 0) (g : own_Go p.tables e below P (T.setTop (mkF m (pc + 1) Ls (.long (x / y) :: st)))) : own_Go p.tables e below P (T.setTop (mkF m pc Ls (.long y :: .long x :: st))) := own_st (fun t k => XS.ldiv X.here hx rfl hd rfl hy k) g
theorem o_lrem (X : Stand p l e R s m args below meth c T locs cells slots) (hx : p.tables.exec = Jvm.exec) {x y : Int64} (hd : decode c.code pc = .ok (.lrem, 1)) (hy : y ≠ 0) (g : own_Go p.tables e below P (T.setTop (mkF m (pc + 1) Ls (.long (x - x / y * y) :: st)))) : own_Go p.tables e below P (T.setTop (mkF m pc Ls (.long y :: .long x :: st))) := own_st (fun t k => XS.lrem X.here hx rfl hd rfl hy k) g
theorem o_ineg (X : Stand p l e R s m args below meth c T locs cells slots) (hx : p.tables.exec = Jvm.exec) {x : Int32} (hd : decode c.code pc = .ok (.ineg, 1)) (g : own_Go p.tables e below P (T.setTop (mkF m (pc + 1) Ls (.int ((-x)) :: st)))) : own_Go p.tables e below P (T.setTop (mkF m pc Ls (.int x :: st))) := own_st (fun t k => XS.ineg X.here hx rfl hd rfl k) g
theorem o_lneg (X : Stand p l e R s m args below meth c T locs cells slots) (hx : p.tables.exec = Jvm.exec) {x : Int64} (hd : decode c.code pc = .ok (.lneg, 1)) (g : own_Go p.tables e below P (T.setTop (mkF m (pc + 1) Ls (.long ((-x)) :: st)))) : own_Go p.tables e below P (T.setTop (mkF m pc Ls (.long x :: st))) := own_st (fun t k => XS.lneg X.here hx rfl hd rfl k) g
theorem o_i2l (X : Stand p l e R s m args below meth c T locs cells slots) (hx : p.tables.exec = Jvm.exec) {x : Int32} (hd : decode c.code pc = .ok (.i2l, 1)) (g : own_Go p.tables e below P (T.setTop (mkF m (pc + 1) Ls (.long (x.toInt64) :: st)))) : own_Go p.tables e below P (T.setTop (mkF m pc Ls (.int x :: st))) := own_st (fun t k => XS.i2l X.here hx rfl hd rfl k) g
theorem o_l2i (X : Stand p l e R s m args below meth c T locs cells slots) (hx : p.tables.exec = Jvm.exec) {x : Int64} (hd : decode c.code pc = .ok (.l2i, 1)) (g : own_Go p.tables e below P (T.setTop (mkF m (pc + 1) Ls (.int (x.toInt32) :: st)))) : own_Go p.tables e below P (T.setTop (mkF m pc Ls (.long x :: st))) := own_st (fun t k => XS.l2i X.here hx rfl hd rfl k) g
theorem o_i2b (X : Stand p l e R s m args below meth c T locs cells slots) (hx : p.tables.exec = Jvm.exec) {x : Int32} (hd : decode c.code pc = .ok (.i2b, 1)) (g : own_Go p.tables e below P (T.setTop (mkF m (pc + 1) Ls (.int (x.toInt8.toInt32) :: st)))) : own_Go p.tables e below P (T.setTop (mkF m pc Ls (.int x :: st))) := own_st (fun t k => XS.i2b X.here hx rfl hd rfl k) g
theorem o_i2s (X : Stand p l e R s m args below meth c T locs cells slots) (hx : p.tables.exec = Jvm.exec) {x : Int32} (hd : decode c.code pc = .ok (.i2s, 1)) (g : own_Go p.tables e below P (T.setTop (mkF m (pc + 1) Ls (.int (x.toInt16.toInt32) :: st)))) : own_Go p.tables e below P (T.setTop (mkF m pc Ls (.int x :: st))) := own_st (fun t k => XS.i2s X.here hx rfl hd rfl k) g
theorem o_i2c (X : Stand p l e R s m args below meth c T locs cells slots) (hx : p.tables.exec = Jvm.exec) {x : Int32} (hd : decode c.code pc = .ok (.i2c, 1)) (g : own_Go p.tables e below P (T.setTop (mkF m (pc + 1) Ls (.int (x.toUInt32.toUInt16.toUInt32.toInt32) :: st)))) : own_Go p.tables e below P (T.setTop (mkF m pc Ls (.int x :: st))) := own_st (fun t k => XS.i2c X.here hx rfl hd rfl k) g
theorem o_ishl (X : Stand p l e R s m args below meth c T locs cells slots) (hx : p.tables.exec = Jvm.exec) {x : Int32} {y : Int32} (hd : decode c.code pc = .ok (.ishl, 1)) (g : own_Go p.tables e below P (T.setTop (mkF m (pc + 1) Ls (.int (x <<< (y &&& 31)) :: st)))) : own_Go p.tables e below P (T.setTop (mkF m pc Ls (.int y :: .int x :: st))) := own_st (fun t k => XS.ishl X.here hx rfl hd rfl k) g
theorem o_ishr (X : Stand p l e R s m args below meth c T locs cells slots) (hx : p.tables.exec = Jvm.exec) {x : Int32} {y : Int32} (hd : decode c.code pc = .ok (.ishr, 1)) (g : own_Go p.tables e below P (T.setTop (mkF m (pc + 1) Ls (.int (x >>> (y &&& 31)) :: st)))) : own_Go p.tables e below P (T.setTop (mkF m pc Ls (.int y :: .int x :: st))) := own_st (fun t k => XS.ishr X.here hx rfl hd rfl k) g
theorem o_iushr (X : Stand p l e R s m args below meth c T locs cells slots) (hx : p.tables.exec = Jvm.exec) {x : Int32} {y : Int32} (hd : decode c.code pc = .ok (.iushr, 1)) (g : own_Go p.tables e below P (T.setTop (mkF m (pc + 1) Ls (.int ((x.toUInt32 >>> (y &&& 31).toUInt32).toInt32) :: st)))) : own_Go p.tables e below P (T.setTop (mkF m pc Ls (.int y :: .int x :: st))) := own_st (fun t k => XS.iushr X.here hx rfl hd rfl k) g
theorem o_lshl (X : Stand p l e R s m args below meth c T locs cells slots) (hx : p.tables.exec = Jvm.exec) {x : Int64} {y : Int32} (hd : decode c.code pc = .ok (.lshl, 1)) (g : own_Go p.tables e below P (T.setTop (mkF m (pc + 1) Ls (.long (x <<< (y &&& 0x3f).toInt64) :: st)))) : own_Go p.tables e below P (T.setTop (mkF m pc Ls (.int y :: .long x :: st))) := own_st (fun t k => XS.lshl X.here hx rfl hd rfl k) g
theorem o_lshr (X : Stand p l e R s m args below meth c T locs cells slots) (hx : p.tables.exec = Jvm.exec) {x : Int64} {y : Int32} (hd : decode c.code pc = .ok (.lshr, 1)) (g : own_Go p.tables e below P (T.setTop (mkF m (pc + 1) Ls (.long (x >>> (y &&& 0x3f).toInt64) :: st)))) : own_Go p.tables e below P (T.setTop (mkF m pc Ls (.int y :: .long x :: st))) := own_st (fun t k => XS.lshr X.here hx rfl hd rfl k) g
theorem o_lushr (X : Stand p l e R s m args below meth c T locs cells slots) (hx : p.tables.exec = Jvm.exec) {x : Int64} {y : Int32} (hd : decode c.code pc = .ok (.lushr, 1)) (g : own_Go p.tables e below P (T.setTop (mkF m (pc + 1) Ls (.long ((x.toUInt64 >>> (y &&& 0x3f).toInt64.toUInt64).toInt64) :: st)))) : own_Go p.tables e below P (T.setTop (mkF m pc Ls (.int y :: .long x :: st))) := own_st (fun t k => XS.lushr X.here hx rfl hd rfl k) g
theorem o_lcmp (X : Stand p l e R s m args below meth c T locs cells slots) (hx : p.tables.exec = Jvm.exec) {x y : Int64} (hd : decode c.code pc = .ok (.lcmp, 1)) (g : own_Go p.tables e below P (T.setTop (mkF m (pc + 1) Ls (.int (lcmpW x y) :: st)))) : own_Go p.tables e below P (T.setTop (mkF m pc Ls (.long y :: .long x :: st))) := own_st (fun t k => XS.lcmp X.here hx rfl hd rfl k) g
theorem o_iinc (X : Stand p l e R s m args below meth c T locs cells slots) (hx : p.tables.exec = Jvm.exec) {k : Nat} {cst : Int} {x : Int32} {l' : Array Slot} (hd : decode c.code pc = .ok (.iinc k cst, 3)) (hl : Ls[k]? = some (.val (.int x))) (hl' : storeLocals Ls k (.int (x + Int32.ofInt cst)) = some l') (g : own_Go p.tables e below P (T.setTop (mkF m (pc + 3) l' st))) : own_Go p.tables e below P (T.setTop (mkF m pc Ls st)) := own_st (fun t k => XS.iinc X.here hx rfl hd hl hl' k) g
theorem o_dup (X : Stand p l e R s m args below meth c T locs cells slots) (hx : p.tables.exec = Jvm.exec) {x : Value} (hd : decode c.code pc = .ok (.dup, 1)) (hc : x.category = 1) (g : own_Go p.tables e below P (T.setTop (mkF m (pc + 1) Ls (x :: x :: st)))) : own_Go p.tables e below P (T.setTop (mkF m pc Ls (x :: st))) := own_st (fun t k => XS.dup X.here hx rfl hd rfl hc k) g
theorem o_pop (X : Stand p l e R s m args below meth c T locs cells slots) (hx : p.tables.exec = Jvm.exec) {x : Value} (hd : decode c.code pc = .ok (.pop, 1)) (hc : x.category = 1) (g : own_Go p.tables e below P (T.setTop (mkF m (pc + 1) Ls st))) : own_Go p.tables e below P (T.setTop (mkF m pc Ls (x :: st))) := own_st (fun t k => XS.pop X.here hx rfl hd rfl hc k) g
theorem o_dupX1 (X : Stand p l e R s m args below meth c T locs cells slots) (hx : p.tables.exec = Jvm.exec) {x y : Value} (hd : decode c.code pc = .ok (.dup_x1, 1)) (hc : x.category = 1) (hc' : y.category = 1) (g : own_Go p.tables e below P (T.setTop (mkF m (pc + 1) Ls (x :: y :: x :: st)))) : own_Go p.tables e below P (T.setTop (mkF m pc Ls (x :: y :: st))) := own_st (fun t k => XS.dupX1 X.here hx rfl hd rfl hc hc' k) g
theorem o_dup2 (X : Stand p l e R s m args below meth c T locs cells slots) (hx : p.tables.exec = Jvm.exec) {x y : Value} (hd : decode c.code pc = .ok (.dup2, 1)) (hc : x.category = 1) (hc' : y.category = 1) (g : own_Go p.tables e below P (T.setTop (mkF m (pc + 1) Ls (x :: y :: x :: y :: st)))) : own_Go p.tables e below P (T.setTop (mkF m pc Ls (x :: y :: st))) := own_st (fun t k => Jvm.Free.XT.dup2 X.here hx rfl hd rfl hc hc' k) g
theorem o_goto (X : Stand p l e R s m args below meth c T locs cells slots) (hx : p.tables.exec = Jvm.exec) {o : Int} {pc' : Nat} (hd : decode c.code pc = .ok (.goto o, 3)) (ho : 0 ≤ (pc : Int) + o) (hp : ((pc : Int) + o).toNat = pc') (g : own_Go p.tables e below P (T.setTop (mkF m pc' Ls st))) : own_Go p.tables e below P (T.setTop (mkF m pc Ls st)) := own_st (fun t k => XS.goto X.here hx rfl rfl hd ho hp k) g
theorem o_ifYes (X : Stand p l e R s m args below meth c T locs cells slots) (hx : p.tables.exec = Jvm.exec) {cd : ClassFile.Cond} {x : Int32} {o : Int} {pc' : Nat} (hd : decode c.code pc = .ok (.ifCond cd o, 3)) (hc : if_icmp.holds cd x 0 = true) (ho : 0 ≤ (pc : Int) + o) (hp : ((pc : Int) + o).toNat = pc') (g : own_Go p.tables e below P (T.setTop (mkF m pc' Ls st))) : own_Go p.tables e below P (T.setTop (mkF m pc Ls (.int x :: st))) := own_st (fun t k => XS.ifYes X.here hx rfl rfl hd rfl ((if0 _ _).trans hc) ho hp k) g
theorem o_ifNo (X : Stand p l e R s m args below meth c T locs cells slots) (hx : p.tables.exec = Jvm.exec) {cd : ClassFile.Cond} {x : Int32} {o : Int} (hd : decode c.code pc = .ok (.ifCond cd o, 3)) (hc : if_icmp.holds cd x 0 = false) (g : own_Go p.tables e below P (T.setTop (mkF m (pc + 3) Ls st))) : own_Go p.tables e below P (T.setTop (mkF m pc Ls (.int x :: st))) := own_st (fun t k => XS.ifNo X.here hx rfl hd rfl ((if0 _ _).trans hc) k) g
theorem o_icmpYes (X : Stand p l e R s m args below meth c T locs cells slots) (hx : p.tables.exec = Jvm.exec) {cd : ClassFile.Cond} {x y : Int32} {o : Int} {pc' : Nat} (hd : decode c.code pc = .ok (.if_icmp cd o, 3)) (hc : if_icmp.holds cd x y = true) (ho : 0 ≤ (pc : Int) + o) (hp : ((pc : Int) + o).toNat = pc') (g : own_Go p.tables e below P (T.setTop (mkF m pc' Ls st))) : own_Go p.tables e below P (T.setTop (mkF m pc Ls (.int y :: .int x :: st))) := own_st (fun t k => XS.icmpYes X.here hx rfl rfl hd rfl hc ho hp k) g
theorem o_icmpNo (X : Stand p l e R s m args below meth c T locs cells slots) (hx : p.tables.exec = Jvm.exec) {cd : ClassFile.Cond} {x y : Int32} {o : Int} (hd : decode c.code pc = .ok (.if_icmp cd o, 3)) (hc : if_icmp.holds cd x y = false) (g : own_Go p.tables e below P (T.setTop (mkF m (pc + 3) Ls st))) : own_Go p.tables e below P (T.setTop (mkF m pc Ls (.int y :: .int x :: st))) := own_st (fun t k => XS.icmpNo X.here hx rfl hd rfl hc k) g
theorem o_ifnullYes (X : Stand p l e R s m args below meth c T locs cells slots) (hx : p.tables.exec = Jvm.exec) {o : Int} {pc' : Nat} (hd : decode c.code pc = .ok (.ifnull o, 3)) (ho : 0 ≤ (pc : Int) + o) (hp : ((pc : Int) + o).toNat = pc') (g : own_Go p.tables e below P (T.setTop (mkF m pc' Ls st))) : own_Go p.tables e below P (T.setTop (mkF m pc Ls (.null :: st))) := own_st (fun t k => XS.ifnullYes X.here hx rfl rfl hd rfl ho hp k) g
theorem o_ifnullNo (X : Stand p l e R s m args below meth c T locs cells slots) (hx : p.tables.exec = Jvm.exec) {o : Int} {b : Addr} (hd : decode c.code pc = .ok (.ifnull o, 3)) (g : own_Go p.tables e below P (T.setTop (mkF m (pc + 3) Ls st))) : own_Go p.tables e below P (T.setTop (mkF m pc Ls (.ref b :: st))) := own_st (fun t k => XS.ifnullNo X.here hx rfl hd rfl k) g
theorem o_ifnonnullNo (X : Stand p l e R s m args below meth c T locs cells slots) (hx : p.tables.exec = Jvm.exec) {o : Int} (hd : decode c.code pc = .ok (.ifnonnull o, 3)) (g : own_Go p.tables e below P (T.setTop (mkF m (pc + 3) Ls st))) : own_Go p.tables e below P (T.setTop (mkF m pc Ls (.null :: st))) := own_st (fun t k => XS.ifnonnullNo X.here hx rfl hd rfl k) g
theorem o_ifnonnullYes (X : Stand p l e R s m args below meth c T locs cells slots) (hx : p.tables.exec = Jvm.exec) {o : Int} {b : Addr} {pc' : Nat} (hd : decode c.code pc = .ok (.ifnonnull o, 3)) (ho : 0 ≤ (pc : Int) + o) (hp : ((pc : Int) + o).toNat = pc') (g : own_Go p.tables e below P (T.setTop (mkF m pc' Ls st))) : own_Go p.tables e below P (T.setTop (mkF m pc Ls (.ref b :: st))) := own_st (fun t k => XS.ifnonnullYes X.here hx rfl rfl hd rfl ho hp k) g
theorem o_ldc (X : Stand p l e R s m args below meth c T locs cells slots) (hx : p.tables.exec = Jvm.exec) {own : String} {index : Nat} {v : Int32} (hown : s.vm.findClass own = some m.cls) (hd : decode c.code pc = .ok (.ldc index, 2)) (hk : (Cond.constant own index v).before args s = true) (g : own_Go p.tables e below P (T.setTop (mkF m (pc + 2) Ls (.int v :: st)))) : own_Go p.tables e below P (T.setTop (mkF m pc Ls st)) := own_st (X.ldcInt hx hown hk (g := mkF m pc Ls st) rfl hd) g
theorem o_ldc2 (X : Stand p l e R s m args below meth c T locs cells slots) (hx : p.tables.exec = Jvm.exec) {own : String} {index : Nat} {v : Int64} (hown : s.vm.findClass own = some m.cls) (hd : decode c.code pc = .ok (.ldc2_w index, 3)) (hk : (Cond.constantLong own index v).before args s = true) (g : own_Go p.tables e below P (T.setTop (mkF m (pc + 3) Ls (.long v :: st)))) : own_Go p.tables e below P (T.setTop (mkF m pc Ls st)) := own_st (X.ldc2Long hx hown hk (g := mkF m pc Ls st) rfl hd) g
end Steps2
end Jvm.RoadKit
namespace Jvm.Pilot.@@N@@
open Jvm Jvm.ClassFile Sem Op Lib Jvm.Free Jvm.Stand Jvm.LawKit Jvm.RoadKit Bundle Jvm.Pilot.@@N@@.Jvm.D
theorem pn_1 : plainName "com/example/causyn/causyn/synthesis/Multiset" = true := by first | (simp [plainName, overriddenIn]; done) | decide +kernel
theorem d1_0 : decode prog_66_method_1_code 0 = .ok (.aload_n 0, 1) := by decide +kernel
theorem d1_1 : decode prog_66_method_1_code 1 = .ok (.invokespecial 1, 3) := by decide +kernel
theorem d1_4 : decode prog_66_method_1_code 4 = .ok (.aload_n 0, 1) := by decide +kernel
theorem d1_5 : decode prog_66_method_1_code 5 = .ok (.aload_n 1, 1) := by decide +kernel
theorem d1_6 : decode prog_66_method_1_code 6 = .ok (.putfield 7, 3) := by decide +kernel
theorem d1_9 : decode prog_66_method_1_code 9 = .ok (.return_, 1) := by decide +kernel
theorem ef_rm1 (m : MethodId) (a1 : Addr) (a2 : Addr) : entryFrame m #[(.ref a1), (.ref a2)] 2 = mkF m 0 #[rv a1, rv a2] [] := by first | (simp [entryFrame, mkF, argsToLocals, Value.category]; done) | rfl
def Q_rm1 (Z : State) (a0 : Array Value) (a1 : Addr) (a2 : Addr)  (h0 : Heap) (n0 : Nat) (v : Option Value) (h : Heap) (L : List Loc) : Prop := v = none ∧ Fr n0 L ∧ Keep h0 h [a1] ∧ Fld Z h a1 "com/example/causyn/causyn/synthesis/Multiset" "counts" "[I" (.ref a2)
set_option maxRecDepth 65536 in
set_option maxHeartbeats 40000000 in
theorem rm1 (l : Launch) (Z : State) (a0 : Array Value) (hw : ∀ d ∈ tables_1, d.before a0 Z = true) (ws : List Jvm.Cond) (a1 : Addr) (a2 : Addr)  (h0 : Heap) (n0 : Nat) (Z0 : n0 ≤ h0.size) (E1 : Exa Z h0 a1 "com/example/causyn/causyn/synthesis/Multiset") (g1 : n0 ≤ a1) (F0 : Fld Z h0 a1 "com/example/causyn/causyn/synthesis/Multiset" "counts" "[I" .null) :
    MetFree l (⟨"com/example/causyn/causyn/synthesis/Multiset", "<init>", "([I)V"⟩ : MethodName) (head1 (Jvm.Cond.code (⟨"com/example/causyn/causyn/synthesis/Multiset", "<init>", "([I)V"⟩ : MethodName) prog_66_method_1_code 2 none :: ws) ({ frames := 1, cells := 0, slots := 0, locals := 12 } : Room)) (fun a U => a = #[(.ref a1), (.ref a2)] ∧ Z.Warmed39 U.vm ∧ U.heap = h0) (fun _ _ _ _ _ => True) (fun _ U o U' => ∃ v L, o = .returned v ∧ Q_rm1 Z a0 a1 a2 h0 n0 v U'.heap L ∧ FrameEnd U o U' L ({ frames := 1, cells := 0, slots := 0, locals := 12 } : Room).cells ({ frames := 1, cells := 0, slots := 0, locals := 12 } : Room).slots) := by
  refine MetFree.of_bodySF (plainFor_of_name pn_1) hisR ?_
  intro p e s m args below meth c s₁ Bd hml0 hP hK
  obtain ⟨rfl, hZ, hh⟩ := hP
  have hx := Bd.exec
  have hby := Bd.bytes
  have hml : c.maxLocals = 2 := hml0
  have hown : s.vm.findClass "com/example/causyn/causyn/synthesis/Multiset" = some m.cls := findClass_of_methodNamed Bd.named
  have hnm := (name_of_methodNamed Bd.named Bd.method).1
  have hlk : meth.locks = false := BodyLoose.notSynchronized (by assumption)
  have X0 : Stand p l e ({ frames := 1, cells := 0, slots := 0, locals := 12 } : Room) s m #[(.ref a1), (.ref a2)] below meth c s₁ [] 0 0 := Stand.of_body Bd
  have e0 : s₁.heap = h0 := by rw [← hh, Bd.state]; rfl
  have N0 := Fr.nil n0
  show own_Go p.tables e below (fun o U' => ∃ v L, o = .returned v ∧ Q_rm1 Z a0 a1 a2 h0 n0 v U'.heap L ∧ FrameEnd s o U' L ({ frames := 1, cells := 0, slots := 0, locals := 12 } : Room).cells ({ frames := 1, cells := 0, slots := 0, locals := 12 } : Room).slots) (s₁.setTop (entryFrame m #[(.ref a1), (.ref a2)] 2))
  refine own_st (fun t k => castTop (ef_rm1 m a1 a2) k) ?_
  show own_Go _ _ _ _ (s₁.setTop (mkF m 0 #[rv a1, rv a2] []))
  refine o_aloadN X0 hx (hb hby d1_0) rfl rfl ?_
  obtain ⟨T1, X1, e1, st1⟩ := initO X0 hx hZ hown (hw _ (List.mem_of_getElem? (i := 7) rfl)) (hw _ (List.mem_of_getElem? (i := 8) rfl)) (hw _ (List.mem_of_getElem? (i := 9) rfl)) e0 (g := (mkF m 1 #[rv a1, rv a2] [(.ref a1)])) rfl (by rw [hml]; rfl) rfl (hb hby d1_1) (by decide) (W := 0) (by show 2 * 0 + _ ≤ _; exact Nat.le_of_eq rfl) (by decide)
  refine own_st st1 ?_
  show own_Go _ _ _ _ (T1.setTop (mkF m 4 #[rv a1, rv a2] []))
  refine o_aloadN X1 hx (hb hby d1_4) rfl rfl ?_
  refine o_aloadN X1 hx (hb hby d1_5) rfl rfl ?_
  obtain ⟨T2, h2, X2, e2, W2, st2⟩ := putF X1 hx hZ hown (host := "") (Or.inl (hw _ (List.mem_of_getElem? (i := 10) rfl))) Via.refl e1 F0 E1 (Or.inr ⟨(hw _ (List.mem_of_getElem? (i := 11) rfl)), rfl, hnm⟩) (hw _ (List.mem_of_getElem? (i := 2) rfl)) (ty := (.array .int)) (by decide) rfl rfl (g := (mkF m 6 #[rv a1, rv a2] [(.ref a2), (.ref a1)])) rfl rfl (hb hby d1_6)
  refine own_st st2 ?_
  have N2 := Fr.snoc X2 N0 g1
  show own_Go _ _ _ _ (T2.setTop (mkF m 9 #[rv a1, rv a2] []))
  have Kp3 : Keep h0 h2 [a1] := ((Keep.refl h0 [a1]).wr W2 (Or.inl (List.mem_of_getElem? (i := 0) rfl)))
  have Fa4 := (F0.same W2)
  exact own_end X2 e2 (v := none) (fun _ => rfl) hlk (fun fs hr => X2.returnOut hx Bd.returns (hb hby d1_9) hr) (Q := Q_rm1 Z a0 a1 a2 h0 n0) ⟨rfl, N2, Kp3, Fa4⟩ (by decide) (by decide)
theorem d3_0 : decode prog_66_method_4_code 0 = .ok (.lconst 0, 1) := by decide +kernel
theorem d3_1 : decode prog_66_method_4_code 1 = .ok (.lstore_n 1, 1) := by decide +kernel
theorem d3_2 : decode prog_66_method_4_code 2 = .ok (.aload_n 0, 1) := by decide +kernel
theorem d3_3 : decode prog_66_method_4_code 3 = .ok (.getfield 7, 3) := by decide +kernel
theorem d3_6 : decode prog_66_method_4_code 6 = .ok (.astore_n 3, 1) := by decide +kernel
theorem d3_7 : decode prog_66_method_4_code 7 = .ok (.aload_n 3, 1) := by decide +kernel
theorem d3_8 : decode prog_66_method_4_code 8 = .ok (.arraylength, 1) := by decide +kernel
theorem d3_9 : decode prog_66_method_4_code 9 = .ok (.istore 4, 2) := by decide +kernel
theorem d3_11 : decode prog_66_method_4_code 11 = .ok (.iconst 0, 1) := by decide +kernel
theorem d3_12 : decode prog_66_method_4_code 12 = .ok (.istore 5, 2) := by decide +kernel
theorem d3_14 : decode prog_66_method_4_code 14 = .ok (.iload 5, 2) := by decide +kernel
theorem d3_16 : decode prog_66_method_4_code 16 = .ok (.iload 4, 2) := by decide +kernel
theorem d3_18 : decode prog_66_method_4_code 18 = .ok (.if_icmp .ge 21, 3) := by decide +kernel
theorem d3_39 : decode prog_66_method_4_code 39 = .ok (.lload_n 1, 1) := by decide +kernel
theorem d3_40 : decode prog_66_method_4_code 40 = .ok (.lreturn, 1) := by decide +kernel
theorem ef_rmtot0 (m : MethodId) (a1 : Addr) : entryFrame m #[(.ref a1)] 7 = mkF m 0 #[rv a1, .unset, .unset, .unset, .unset, .unset, .unset] [] := by first | (simp [entryFrame, mkF, argsToLocals, Value.category]; done) | rfl
def Q_rmtot0 (Z : State) (a0 : Array Value) (a1 : Addr) (a2 : Addr) (k : ClassId) (dv : Value) (h0 : Heap) (n0 : Nat) (v : Option Value) (h : Heap) (L : List Loc) : Prop := v = some (.long (0 : Int64)) ∧ Fr n0 L ∧ h = h0
set_option maxRecDepth 65536 in
set_option maxHeartbeats 40000000 in
theorem rmtot0 (l : Launch) (Z : State) (a0 : Array Value) (hw : ∀ d ∈ tables_1, d.before a0 Z = true) (ws : List Jvm.Cond) (a1 : Addr) (a2 : Addr) (k : ClassId) (dv : Value) (h0 : Heap) (n0 : Nat) (Z0 : n0 ≤ h0.size) (F1 : Fld Z h0 a1 "com/example/causyn/causyn/synthesis/Multiset" "counts" "[I" (.ref a2)) (V1 : Arv Z h0 a2 k .int (0 : Int32) [] dv) :
    MetFree l (⟨"com/example/causyn/causyn/synthesis/Multiset", "total", "()J"⟩ : MethodName) (head1 (Jvm.Cond.code (⟨"com/example/causyn/causyn/synthesis/Multiset", "total", "()J"⟩ : MethodName) prog_66_method_4_code 7 (some .long) :: ws) ({ frames := 0, cells := 0, slots := 0, locals := 0 } : Room)) (fun a U => a = #[(.ref a1)] ∧ Z.Warmed39 U.vm ∧ U.heap = h0) (fun _ _ _ _ _ => True) (fun _ U o U' => ∃ v L, o = .returned v ∧ Q_rmtot0 Z a0 a1 a2 k dv h0 n0 v U'.heap L ∧ FrameEnd U o U' L ({ frames := 0, cells := 0, slots := 0, locals := 0 } : Room).cells ({ frames := 0, cells := 0, slots := 0, locals := 0 } : Room).slots) := by
  refine MetFree.of_bodySF (plainFor_of_name pn_1) hisR ?_
  intro p e s m args below meth c s₁ Bd hml0 hP hK
  obtain ⟨rfl, hZ, hh⟩ := hP
  have hx := Bd.exec
  have hby := Bd.bytes
  have hml : c.maxLocals = 7 := hml0
  have hown : s.vm.findClass "com/example/causyn/causyn/synthesis/Multiset" = some m.cls := findClass_of_methodNamed Bd.named
  have hnm := (name_of_methodNamed Bd.named Bd.method).1
  have hlk : meth.locks = false := BodyLoose.notSynchronized (by assumption)
  have X0 : Stand p l e ({ frames := 0, cells := 0, slots := 0, locals := 0 } : Room) s m #[(.ref a1)] below meth c s₁ [] 0 0 := Stand.of_body Bd
  have e0 : s₁.heap = h0 := by rw [← hh, Bd.state]; rfl
  have N0 := Fr.nil n0
  show own_Go p.tables e below (fun o U' => ∃ v L, o = .returned v ∧ Q_rmtot0 Z a0 a1 a2 k dv h0 n0 v U'.heap L ∧ FrameEnd s o U' L ({ frames := 0, cells := 0, slots := 0, locals := 0 } : Room).cells ({ frames := 0, cells := 0, slots := 0, locals := 0 } : Room).slots) (s₁.setTop (entryFrame m #[(.ref a1)] 7))
  refine own_st (fun t k => castTop (ef_rmtot0 m a1) k) ?_
  show own_Go _ _ _ _ (s₁.setTop (mkF m 0 #[rv a1, .unset, .unset, .unset, .unset, .unset, .unset] []))
  refine o_lconst X0 hx 0 (hb hby d3_0) rfl ?_
  refine o_lstoreN X0 hx (hb hby d3_1) (l' := #[rv a1, .val (.long 0), .second, .unset, .unset, .unset, .unset]) rfl ?_
  refine o_aloadN X0 hx (hb hby d3_2) rfl rfl ?_
  obtain ⟨T1, X1, e1, st1⟩ := getF X0 hx hZ hown (host := "") (Or.inl (hw _ (List.mem_of_getElem? (i := 10) rfl))) Via.refl e0 F1 (g := (mkF m 3 #[rv a1, .val (.long 0), .second, .unset, .unset, .unset, .unset] [(.ref a1)])) rfl rfl (hb hby d3_3)
  refine own_st st1 ?_
  show own_Go _ _ _ _ (T1.setTop (mkF m 6 #[rv a1, .val (.long 0), .second, .unset, .unset, .unset, .unset] [(.ref a2)]))
  refine o_astoreN X1 hx (hb hby d3_6) rfl (l' := #[rv a1, .val (.long 0), .second, rv a2, .unset, .unset, .unset]) rfl ?_
  refine o_aloadN X1 hx (hb hby d3_7) rfl rfl ?_
  obtain ⟨cl2, Ar2, qk2, Sz2, Ng2, Hs2, Gs2⟩ := id V1
  refine own_st (X1.arraylength hx (by rw [e1]; exact Ar2.1) (State.isArrayOf_alike hZ.alike Ar2.2.1) (g := (mkF m 8 #[rv a1, .val (.long 0), .second, rv a2, .unset, .unset, .unset] [(.ref a2)])) rfl rfl (hb hby d3_8)) ?_
  rw [len_of Sz2 Ng2]
  show own_Go _ _ _ _ (T1.setTop (mkF m 9 #[rv a1, .val (.long 0), .second, rv a2, .unset, .unset, .unset] [(.int 0)]))
  refine o_istore X1 hx (hb hby d3_9) (l' := #[rv a1, .val (.long 0), .second, rv a2, iv 0, .unset, .unset]) rfl ?_
  refine o_iconst X1 hx 0 (hb hby d3_11) rfl ?_
  refine o_istore X1 hx (hb hby d3_12) (l' := #[rv a1, .val (.long 0), .second, rv a2, iv 0, iv 0, .unset]) rfl ?_
  refine o_iload X1 hx (hb hby d3_14) rfl ?_
  refine o_iload X1 hx (hb hby d3_16) rfl ?_
  refine o_icmpYes X1 hx (pc' := 39) (hb hby d3_18) (flt (by decide : ¬ ((0 : Int32) < (0 : Int32)))).2.1 (by decide) (by decide) ?_
  refine o_lloadN X1 hx (hb hby d3_39) rfl ?_
  exact own_end X1 e1 (v := some (.long (0 : Int64))) (fun h => by rw [Bd.returns] at h; cases h) hlk (fun fs hr => X1.lreturnOut hx Bd.returns (hb hby d3_40) hr) (Q := Q_rmtot0 Z a0 a1 a2 k dv h0 n0) ⟨rfl, N0, rfl⟩ (by decide) (by decide)
theorem d3_21 : decode prog_66_method_4_code 21 = .ok (.aload_n 3, 1) := by decide +kernel
theorem d3_22 : decode prog_66_method_4_code 22 = .ok (.iload 5, 2) := by decide +kernel
theorem d3_24 : decode prog_66_method_4_code 24 = .ok (.iaload, 1) := by decide +kernel
theorem d3_25 : decode prog_66_method_4_code 25 = .ok (.istore 6, 2) := by decide +kernel
theorem d3_27 : decode prog_66_method_4_code 27 = .ok (.lload_n 1, 1) := by decide +kernel
theorem d3_28 : decode prog_66_method_4_code 28 = .ok (.iload 6, 2) := by decide +kernel
theorem d3_30 : decode prog_66_method_4_code 30 = .ok (.i2l, 1) := by decide +kernel
theorem d3_31 : decode prog_66_method_4_code 31 = .ok (.ladd, 1) := by decide +kernel
theorem d3_32 : decode prog_66_method_4_code 32 = .ok (.lstore_n 1, 1) := by decide +kernel
theorem d3_33 : decode prog_66_method_4_code 33 = .ok (.iinc 5 1, 3) := by decide +kernel
theorem d3_36 : decode prog_66_method_4_code 36 = .ok (.goto (-22), 3) := by decide +kernel
theorem ef_rmtot1 (m : MethodId) (a1 : Addr) : entryFrame m #[(.ref a1)] 7 = mkF m 0 #[rv a1, .unset, .unset, .unset, .unset, .unset, .unset] [] := by first | (simp [entryFrame, mkF, argsToLocals, Value.category]; done) | rfl
def Q_rmtot1 (Z : State) (a0 : Array Value) (a1 : Addr) (a2 : Addr) (k : ClassId) (dv : Value) (x0 : Int32) (h0 : Heap) (n0 : Nat) (v : Option Value) (h : Heap) (L : List Loc) : Prop := v = some (.long ((0 : Int64) + (x0.toInt64))) ∧ Fr n0 L ∧ h = h0
set_option maxRecDepth 65536 in
set_option maxHeartbeats 40000000 in
theorem rmtot1 (l : Launch) (Z : State) (a0 : Array Value) (hw : ∀ d ∈ tables_1, d.before a0 Z = true) (ws : List Jvm.Cond) (a1 : Addr) (a2 : Addr) (k : ClassId) (dv : Value) (x0 : Int32) (h0 : Heap) (n0 : Nat) (Z0 : n0 ≤ h0.size) (F1 : Fld Z h0 a1 "com/example/causyn/causyn/synthesis/Multiset" "counts" "[I" (.ref a2)) (V1 : Arv Z h0 a2 k .int (1 : Int32) [(.int x0)] dv) :
    MetFree l (⟨"com/example/causyn/causyn/synthesis/Multiset", "total", "()J"⟩ : MethodName) (head1 (Jvm.Cond.code (⟨"com/example/causyn/causyn/synthesis/Multiset", "total", "()J"⟩ : MethodName) prog_66_method_4_code 7 (some .long) :: ws) ({ frames := 0, cells := 0, slots := 0, locals := 0 } : Room)) (fun a U => a = #[(.ref a1)] ∧ Z.Warmed39 U.vm ∧ U.heap = h0) (fun _ _ _ _ _ => True) (fun _ U o U' => ∃ v L, o = .returned v ∧ Q_rmtot1 Z a0 a1 a2 k dv x0 h0 n0 v U'.heap L ∧ FrameEnd U o U' L ({ frames := 0, cells := 0, slots := 0, locals := 0 } : Room).cells ({ frames := 0, cells := 0, slots := 0, locals := 0 } : Room).slots) := by
  refine MetFree.of_bodySF (plainFor_of_name pn_1) hisR ?_
  intro p e s m args below meth c s₁ Bd hml0 hP hK
  obtain ⟨rfl, hZ, hh⟩ := hP
  have hx := Bd.exec
  have hby := Bd.bytes
  have hml : c.maxLocals = 7 := hml0
  have hown : s.vm.findClass "com/example/causyn/causyn/synthesis/Multiset" = some m.cls := findClass_of_methodNamed Bd.named
  have hnm := (name_of_methodNamed Bd.named Bd.method).1
  have hlk : meth.locks = false := BodyLoose.notSynchronized (by assumption)
  have X0 : Stand p l e ({ frames := 0, cells := 0, slots := 0, locals := 0 } : Room) s m #[(.ref a1)] below meth c s₁ [] 0 0 := Stand.of_body Bd
  have e0 : s₁.heap = h0 := by rw [← hh, Bd.state]; rfl
  have N0 := Fr.nil n0
  show own_Go p.tables e below (fun o U' => ∃ v L, o = .returned v ∧ Q_rmtot1 Z a0 a1 a2 k dv x0 h0 n0 v U'.heap L ∧ FrameEnd s o U' L ({ frames := 0, cells := 0, slots := 0, locals := 0 } : Room).cells ({ frames := 0, cells := 0, slots := 0, locals := 0 } : Room).slots) (s₁.setTop (entryFrame m #[(.ref a1)] 7))
  refine own_st (fun t k => castTop (ef_rmtot1 m a1) k) ?_
  show own_Go _ _ _ _ (s₁.setTop (mkF m 0 #[rv a1, .unset, .unset, .unset, .unset, .unset, .unset] []))
  refine o_lconst X0 hx 0 (hb hby d3_0) rfl ?_
  refine o_lstoreN X0 hx (hb hby d3_1) (l' := #[rv a1, .val (.long 0), .second, .unset, .unset, .unset, .unset]) rfl ?_
  refine o_aloadN X0 hx (hb hby d3_2) rfl rfl ?_
  obtain ⟨T1, X1, e1, st1⟩ := getF X0 hx hZ hown (host := "") (Or.inl (hw _ (List.mem_of_getElem? (i := 10) rfl))) Via.refl e0 F1 (g := (mkF m 3 #[rv a1, .val (.long 0), .second, .unset, .unset, .unset, .unset] [(.ref a1)])) rfl rfl (hb hby d3_3)
  refine own_st st1 ?_
  show own_Go _ _ _ _ (T1.setTop (mkF m 6 #[rv a1, .val (.long 0), .second, .unset, .unset, .unset, .unset] [(.ref a2)]))
  refine o_astoreN X1 hx (hb hby d3_6) rfl (l' := #[rv a1, .val (.long 0), .second, rv a2, .unset, .unset, .unset]) rfl ?_
  refine o_aloadN X1 hx (hb hby d3_7) rfl rfl ?_
  obtain ⟨cl2, Ar2, qk2, Sz2, Ng2, Hs2, Gs2⟩ := id V1
  refine own_st (X1.arraylength hx (by rw [e1]; exact Ar2.1) (State.isArrayOf_alike hZ.alike Ar2.2.1) (g := (mkF m 8 #[rv a1, .val (.long 0), .second, rv a2, .unset, .unset, .unset] [(.ref a2)])) rfl rfl (hb hby d3_8)) ?_
  rw [len_of Sz2 Ng2]
  show own_Go _ _ _ _ (T1.setTop (mkF m 9 #[rv a1, .val (.long 0), .second, rv a2, .unset, .unset, .unset] [(.int 1)]))
  refine o_istore X1 hx (hb hby d3_9) (l' := #[rv a1, .val (.long 0), .second, rv a2, iv 1, .unset, .unset]) rfl ?_
  refine o_iconst X1 hx 0 (hb hby d3_11) rfl ?_
  refine o_istore X1 hx (hb hby d3_12) (l' := #[rv a1, .val (.long 0), .second, rv a2, iv 1, iv 0, .unset]) rfl ?_
  refine o_iload X1 hx (hb hby d3_14) rfl ?_
  refine o_iload X1 hx (hb hby d3_16) rfl ?_
  refine o_icmpNo X1 hx (hb hby d3_18) (tlt (by decide : (0 : Int32) < (1 : Int32))).2.1 ?_
  refine o_aloadN X1 hx (hb hby d3_21) rfl rfl ?_
  refine o_iload X1 hx (hb hby d3_22) rfl ?_
  obtain ⟨cl3, Ar3, qk3, Sz3, Ng3, Hs3, Gs3⟩ := id V1
  refine own_st (X1.iaload hx (j := (0 : Int32)) (v := (.int x0)) (by rw [e1]; exact Ar3.1) (State.isArrayOf_alike hZ.alike Ar3.2.1) Ar3.2.2 (inb_of Sz3 ⟨by decide, by decide⟩) (Hs3.at (j := (0 : Int32)) (inb_of Sz3 ⟨by decide, by decide⟩) rfl) (g := (mkF m 24 #[rv a1, .val (.long 0), .second, rv a2, iv 1, iv 0, .unset] [(.int 0), (.ref a2)])) rfl rfl (hb hby d3_24)) ?_
  show own_Go _ _ _ _ (T1.setTop (mkF m 25 #[rv a1, .val (.long 0), .second, rv a2, iv 1, iv 0, .unset] [(.int x0)]))
  refine o_istore X1 hx (hb hby d3_25) (l' := #[rv a1, .val (.long 0), .second, rv a2, iv 1, iv 0, iv x0]) rfl ?_
  refine o_lloadN X1 hx (hb hby d3_27) rfl ?_
  refine o_iload X1 hx (hb hby d3_28) rfl ?_
  refine o_i2l X1 hx (hb hby d3_30) ?_
  refine o_ladd X1 hx (hb hby d3_31) ?_
  refine o_lstoreN X1 hx (hb hby d3_32) (l' := #[rv a1, .val (.long ((0 : Int64) + (x0.toInt64))), .second, rv a2, iv 1, iv 0, iv x0]) rfl ?_
  refine o_iinc X1 hx (hb hby d3_33) rfl (l' := #[rv a1, .val (.long ((0 : Int64) + (x0.toInt64))), .second, rv a2, iv 1, iv 1, iv x0]) rfl ?_
  refine o_goto X1 hx (pc' := 14) (hb hby d3_36) (by decide) (by decide) ?_
  refine o_iload X1 hx (hb hby d3_14) rfl ?_
  refine o_iload X1 hx (hb hby d3_16) rfl ?_
  refine o_icmpYes X1 hx (pc' := 39) (hb hby d3_18) (flt (by decide : ¬ ((1 : Int32) < (1 : Int32)))).2.1 (by decide) (by decide) ?_
  refine o_lloadN X1 hx (hb hby d3_39) rfl ?_
  exact own_end X1 e1 (v := some (.long ((0 : Int64) + (x0.toInt64)))) (fun h => by rw [Bd.returns] at h; cases h) hlk (fun fs hr => X1.lreturnOut hx Bd.returns (hb hby d3_40) hr) (Q := Q_rmtot1 Z a0 a1 a2 k dv x0 h0 n0) ⟨rfl, N0, rfl⟩ (by decide) (by decide)
theorem ef_rmtot2 (m : MethodId) (a1 : Addr) : entryFrame m #[(.ref a1)] 7 = mkF m 0 #[rv a1, .unset, .unset, .unset, .unset, .unset, .unset] [] := by first | (simp [entryFrame, mkF, argsToLocals, Value.category]; done) | rfl
def Q_rmtot2 (Z : State) (a0 : Array Value) (a1 : Addr) (a2 : Addr) (k : ClassId) (dv : Value) (x0 : Int32) (x1 : Int32) (h0 : Heap) (n0 : Nat) (v : Option Value) (h : Heap) (L : List Loc) : Prop := v = some (.long (((0 : Int64) + (x0.toInt64)) + (x1.toInt64))) ∧ Fr n0 L ∧ h = h0
set_option maxRecDepth 65536 in
set_option maxHeartbeats 40000000 in
theorem rmtot2 (l : Launch) (Z : State) (a0 : Array Value) (hw : ∀ d ∈ tables_1, d.before a0 Z = true) (ws : List Jvm.Cond) (a1 : Addr) (a2 : Addr) (k : ClassId) (dv : Value) (x0 : Int32) (x1 : Int32) (h0 : Heap) (n0 : Nat) (Z0 : n0 ≤ h0.size) (F1 : Fld Z h0 a1 "com/example/causyn/causyn/synthesis/Multiset" "counts" "[I" (.ref a2)) (V1 : Arv Z h0 a2 k .int (2 : Int32) [(.int x0), (.int x1)] dv) :
    MetFree l (⟨"com/example/causyn/causyn/synthesis/Multiset", "total", "()J"⟩ : MethodName) (head1 (Jvm.Cond.code (⟨"com/example/causyn/causyn/synthesis/Multiset", "total", "()J"⟩ : MethodName) prog_66_method_4_code 7 (some .long) :: ws) ({ frames := 0, cells := 0, slots := 0, locals := 0 } : Room)) (fun a U => a = #[(.ref a1)] ∧ Z.Warmed39 U.vm ∧ U.heap = h0) (fun _ _ _ _ _ => True) (fun _ U o U' => ∃ v L, o = .returned v ∧ Q_rmtot2 Z a0 a1 a2 k dv x0 x1 h0 n0 v U'.heap L ∧ FrameEnd U o U' L ({ frames := 0, cells := 0, slots := 0, locals := 0 } : Room).cells ({ frames := 0, cells := 0, slots := 0, locals := 0 } : Room).slots) := by
  refine MetFree.of_bodySF (plainFor_of_name pn_1) hisR ?_
  intro p e s m args below meth c s₁ Bd hml0 hP hK
  obtain ⟨rfl, hZ, hh⟩ := hP
  have hx := Bd.exec
  have hby := Bd.bytes
  have hml : c.maxLocals = 7 := hml0
  have hown : s.vm.findClass "com/example/causyn/causyn/synthesis/Multiset" = some m.cls := findClass_of_methodNamed Bd.named
  have hnm := (name_of_methodNamed Bd.named Bd.method).1
  have hlk : meth.locks = false := BodyLoose.notSynchronized (by assumption)
  have X0 : Stand p l e ({ frames := 0, cells := 0, slots := 0, locals := 0 } : Room) s m #[(.ref a1)] below meth c s₁ [] 0 0 := Stand.of_body Bd
  have e0 : s₁.heap = h0 := by rw [← hh, Bd.state]; rfl
  have N0 := Fr.nil n0
  show own_Go p.tables e below (fun o U' => ∃ v L, o = .returned v ∧ Q_rmtot2 Z a0 a1 a2 k dv x0 x1 h0 n0 v U'.heap L ∧ FrameEnd s o U' L ({ frames := 0, cells := 0, slots := 0, locals := 0 } : Room).cells ({ frames := 0, cells := 0, slots := 0, locals := 0 } : Room).slots) (s₁.setTop (entryFrame m #[(.ref a1)] 7))
  refine own_st (fun t k => castTop (ef_rmtot2 m a1) k) ?_
  show own_Go _ _ _ _ (s₁.setTop (mkF m 0 #[rv a1, .unset, .unset, .unset, .unset, .unset, .unset] []))
  refine o_lconst X0 hx 0 (hb hby d3_0) rfl ?_
  refine o_lstoreN X0 hx (hb hby d3_1) (l' := #[rv a1, .val (.long 0), .second, .unset, .unset, .unset, .unset]) rfl ?_
  refine o_aloadN X0 hx (hb hby d3_2) rfl rfl ?_
  obtain ⟨T1, X1, e1, st1⟩ := getF X0 hx hZ hown (host := "") (Or.inl (hw _ (List.mem_of_getElem? (i := 10) rfl))) Via.refl e0 F1 (g := (mkF m 3 #[rv a1, .val (.long 0), .second, .unset, .unset, .unset, .unset] [(.ref a1)])) rfl rfl (hb hby d3_3)
  refine own_st st1 ?_
  show own_Go _ _ _ _ (T1.setTop (mkF m 6 #[rv a1, .val (.long 0), .second, .unset, .unset, .unset, .unset] [(.ref a2)]))
  refine o_astoreN X1 hx (hb hby d3_6) rfl (l' := #[rv a1, .val (.long 0), .second, rv a2, .unset, .unset, .unset]) rfl ?_
  refine o_aloadN X1 hx (hb hby d3_7) rfl rfl ?_
  obtain ⟨cl2, Ar2, qk2, Sz2, Ng2, Hs2, Gs2⟩ := id V1
  refine own_st (X1.arraylength hx (by rw [e1]; exact Ar2.1) (State.isArrayOf_alike hZ.alike Ar2.2.1) (g := (mkF m 8 #[rv a1, .val (.long 0), .second, rv a2, .unset, .unset, .unset] [(.ref a2)])) rfl rfl (hb hby d3_8)) ?_
  rw [len_of Sz2 Ng2]
  show own_Go _ _ _ _ (T1.setTop (mkF m 9 #[rv a1, .val (.long 0), .second, rv a2, .unset, .unset, .unset] [(.int 2)]))
  refine o_istore X1 hx (hb hby d3_9) (l' := #[rv a1, .val (.long 0), .second, rv a2, iv 2, .unset, .unset]) rfl ?_
  refine o_iconst X1 hx 0 (hb hby d3_11) rfl ?_
  refine o_istore X1 hx (hb hby d3_12) (l' := #[rv a1, .val (.long 0), .second, rv a2, iv 2, iv 0, .unset]) rfl ?_
  refine o_iload X1 hx (hb hby d3_14) rfl ?_
  refine o_iload X1 hx (hb hby d3_16) rfl ?_
  refine o_icmpNo X1 hx (hb hby d3_18) (tlt (by decide : (0 : Int32) < (2 : Int32))).2.1 ?_
  refine o_aloadN X1 hx (hb hby d3_21) rfl rfl ?_
  refine o_iload X1 hx (hb hby d3_22) rfl ?_
  obtain ⟨cl3, Ar3, qk3, Sz3, Ng3, Hs3, Gs3⟩ := id V1
  refine own_st (X1.iaload hx (j := (0 : Int32)) (v := (.int x0)) (by rw [e1]; exact Ar3.1) (State.isArrayOf_alike hZ.alike Ar3.2.1) Ar3.2.2 (inb_of Sz3 ⟨by decide, by decide⟩) (Hs3.at (j := (0 : Int32)) (inb_of Sz3 ⟨by decide, by decide⟩) rfl) (g := (mkF m 24 #[rv a1, .val (.long 0), .second, rv a2, iv 2, iv 0, .unset] [(.int 0), (.ref a2)])) rfl rfl (hb hby d3_24)) ?_
  show own_Go _ _ _ _ (T1.setTop (mkF m 25 #[rv a1, .val (.long 0), .second, rv a2, iv 2, iv 0, .unset] [(.int x0)]))
  refine o_istore X1 hx (hb hby d3_25) (l' := #[rv a1, .val (.long 0), .second, rv a2, iv 2, iv 0, iv x0]) rfl ?_
  refine o_lloadN X1 hx (hb hby d3_27) rfl ?_
  refine o_iload X1 hx (hb hby d3_28) rfl ?_
  refine o_i2l X1 hx (hb hby d3_30) ?_
  refine o_ladd X1 hx (hb hby d3_31) ?_
  refine o_lstoreN X1 hx (hb hby d3_32) (l' := #[rv a1, .val (.long ((0 : Int64) + (x0.toInt64))), .second, rv a2, iv 2, iv 0, iv x0]) rfl ?_
  refine o_iinc X1 hx (hb hby d3_33) rfl (l' := #[rv a1, .val (.long ((0 : Int64) + (x0.toInt64))), .second, rv a2, iv 2, iv 1, iv x0]) rfl ?_
  refine o_goto X1 hx (pc' := 14) (hb hby d3_36) (by decide) (by decide) ?_
  refine o_iload X1 hx (hb hby d3_14) rfl ?_
  refine o_iload X1 hx (hb hby d3_16) rfl ?_
  refine o_icmpNo X1 hx (hb hby d3_18) (tlt (by decide : (1 : Int32) < (2 : Int32))).2.1 ?_
  refine o_aloadN X1 hx (hb hby d3_21) rfl rfl ?_
  refine o_iload X1 hx (hb hby d3_22) rfl ?_
  obtain ⟨cl4, Ar4, qk4, Sz4, Ng4, Hs4, Gs4⟩ := id V1
  refine own_st (X1.iaload hx (j := (1 : Int32)) (v := (.int x1)) (by rw [e1]; exact Ar4.1) (State.isArrayOf_alike hZ.alike Ar4.2.1) Ar4.2.2 (inb_of Sz4 ⟨by decide, by decide⟩) (Hs4.at (j := (1 : Int32)) (inb_of Sz4 ⟨by decide, by decide⟩) rfl) (g := (mkF m 24 #[rv a1, .val (.long ((0 : Int64) + (x0.toInt64))), .second, rv a2, iv 2, iv 1, iv x0] [(.int 1), (.ref a2)])) rfl rfl (hb hby d3_24)) ?_
  show own_Go _ _ _ _ (T1.setTop (mkF m 25 #[rv a1, .val (.long ((0 : Int64) + (x0.toInt64))), .second, rv a2, iv 2, iv 1, iv x0] [(.int x1)]))
  refine o_istore X1 hx (hb hby d3_25) (l' := #[rv a1, .val (.long ((0 : Int64) + (x0.toInt64))), .second, rv a2, iv 2, iv 1, iv x1]) rfl ?_
  refine o_lloadN X1 hx (hb hby d3_27) rfl ?_
  refine o_iload X1 hx (hb hby d3_28) rfl ?_
  refine o_i2l X1 hx (hb hby d3_30) ?_
  refine o_ladd X1 hx (hb hby d3_31) ?_
  refine o_lstoreN X1 hx (hb hby d3_32) (l' := #[rv a1, .val (.long (((0 : Int64) + (x0.toInt64)) + (x1.toInt64))), .second, rv a2, iv 2, iv 1, iv x1]) rfl ?_
  refine o_iinc X1 hx (hb hby d3_33) rfl (l' := #[rv a1, .val (.long (((0 : Int64) + (x0.toInt64)) + (x1.toInt64))), .second, rv a2, iv 2, iv 2, iv x1]) rfl ?_
  refine o_goto X1 hx (pc' := 14) (hb hby d3_36) (by decide) (by decide) ?_
  refine o_iload X1 hx (hb hby d3_14) rfl ?_
  refine o_iload X1 hx (hb hby d3_16) rfl ?_
  refine o_icmpYes X1 hx (pc' := 39) (hb hby d3_18) (flt (by decide : ¬ ((2 : Int32) < (2 : Int32)))).2.1 (by decide) (by decide) ?_
  refine o_lloadN X1 hx (hb hby d3_39) rfl ?_
  exact own_end X1 e1 (v := some (.long (((0 : Int64) + (x0.toInt64)) + (x1.toInt64)))) (fun h => by rw [Bd.returns] at h; cases h) hlk (fun fs hr => X1.lreturnOut hx Bd.returns (hb hby d3_40) hr) (Q := Q_rmtot2 Z a0 a1 a2 k dv x0 x1 h0 n0) ⟨rfl, N0, rfl⟩ (by decide) (by decide)
theorem ef_rmtot3 (m : MethodId) (a1 : Addr) : entryFrame m #[(.ref a1)] 7 = mkF m 0 #[rv a1, .unset, .unset, .unset, .unset, .unset, .unset] [] := by first | (simp [entryFrame, mkF, argsToLocals, Value.category]; done) | rfl
def Q_rmtot3 (Z : State) (a0 : Array Value) (a1 : Addr) (a2 : Addr) (k : ClassId) (dv : Value) (x0 : Int32) (x1 : Int32) (x2 : Int32) (h0 : Heap) (n0 : Nat) (v : Option Value) (h : Heap) (L : List Loc) : Prop := v = some (.long ((((0 : Int64) + (x0.toInt64)) + (x1.toInt64)) + (x2.toInt64))) ∧ Fr n0 L ∧ h = h0
set_option maxRecDepth 65536 in
set_option maxHeartbeats 40000000 in
theorem rmtot3 (l : Launch) (Z : State) (a0 : Array Value) (hw : ∀ d ∈ tables_1, d.before a0 Z = true) (ws : List Jvm.Cond) (a1 : Addr) (a2 : Addr) (k : ClassId) (dv : Value) (x0 : Int32) (x1 : Int32) (x2 : Int32) (h0 : Heap) (n0 : Nat) (Z0 : n0 ≤ h0.size) (F1 : Fld Z h0 a1 "com/example/causyn/causyn/synthesis/Multiset" "counts" "[I" (.ref a2)) (V1 : Arv Z h0 a2 k .int (3 : Int32) [(.int x0), (.int x1), (.int x2)] dv) :
    MetFree l (⟨"com/example/causyn/causyn/synthesis/Multiset", "total", "()J"⟩ : MethodName) (head1 (Jvm.Cond.code (⟨"com/example/causyn/causyn/synthesis/Multiset", "total", "()J"⟩ : MethodName) prog_66_method_4_code 7 (some .long) :: ws) ({ frames := 0, cells := 0, slots := 0, locals := 0 } : Room)) (fun a U => a = #[(.ref a1)] ∧ Z.Warmed39 U.vm ∧ U.heap = h0) (fun _ _ _ _ _ => True) (fun _ U o U' => ∃ v L, o = .returned v ∧ Q_rmtot3 Z a0 a1 a2 k dv x0 x1 x2 h0 n0 v U'.heap L ∧ FrameEnd U o U' L ({ frames := 0, cells := 0, slots := 0, locals := 0 } : Room).cells ({ frames := 0, cells := 0, slots := 0, locals := 0 } : Room).slots) := by
  refine MetFree.of_bodySF (plainFor_of_name pn_1) hisR ?_
  intro p e s m args below meth c s₁ Bd hml0 hP hK
  obtain ⟨rfl, hZ, hh⟩ := hP
  have hx := Bd.exec
  have hby := Bd.bytes
  have hml : c.maxLocals = 7 := hml0
  have hown : s.vm.findClass "com/example/causyn/causyn/synthesis/Multiset" = some m.cls := findClass_of_methodNamed Bd.named
  have hnm := (name_of_methodNamed Bd.named Bd.method).1
  have hlk : meth.locks = false := BodyLoose.notSynchronized (by assumption)
  have X0 : Stand p l e ({ frames := 0, cells := 0, slots := 0, locals := 0 } : Room) s m #[(.ref a1)] below meth c s₁ [] 0 0 := Stand.of_body Bd
  have e0 : s₁.heap = h0 := by rw [← hh, Bd.state]; rfl
  have N0 := Fr.nil n0
  show own_Go p.tables e below (fun o U' => ∃ v L, o = .returned v ∧ Q_rmtot3 Z a0 a1 a2 k dv x0 x1 x2 h0 n0 v U'.heap L ∧ FrameEnd s o U' L ({ frames := 0, cells := 0, slots := 0, locals := 0 } : Room).cells ({ frames := 0, cells := 0, slots := 0, locals := 0 } : Room).slots) (s₁.setTop (entryFrame m #[(.ref a1)] 7))
  refine own_st (fun t k => castTop (ef_rmtot3 m a1) k) ?_
  show own_Go _ _ _ _ (s₁.setTop (mkF m 0 #[rv a1, .unset, .unset, .unset, .unset, .unset, .unset] []))
  refine o_lconst X0 hx 0 (hb hby d3_0) rfl ?_
  refine o_lstoreN X0 hx (hb hby d3_1) (l' := #[rv a1, .val (.long 0), .second, .unset, .unset, .unset, .unset]) rfl ?_
  refine o_aloadN X0 hx (hb hby d3_2) rfl rfl ?_
  obtain ⟨T1, X1, e1, st1⟩ := getF X0 hx hZ hown (host := "") (Or.inl (hw _ (List.mem_of_getElem? (i := 10) rfl))) Via.refl e0 F1 (g := (mkF m 3 #[rv a1, .val (.long 0), .second, .unset, .unset, .unset, .unset] [(.ref a1)])) rfl rfl (hb hby d3_3)
  refine own_st st1 ?_
  show own_Go _ _ _ _ (T1.setTop (mkF m 6 #[rv a1, .val (.long 0), .second, .unset, .unset, .unset, .unset] [(.ref a2)]))
  refine o_astoreN X1 hx (hb hby d3_6) rfl (l' := #[rv a1, .val (.long 0), .second, rv a2, .unset, .unset, .unset]) rfl ?_
  refine o_aloadN X1 hx (hb hby d3_7) rfl rfl ?_
  obtain ⟨cl2, Ar2, qk2, Sz2, Ng2, Hs2, Gs2⟩ := id V1
  refine own_st (X1.arraylength hx (by rw [e1]; exact Ar2.1) (State.isArrayOf_alike hZ.alike Ar2.2.1) (g := (mkF m 8 #[rv a1, .val (.long 0), .second, rv a2, .unset, .unset, .unset] [(.ref a2)])) rfl rfl (hb hby d3_8)) ?_
  rw [len_of Sz2 Ng2]
  show own_Go _ _ _ _ (T1.setTop (mkF m 9 #[rv a1, .val (.long 0), .second, rv a2, .unset, .unset, .unset] [(.int 3)]))
  refine o_istore X1 hx (hb hby d3_9) (l' := #[rv a1, .val (.long 0), .second, rv a2, iv 3, .unset, .unset]) rfl ?_
  refine o_iconst X1 hx 0 (hb hby d3_11) rfl ?_
  refine o_istore X1 hx (hb hby d3_12) (l' := #[rv a1, .val (.long 0), .second, rv a2, iv 3, iv 0, .unset]) rfl ?_
  refine o_iload X1 hx (hb hby d3_14) rfl ?_
  refine o_iload X1 hx (hb hby d3_16) rfl ?_
  refine o_icmpNo X1 hx (hb hby d3_18) (tlt (by decide : (0 : Int32) < (3 : Int32))).2.1 ?_
  refine o_aloadN X1 hx (hb hby d3_21) rfl rfl ?_
  refine o_iload X1 hx (hb hby d3_22) rfl ?_
  obtain ⟨cl3, Ar3, qk3, Sz3, Ng3, Hs3, Gs3⟩ := id V1
  refine own_st (X1.iaload hx (j := (0 : Int32)) (v := (.int x0)) (by rw [e1]; exact Ar3.1) (State.isArrayOf_alike hZ.alike Ar3.2.1) Ar3.2.2 (inb_of Sz3 ⟨by decide, by decide⟩) (Hs3.at (j := (0 : Int32)) (inb_of Sz3 ⟨by decide, by decide⟩) rfl) (g := (mkF m 24 #[rv a1, .val (.long 0), .second, rv a2, iv 3, iv 0, .unset] [(.int 0), (.ref a2)])) rfl rfl (hb hby d3_24)) ?_
  show own_Go _ _ _ _ (T1.setTop (mkF m 25 #[rv a1, .val (.long 0), .second, rv a2, iv 3, iv 0, .unset] [(.int x0)]))
  refine o_istore X1 hx (hb hby d3_25) (l' := #[rv a1, .val (.long 0), .second, rv a2, iv 3, iv 0, iv x0]) rfl ?_
  refine o_lloadN X1 hx (hb hby d3_27) rfl ?_
  refine o_iload X1 hx (hb hby d3_28) rfl ?_
  refine o_i2l X1 hx (hb hby d3_30) ?_
  refine o_ladd X1 hx (hb hby d3_31) ?_
  refine o_lstoreN X1 hx (hb hby d3_32) (l' := #[rv a1, .val (.long ((0 : Int64) + (x0.toInt64))), .second, rv a2, iv 3, iv 0, iv x0]) rfl ?_
  refine o_iinc X1 hx (hb hby d3_33) rfl (l' := #[rv a1, .val (.long ((0 : Int64) + (x0.toInt64))), .second, rv a2, iv 3, iv 1, iv x0]) rfl ?_
  refine o_goto X1 hx (pc' := 14) (hb hby d3_36) (by decide) (by decide) ?_
  refine o_iload X1 hx (hb hby d3_14) rfl ?_
  refine o_iload X1 hx (hb hby d3_16) rfl ?_
  refine o_icmpNo X1 hx (hb hby d3_18) (tlt (by decide : (1 : Int32) < (3 : Int32))).2.1 ?_
  refine o_aloadN X1 hx (hb hby d3_21) rfl rfl ?_
  refine o_iload X1 hx (hb hby d3_22) rfl ?_
  obtain ⟨cl4, Ar4, qk4, Sz4, Ng4, Hs4, Gs4⟩ := id V1
  refine own_st (X1.iaload hx (j := (1 : Int32)) (v := (.int x1)) (by rw [e1]; exact Ar4.1) (State.isArrayOf_alike hZ.alike Ar4.2.1) Ar4.2.2 (inb_of Sz4 ⟨by decide, by decide⟩) (Hs4.at (j := (1 : Int32)) (inb_of Sz4 ⟨by decide, by decide⟩) rfl) (g := (mkF m 24 #[rv a1, .val (.long ((0 : Int64) + (x0.toInt64))), .second, rv a2, iv 3, iv 1, iv x0] [(.int 1), (.ref a2)])) rfl rfl (hb hby d3_24)) ?_
  show own_Go _ _ _ _ (T1.setTop (mkF m 25 #[rv a1, .val (.long ((0 : Int64) + (x0.toInt64))), .second, rv a2, iv 3, iv 1, iv x0] [(.int x1)]))
  refine o_istore X1 hx (hb hby d3_25) (l' := #[rv a1, .val (.long ((0 : Int64) + (x0.toInt64))), .second, rv a2, iv 3, iv 1, iv x1]) rfl ?_
  refine o_lloadN X1 hx (hb hby d3_27) rfl ?_
  refine o_iload X1 hx (hb hby d3_28) rfl ?_
  refine o_i2l X1 hx (hb hby d3_30) ?_
  refine o_ladd X1 hx (hb hby d3_31) ?_
  refine o_lstoreN X1 hx (hb hby d3_32) (l' := #[rv a1, .val (.long (((0 : Int64) + (x0.toInt64)) + (x1.toInt64))), .second, rv a2, iv 3, iv 1, iv x1]) rfl ?_
  refine o_iinc X1 hx (hb hby d3_33) rfl (l' := #[rv a1, .val (.long (((0 : Int64) + (x0.toInt64)) + (x1.toInt64))), .second, rv a2, iv 3, iv 2, iv x1]) rfl ?_
  refine o_goto X1 hx (pc' := 14) (hb hby d3_36) (by decide) (by decide) ?_
  refine o_iload X1 hx (hb hby d3_14) rfl ?_
  refine o_iload X1 hx (hb hby d3_16) rfl ?_
  refine o_icmpNo X1 hx (hb hby d3_18) (tlt (by decide : (2 : Int32) < (3 : Int32))).2.1 ?_
  refine o_aloadN X1 hx (hb hby d3_21) rfl rfl ?_
  refine o_iload X1 hx (hb hby d3_22) rfl ?_
  obtain ⟨cl5, Ar5, qk5, Sz5, Ng5, Hs5, Gs5⟩ := id V1
  refine own_st (X1.iaload hx (j := (2 : Int32)) (v := (.int x2)) (by rw [e1]; exact Ar5.1) (State.isArrayOf_alike hZ.alike Ar5.2.1) Ar5.2.2 (inb_of Sz5 ⟨by decide, by decide⟩) (Hs5.at (j := (2 : Int32)) (inb_of Sz5 ⟨by decide, by decide⟩) rfl) (g := (mkF m 24 #[rv a1, .val (.long (((0 : Int64) + (x0.toInt64)) + (x1.toInt64))), .second, rv a2, iv 3, iv 2, iv x1] [(.int 2), (.ref a2)])) rfl rfl (hb hby d3_24)) ?_
  show own_Go _ _ _ _ (T1.setTop (mkF m 25 #[rv a1, .val (.long (((0 : Int64) + (x0.toInt64)) + (x1.toInt64))), .second, rv a2, iv 3, iv 2, iv x1] [(.int x2)]))
  refine o_istore X1 hx (hb hby d3_25) (l' := #[rv a1, .val (.long (((0 : Int64) + (x0.toInt64)) + (x1.toInt64))), .second, rv a2, iv 3, iv 2, iv x2]) rfl ?_
  refine o_lloadN X1 hx (hb hby d3_27) rfl ?_
  refine o_iload X1 hx (hb hby d3_28) rfl ?_
  refine o_i2l X1 hx (hb hby d3_30) ?_
  refine o_ladd X1 hx (hb hby d3_31) ?_
  refine o_lstoreN X1 hx (hb hby d3_32) (l' := #[rv a1, .val (.long ((((0 : Int64) + (x0.toInt64)) + (x1.toInt64)) + (x2.toInt64))), .second, rv a2, iv 3, iv 2, iv x2]) rfl ?_
  refine o_iinc X1 hx (hb hby d3_33) rfl (l' := #[rv a1, .val (.long ((((0 : Int64) + (x0.toInt64)) + (x1.toInt64)) + (x2.toInt64))), .second, rv a2, iv 3, iv 3, iv x2]) rfl ?_
  refine o_goto X1 hx (pc' := 14) (hb hby d3_36) (by decide) (by decide) ?_
  refine o_iload X1 hx (hb hby d3_14) rfl ?_
  refine o_iload X1 hx (hb hby d3_16) rfl ?_
  refine o_icmpYes X1 hx (pc' := 39) (hb hby d3_18) (flt (by decide : ¬ ((3 : Int32) < (3 : Int32)))).2.1 (by decide) (by decide) ?_
  refine o_lloadN X1 hx (hb hby d3_39) rfl ?_
  exact own_end X1 e1 (v := some (.long ((((0 : Int64) + (x0.toInt64)) + (x1.toInt64)) + (x2.toInt64)))) (fun h => by rw [Bd.returns] at h; cases h) hlk (fun fs hr => X1.lreturnOut hx Bd.returns (hb hby d3_40) hr) (Q := Q_rmtot3 Z a0 a1 a2 k dv x0 x1 x2 h0 n0) ⟨rfl, N0, rfl⟩ (by decide) (by decide)
theorem ef_rmtot4 (m : MethodId) (a1 : Addr) : entryFrame m #[(.ref a1)] 7 = mkF m 0 #[rv a1, .unset, .unset, .unset, .unset, .unset, .unset] [] := by first | (simp [entryFrame, mkF, argsToLocals, Value.category]; done) | rfl
def Q_rmtot4 (Z : State) (a0 : Array Value) (a1 : Addr) (a2 : Addr) (k : ClassId) (dv : Value) (x0 : Int32) (x1 : Int32) (x2 : Int32) (x3 : Int32) (h0 : Heap) (n0 : Nat) (v : Option Value) (h : Heap) (L : List Loc) : Prop := v = some (.long (((((0 : Int64) + (x0.toInt64)) + (x1.toInt64)) + (x2.toInt64)) + (x3.toInt64))) ∧ Fr n0 L ∧ h = h0
set_option maxRecDepth 65536 in
set_option maxHeartbeats 40000000 in
theorem rmtot4 (l : Launch) (Z : State) (a0 : Array Value) (hw : ∀ d ∈ tables_1, d.before a0 Z = true) (ws : List Jvm.Cond) (a1 : Addr) (a2 : Addr) (k : ClassId) (dv : Value) (x0 : Int32) (x1 : Int32) (x2 : Int32) (x3 : Int32) (h0 : Heap) (n0 : Nat) (Z0 : n0 ≤ h0.size) (F1 : Fld Z h0 a1 "com/example/causyn/causyn/synthesis/Multiset" "counts" "[I" (.ref a2)) (V1 : Arv Z h0 a2 k .int (4 : Int32) [(.int x0), (.int x1), (.int x2), (.int x3)] dv) :
    MetFree l (⟨"com/example/causyn/causyn/synthesis/Multiset", "total", "()J"⟩ : MethodName) (head1 (Jvm.Cond.code (⟨"com/example/causyn/causyn/synthesis/Multiset", "total", "()J"⟩ : MethodName) prog_66_method_4_code 7 (some .long) :: ws) ({ frames := 0, cells := 0, slots := 0, locals := 0 } : Room)) (fun a U => a = #[(.ref a1)] ∧ Z.Warmed39 U.vm ∧ U.heap = h0) (fun _ _ _ _ _ => True) (fun _ U o U' => ∃ v L, o = .returned v ∧ Q_rmtot4 Z a0 a1 a2 k dv x0 x1 x2 x3 h0 n0 v U'.heap L ∧ FrameEnd U o U' L ({ frames := 0, cells := 0, slots := 0, locals := 0 } : Room).cells ({ frames := 0, cells := 0, slots := 0, locals := 0 } : Room).slots) := by
  refine MetFree.of_bodySF (plainFor_of_name pn_1) hisR ?_
  intro p e s m args below meth c s₁ Bd hml0 hP hK
  obtain ⟨rfl, hZ, hh⟩ := hP
  have hx := Bd.exec
  have hby := Bd.bytes
  have hml : c.maxLocals = 7 := hml0
  have hown : s.vm.findClass "com/example/causyn/causyn/synthesis/Multiset" = some m.cls := findClass_of_methodNamed Bd.named
  have hnm := (name_of_methodNamed Bd.named Bd.method).1
  have hlk : meth.locks = false := BodyLoose.notSynchronized (by assumption)
  have X0 : Stand p l e ({ frames := 0, cells := 0, slots := 0, locals := 0 } : Room) s m #[(.ref a1)] below meth c s₁ [] 0 0 := Stand.of_body Bd
  have e0 : s₁.heap = h0 := by rw [← hh, Bd.state]; rfl
  have N0 := Fr.nil n0
  show own_Go p.tables e below (fun o U' => ∃ v L, o = .returned v ∧ Q_rmtot4 Z a0 a1 a2 k dv x0 x1 x2 x3 h0 n0 v U'.heap L ∧ FrameEnd s o U' L ({ frames := 0, cells := 0, slots := 0, locals := 0 } : Room).cells ({ frames := 0, cells := 0, slots := 0, locals := 0 } : Room).slots) (s₁.setTop (entryFrame m #[(.ref a1)] 7))
  refine own_st (fun t k => castTop (ef_rmtot4 m a1) k) ?_
  show own_Go _ _ _ _ (s₁.setTop (mkF m 0 #[rv a1, .unset, .unset, .unset, .unset, .unset, .unset] []))
  refine o_lconst X0 hx 0 (hb hby d3_0) rfl ?_
  refine o_lstoreN X0 hx (hb hby d3_1) (l' := #[rv a1, .val (.long 0), .second, .unset, .unset, .unset, .unset]) rfl ?_
  refine o_aloadN X0 hx (hb hby d3_2) rfl rfl ?_
  obtain ⟨T1, X1, e1, st1⟩ := getF X0 hx hZ hown (host := "") (Or.inl (hw _ (List.mem_of_getElem? (i := 10) rfl))) Via.refl e0 F1 (g := (mkF m 3 #[rv a1, .val (.long 0), .second, .unset, .unset, .unset, .unset] [(.ref a1)])) rfl rfl (hb hby d3_3)
  refine own_st st1 ?_
  show own_Go _ _ _ _ (T1.setTop (mkF m 6 #[rv a1, .val (.long 0), .second, .unset, .unset, .unset, .unset] [(.ref a2)]))
  refine o_astoreN X1 hx (hb hby d3_6) rfl (l' := #[rv a1, .val (.long 0), .second, rv a2, .unset, .unset, .unset]) rfl ?_
  refine o_aloadN X1 hx (hb hby d3_7) rfl rfl ?_
  obtain ⟨cl2, Ar2, qk2, Sz2, Ng2, Hs2, Gs2⟩ := id V1
  refine own_st (X1.arraylength hx (by rw [e1]; exact Ar2.1) (State.isArrayOf_alike hZ.alike Ar2.2.1) (g := (mkF m 8 #[rv a1, .val (.long 0), .second, rv a2, .unset, .unset, .unset] [(.ref a2)])) rfl rfl (hb hby d3_8)) ?_
  rw [len_of Sz2 Ng2]
  show own_Go _ _ _ _ (T1.setTop (mkF m 9 #[rv a1, .val (.long 0), .second, rv a2, .unset, .unset, .unset] [(.int 4)]))
  refine o_istore X1 hx (hb hby d3_9) (l' := #[rv a1, .val (.long 0), .second, rv a2, iv 4, .unset, .unset]) rfl ?_
  refine o_iconst X1 hx 0 (hb hby d3_11) rfl ?_
  refine o_istore X1 hx (hb hby d3_12) (l' := #[rv a1, .val (.long 0), .second, rv a2, iv 4, iv 0, .unset]) rfl ?_
  refine o_iload X1 hx (hb hby d3_14) rfl ?_
  refine o_iload X1 hx (hb hby d3_16) rfl ?_
  refine o_icmpNo X1 hx (hb hby d3_18) (tlt (by decide : (0 : Int32) < (4 : Int32))).2.1 ?_
  refine o_aloadN X1 hx (hb hby d3_21) rfl rfl ?_
  refine o_iload X1 hx (hb hby d3_22) rfl ?_
  obtain ⟨cl3, Ar3, qk3, Sz3, Ng3, Hs3, Gs3⟩ := id V1
  refine own_st (X1.iaload hx (j := (0 : Int32)) (v := (.int x0)) (by rw [e1]; exact Ar3.1) (State.isArrayOf_alike hZ.alike Ar3.2.1) Ar3.2.2 (inb_of Sz3 ⟨by decide, by decide⟩) (Hs3.at (j := (0 : Int32)) (inb_of Sz3 ⟨by decide, by decide⟩) rfl) (g := (mkF m 24 #[rv a1, .val (.long 0), .second, rv a2, iv 4, iv 0, .unset] [(.int 0), (.ref a2)])) rfl rfl (hb hby d3_24)) ?_
  show own_Go _ _ _ _ (T1.setTop (mkF m 25 #[rv a1, .val (.long 0), .second, rv a2, iv 4, iv 0, .unset] [(.int x0)]))
  refine o_istore X1 hx (hb hby d3_25) (l' := #[rv a1, .val (.long 0), .second, rv a2, iv 4, iv 0, iv x0]) rfl ?_
  refine o_lloadN X1 hx (hb hby d3_27) rfl ?_
  refine o_iload X1 hx (hb hby d3_28) rfl ?_
  refine o_i2l X1 hx (hb hby d3_30) ?_
  refine o_ladd X1 hx (hb hby d3_31) ?_
  refine o_lstoreN X1 hx (hb hby d3_32) (l' := #[rv a1, .val (.long ((0 : Int64) + (x0.toInt64))), .second, rv a2, iv 4, iv 0, iv x0]) rfl ?_
  refine o_iinc X1 hx (hb hby d3_33) rfl (l' := #[rv a1, .val (.long ((0 : Int64) + (x0.toInt64))), .second, rv a2, iv 4, iv 1, iv x0]) rfl ?_
  refine o_goto X1 hx (pc' := 14) (hb hby d3_36) (by decide) (by decide) ?_
  refine o_iload X1 hx (hb hby d3_14) rfl ?_
  refine o_iload X1 hx (hb hby d3_16) rfl ?_
  refine o_icmpNo X1 hx (hb hby d3_18) (tlt (by decide : (1 : Int32) < (4 : Int32))).2.1 ?_
  refine o_aloadN X1 hx (hb hby d3_21) rfl rfl ?_
  refine o_iload X1 hx (hb hby d3_22) rfl ?_
  obtain ⟨cl4, Ar4, qk4, Sz4, Ng4, Hs4, Gs4⟩ := id V1
  refine own_st (X1.iaload hx (j := (1 : Int32)) (v := (.int x1)) (by rw [e1]; exact Ar4.1) (State.isArrayOf_alike hZ.alike Ar4.2.1) Ar4.2.2 (inb_of Sz4 ⟨by decide, by decide⟩) (Hs4.at (j := (1 : Int32)) (inb_of Sz4 ⟨by decide, by decide⟩) rfl) (g := (mkF m 24 #[rv a1, .val (.long ((0 : Int64) + (x0.toInt64))), .second, rv a2, iv 4, iv 1, iv x0] [(.int 1), (.ref a2)])) rfl rfl (hb hby d3_24)) ?_
  show own_Go _ _ _ _ (T1.setTop (mkF m 25 #[rv a1, .val (.long ((0 : Int64) + (x0.toInt64))), .second, rv a2, iv 4, iv 1, iv x0] [(.int x1)]))
  refine o_istore X1 hx (hb hby d3_25) (l' := #[rv a1, .val (.long ((0 : Int64) + (x0.toInt64))), .second, rv a2, iv 4, iv 1, iv x1]) rfl ?_
  refine o_lloadN X1 hx (hb hby d3_27) rfl ?_
  refine o_iload X1 hx (hb hby d3_28) rfl ?_
  refine o_i2l X1 hx (hb hby d3_30) ?_
  refine o_ladd X1 hx (hb hby d3_31) ?_
  refine o_lstoreN X1 hx (hb hby d3_32) (l' := #[rv a1, .val (.long (((0 : Int64) + (x0.toInt64)) + (x1.toInt64))), .second, rv a2, iv 4, iv 1, iv x1]) rfl ?_
  refine o_iinc X1 hx (hb hby d3_33) rfl (l' := #[rv a1, .val (.long (((0 : Int64) + (x0.toInt64)) + (x1.toInt64))), .second, rv a2, iv 4, iv 2, iv x1]) rfl ?_
  refine o_goto X1 hx (pc' := 14) (hb hby d3_36) (by decide) (by decide) ?_
  refine o_iload X1 hx (hb hby d3_14) rfl ?_
  refine o_iload X1 hx (hb hby d3_16) rfl ?_
  refine o_icmpNo X1 hx (hb hby d3_18) (tlt (by decide : (2 : Int32) < (4 : Int32))).2.1 ?_
  refine o_aloadN X1 hx (hb hby d3_21) rfl rfl ?_
  refine o_iload X1 hx (hb hby d3_22) rfl ?_
  obtain ⟨cl5, Ar5, qk5, Sz5, Ng5, Hs5, Gs5⟩ := id V1
  refine own_st (X1.iaload hx (j := (2 : Int32)) (v := (.int x2)) (by rw [e1]; exact Ar5.1) (State.isArrayOf_alike hZ.alike Ar5.2.1) Ar5.2.2 (inb_of Sz5 ⟨by decide, by decide⟩) (Hs5.at (j := (2 : Int32)) (inb_of Sz5 ⟨by decide, by decide⟩) rfl) (g := (mkF m 24 #[rv a1, .val (.long (((0 : Int64) + (x0.toInt64)) + (x1.toInt64))), .second, rv a2, iv 4, iv 2, iv x1] [(.int 2), (.ref a2)])) rfl rfl (hb hby d3_24)) ?_
  show own_Go _ _ _ _ (T1.setTop (mkF m 25 #[rv a1, .val (.long (((0 : Int64) + (x0.toInt64)) + (x1.toInt64))), .second, rv a2, iv 4, iv 2, iv x1] [(.int x2)]))
  refine o_istore X1 hx (hb hby d3_25) (l' := #[rv a1, .val (.long (((0 : Int64) + (x0.toInt64)) + (x1.toInt64))), .second, rv a2, iv 4, iv 2, iv x2]) rfl ?_
  refine o_lloadN X1 hx (hb hby d3_27) rfl ?_
  refine o_iload X1 hx (hb hby d3_28) rfl ?_
  refine o_i2l X1 hx (hb hby d3_30) ?_
  refine o_ladd X1 hx (hb hby d3_31) ?_
  refine o_lstoreN X1 hx (hb hby d3_32) (l' := #[rv a1, .val (.long ((((0 : Int64) + (x0.toInt64)) + (x1.toInt64)) + (x2.toInt64))), .second, rv a2, iv 4, iv 2, iv x2]) rfl ?_
  refine o_iinc X1 hx (hb hby d3_33) rfl (l' := #[rv a1, .val (.long ((((0 : Int64) + (x0.toInt64)) + (x1.toInt64)) + (x2.toInt64))), .second, rv a2, iv 4, iv 3, iv x2]) rfl ?_
  refine o_goto X1 hx (pc' := 14) (hb hby d3_36) (by decide) (by decide) ?_
  refine o_iload X1 hx (hb hby d3_14) rfl ?_
  refine o_iload X1 hx (hb hby d3_16) rfl ?_
  refine o_icmpNo X1 hx (hb hby d3_18) (tlt (by decide : (3 : Int32) < (4 : Int32))).2.1 ?_
  refine o_aloadN X1 hx (hb hby d3_21) rfl rfl ?_
  refine o_iload X1 hx (hb hby d3_22) rfl ?_
  obtain ⟨cl6, Ar6, qk6, Sz6, Ng6, Hs6, Gs6⟩ := id V1
  refine own_st (X1.iaload hx (j := (3 : Int32)) (v := (.int x3)) (by rw [e1]; exact Ar6.1) (State.isArrayOf_alike hZ.alike Ar6.2.1) Ar6.2.2 (inb_of Sz6 ⟨by decide, by decide⟩) (Hs6.at (j := (3 : Int32)) (inb_of Sz6 ⟨by decide, by decide⟩) rfl) (g := (mkF m 24 #[rv a1, .val (.long ((((0 : Int64) + (x0.toInt64)) + (x1.toInt64)) + (x2.toInt64))), .second, rv a2, iv 4, iv 3, iv x2] [(.int 3), (.ref a2)])) rfl rfl (hb hby d3_24)) ?_
  show own_Go _ _ _ _ (T1.setTop (mkF m 25 #[rv a1, .val (.long ((((0 : Int64) + (x0.toInt64)) + (x1.toInt64)) + (x2.toInt64))), .second, rv a2, iv 4, iv 3, iv x2] [(.int x3)]))
  refine o_istore X1 hx (hb hby d3_25) (l' := #[rv a1, .val (.long ((((0 : Int64) + (x0.toInt64)) + (x1.toInt64)) + (x2.toInt64))), .second, rv a2, iv 4, iv 3, iv x3]) rfl ?_
  refine o_lloadN X1 hx (hb hby d3_27) rfl ?_
  refine o_iload X1 hx (hb hby d3_28) rfl ?_
  refine o_i2l X1 hx (hb hby d3_30) ?_
  refine o_ladd X1 hx (hb hby d3_31) ?_
  refine o_lstoreN X1 hx (hb hby d3_32) (l' := #[rv a1, .val (.long (((((0 : Int64) + (x0.toInt64)) + (x1.toInt64)) + (x2.toInt64)) + (x3.toInt64))), .second, rv a2, iv 4, iv 3, iv x3]) rfl ?_
  refine o_iinc X1 hx (hb hby d3_33) rfl (l' := #[rv a1, .val (.long (((((0 : Int64) + (x0.toInt64)) + (x1.toInt64)) + (x2.toInt64)) + (x3.toInt64))), .second, rv a2, iv 4, iv 4, iv x3]) rfl ?_
  refine o_goto X1 hx (pc' := 14) (hb hby d3_36) (by decide) (by decide) ?_
  refine o_iload X1 hx (hb hby d3_14) rfl ?_
  refine o_iload X1 hx (hb hby d3_16) rfl ?_
  refine o_icmpYes X1 hx (pc' := 39) (hb hby d3_18) (flt (by decide : ¬ ((4 : Int32) < (4 : Int32)))).2.1 (by decide) (by decide) ?_
  refine o_lloadN X1 hx (hb hby d3_39) rfl ?_
  exact own_end X1 e1 (v := some (.long (((((0 : Int64) + (x0.toInt64)) + (x1.toInt64)) + (x2.toInt64)) + (x3.toInt64)))) (fun h => by rw [Bd.returns] at h; cases h) hlk (fun fs hr => X1.lreturnOut hx Bd.returns (hb hby d3_40) hr) (Q := Q_rmtot4 Z a0 a1 a2 k dv x0 x1 x2 x3 h0 n0) ⟨rfl, N0, rfl⟩ (by decide) (by decide)
theorem pn_0 : plainName "com/example/causyn/causyn/synthesis/MultisetTotalPinLaw" = true := by first | (simp [plainName, overriddenIn]; done) | decide +kernel
theorem pd_1 : parseMethodDescriptor "([I)V" = some ⟨[(.array .int)], none⟩ := by decide +kernel
theorem pd_2 : parseMethodDescriptor "()J" = some ⟨[], some .long⟩ := by decide +kernel
theorem ef_rm0 (m : MethodId) (p1 : Int32) (p2 : Int32) (p3 : Int32) (p4 : Int32) (p5 : Int32) : entryFrame m #[(.int p1), (.int p2), (.int p3), (.int p4), (.int p5)] maxLocals = mkF m 0 #[iv p1, iv p2, iv p3, iv p4, iv p5, .unset, .unset, .unset, .unset, .unset] [] := by first | (simp [entryFrame, mkF, argsToLocals, Value.category, maxLocals]; done) | rfl
def Q_rm0 (Z : State) (a0 : Array Value) (p1 : Int32) (p2 : Int32) (p3 : Int32) (p4 : Int32) (p5 : Int32)  (h0 : Heap) (n0 : Nat) (v : Option Value) (h : Heap) (L : List Loc) : Prop := v = some (.int (1 : Int32)) ∧ Fr n0 L ∧ Keep h0 h []
set_option maxRecDepth 65536 in
set_option maxHeartbeats 40000000 in
theorem rm0 (l : Launch) (Z : State) (a0 : Array Value) (hw : ∀ d ∈ tables_1, d.before a0 Z = true) (ws : List Jvm.Cond) (p1 : Int32) (p2 : Int32) (p3 : Int32) (p4 : Int32) (p5 : Int32)  (h0 : Heap) (n0 : Nat) (Z0 : n0 ≤ h0.size) :
    MetFree l x (head1 (Jvm.Cond.code x code maxLocals ret :: ws) room_1) (fun a U => a = #[(.int p1), (.int p2), (.int p3), (.int p4), (.int p5)] ∧ Z.Warmed39 U.vm ∧ U.heap = h0) (fun _ _ _ _ _ => True) (fun _ U o U' => ∃ v L, o = .returned v ∧ Q_rm0 Z a0 p1 p2 p3 p4 p5 h0 n0 v U'.heap L ∧ FrameEnd U o U' L room_1.cells room_1.slots) := by
  refine MetFree.of_bodySF (plainFor_of_name pn_0) hisR ?_
  intro p e s m args below meth c s₁ Bd hml0 hP hK
  obtain ⟨rfl, hZ, hh⟩ := hP
  have hx := Bd.exec
  have hby := Bd.bytes
  have hml : c.maxLocals = 10 := hml0
  have hown : s.vm.findClass "com/example/causyn/causyn/synthesis/MultisetTotalPinLaw" = some m.cls := findClass_of_methodNamed Bd.named
  have hnm := (name_of_methodNamed Bd.named Bd.method).1
  have hlk : meth.locks = false := BodyLoose.notSynchronized (by assumption)
  have X0 : Stand p l e room_1 s m #[(.int p1), (.int p2), (.int p3), (.int p4), (.int p5)] below meth c s₁ [] 0 0 := Stand.of_body Bd
  have e0 : s₁.heap = h0 := by rw [← hh, Bd.state]; rfl
  have N0 := Fr.nil n0
  show own_Go p.tables e below (fun o U' => ∃ v L, o = .returned v ∧ Q_rm0 Z a0 p1 p2 p3 p4 p5 h0 n0 v U'.heap L ∧ FrameEnd s o U' L room_1.cells room_1.slots) (s₁.setTop (entryFrame m #[(.int p1), (.int p2), (.int p3), (.int p4), (.int p5)] maxLocals))
  refine own_st (fun t k => castTop (ef_rm0 m p1 p2 p3 p4 p5) k) ?_
  show own_Go _ _ _ _ (s₁.setTop (mkF m 0 #[iv p1, iv p2, iv p3, iv p4, iv p5, .unset, .unset, .unset, .unset, .unset] []))
  refine o_iloadN X0 hx (hb hby at_0) rfl ?_
  refine o_bipush X0 hx 7 (hb hby at_1) rfl ?_
  refine o_iand X0 hx (hb hby at_3) ?_
  refine o_iconst X0 hx 5 (hb hby at_4) rfl ?_
  refine o_irem X0 hx (hb hby at_5) (by decide) ?_
  refine o_istore X0 hx (hb hby at_6) (l' := #[iv p1, iv p2, iv p3, iv p4, iv p5, iv ((p1 &&& (7 : Int32)) - (p1 &&& (7 : Int32)) / (5 : Int32) * (5 : Int32)), .unset, .unset, .unset, .unset]) rfl ?_
  refine o_iload X0 hx (hb hby at_8) rfl ?_
  by_cases hc10_1 : ((p1 &&& (7 : Int32)) - (p1 &&& (7 : Int32)) / (5 : Int32) * (5 : Int32)) = (0 : Int32)
  · refine o_ifNo X0 hx (hb hby at_10) (teq hc10_1).2 ?_
    refine o_iconst X0 hx 0 (hb hby at_13) rfl ?_
    obtain ⟨T2, h2, k2, X2, e2, E2, A2, st2⟩ := newP X0 hx hZ (hw _ (List.mem_of_getElem? (i := 0) rfl)) e0 (g := (mkF m 14 #[iv p1, iv p2, iv p3, iv p4, iv p5, iv ((p1 &&& (7 : Int32)) - (p1 &&& (7 : Int32)) / (5 : Int32) * (5 : Int32)), .unset, .unset, .unset, .unset] [(.int 0)])) rfl (hb hby at_14) rfl (by decide) (cap := 0) (by decide) (by decide) (by decide) (by decide)
    obtain ⟨b2, g2⟩ : ∃ z, z = h0.size := ⟨_, rfl⟩
    rw [← g2] at A2 st2
    have V2 : Arv Z h2 b2 k2 .int (0 : Int32) [] (.int (0 : Int32)) := (Arv.new A2 (by decide)).pad (pad_rep [] (.int (0 : Int32)) 0)
    have gg2 : n0 ≤ b2 := Nat.le_trans Z0 (Nat.le_of_eq g2.symm)
    have sz2 : h0.size ≤ b2 := Nat.le_trans (Keep.refl h0 []).1 (Nat.le_of_eq g2.symm)
    refine own_st st2 ?_
    show own_Go _ _ _ _ (T2.setTop (mkF m 16 #[iv p1, iv p2, iv p3, iv p4, iv p5, iv ((p1 &&& (7 : Int32)) - (p1 &&& (7 : Int32)) / (5 : Int32) * (5 : Int32)), .unset, .unset, .unset, .unset] [(.ref b2)]))
    refine o_astore X2 hx (hb hby at_16) rfl (l' := #[iv p1, iv p2, iv p3, iv p4, iv p5, iv ((p1 &&& (7 : Int32)) - (p1 &&& (7 : Int32)) / (5 : Int32) * (5 : Int32)), rv b2, .unset, .unset, .unset]) rfl ?_
    refine o_lconst X2 hx 0 (hb hby at_18) rfl ?_
    refine o_lstore X2 hx (hb hby at_19) (l' := #[iv p1, iv p2, iv p3, iv p4, iv p5, iv ((p1 &&& (7 : Int32)) - (p1 &&& (7 : Int32)) / (5 : Int32) * (5 : Int32)), rv b2, .val (.long 0), .second, .unset]) rfl ?_
    refine o_goto X2 hx (pc' := 147) (hb hby at_21) (by decide) (by decide) ?_
    have Zs3 : n0 ≤ h2.size := (Nat.le_trans Z0 E2.1)
    have Kp4 : Keep h0 h2 [] := ((Keep.refl h0 []).ext E2)
    obtain ⟨T5, h5, X5, e5, E5, A5, D5, -, st5⟩ := newO X2 hx hZ hown (hw _ (List.mem_of_getElem? (i := 1) rfl)) (hw _ (List.mem_of_getElem? (i := 2) rfl)) (hw _ (List.mem_of_getElem? (i := 3) rfl)) e2 (g := (mkF m 147 #[iv p1, iv p2, iv p3, iv p4, iv p5, iv ((p1 &&& (7 : Int32)) - (p1 &&& (7 : Int32)) / (5 : Int32) * (5 : Int32)), rv b2, .val (.long 0), .second, .unset] [])) rfl (hb hby at_147) (by decide) (by decide)
    obtain ⟨b5, g5⟩ : ∃ z, z = h2.size := ⟨_, rfl⟩
    rw [← g5] at A5 D5 st5
    have gg5 : n0 ≤ b5 := Nat.le_trans Zs3 (Nat.le_of_eq g5.symm)
    have sz5 : h0.size ≤ b5 := Nat.le_trans Kp4.1 (Nat.le_of_eq g5.symm)
    have Fi5_counts : Fld Z h5 b5 "com/example/causyn/causyn/synthesis/Multiset" "counts" "[I" .null := D5 (Or.inr (hw _ (List.mem_of_getElem? (i := 11) rfl))) (ty := (.array .int)) (by decide)
    refine own_st st5 ?_
    show own_Go _ _ _ _ (T5.setTop (mkF m 150 #[iv p1, iv p2, iv p3, iv p4, iv p5, iv ((p1 &&& (7 : Int32)) - (p1 &&& (7 : Int32)) / (5 : Int32) * (5 : Int32)), rv b2, .val (.long 0), .second, .unset] [(.ref b5)]))
    refine o_dup X5 hx (hb hby at_150) rfl ?_
    refine o_aload X5 hx (hb hby at_151) rfl rfl ?_
    have Zs7 : n0 ≤ h5.size := (Nat.le_trans Zs3 E5.1)
    obtain ⟨_, _, ⟨T6, L6, k6, n6⟩, -, X6, ⟨Lc6, hQ6, l6, y6, z6⟩, st6⟩ := X5.specialBack hx (y := (⟨"com/example/causyn/causyn/synthesis/Multiset", "<init>", "([I)V"⟩ : MethodName)) rfl hown (mvT hZ (hw _ (List.mem_of_getElem? (i := 4) rfl))) (mvT hZ (hw _ (List.mem_of_getElem? (i := 5) rfl))) (mvT hZ (hw _ (List.mem_of_getElem? (i := 6) rfl))) (by decide) (backOf (W := 1) (rm1 l Z a0 hw [] b5 b2  h5 n0 Zs7 A5 gg5 Fi5_counts) hZ (hw _ (List.mem_of_getElem? (i := 6) rfl)) (hw _ (List.mem_of_getElem? (i := 3) rfl)) (by decide) (by decide)) (g := (mkF m 153 #[iv p1, iv p2, iv p3, iv p4, iv p5, iv ((p1 &&& (7 : Int32)) - (p1 &&& (7 : Int32)) / (5 : Int32) * (5 : Int32)), rv b2, .val (.long 0), .second, .unset] [(.ref b2), (.ref b5), (.ref b5)])) rfl (by rw [hml]; rfl) (Steps.refl _) (a := b5) (argsL := [(.ref b2)]) (rest := [(.ref b5)]) (lenOf pd_1 rfl) rfl (by show 2 * 0 + _ ≤ _; exact Nat.le_of_eq rfl) (hb hby at_153) (fun _ _ => ⟨rfl, e5, (by decide : 2 + 0 ≤ _), (by decide : 1 + 0 ≤ _)⟩)
    dsimp only [Pt.U, Pt.locs, Pt.cells, Pt.slots] at X6 l6 y6 z6 st6 hQ6
    subst l6 y6 z6
    obtain ⟨rfl, Nq6, K6, Fq6_0⟩ := hQ6
    have N6 := Fr.app N0 Nq6
    refine own_tr st6 ?_
    show own_Go _ _ _ _ (T6.setTop (mkF m 156 #[iv p1, iv p2, iv p3, iv p4, iv p5, iv ((p1 &&& (7 : Int32)) - (p1 &&& (7 : Int32)) / (5 : Int32) * (5 : Int32)), rv b2, .val (.long 0), .second, .unset] [(.ref b5)]))
    refine o_astore X6 hx (hb hby at_156) rfl (l' := #[iv p1, iv p2, iv p3, iv p4, iv p5, iv ((p1 &&& (7 : Int32)) - (p1 &&& (7 : Int32)) / (5 : Int32) * (5 : Int32)), rv b2, .val (.long 0), .second, rv b5]) rfl ?_
    refine o_aload X6 hx (hb hby at_158) rfl rfl ?_
    have Fa9 := ((V2.ext E5).keep K6 (ninS (Nat.ne_of_lt (Nat.lt_of_lt_of_le V2.lt (Nat.le_of_eq g5.symm))) nin0))
    have Zs10 : n0 ≤ T6.heap.size := (Nat.le_trans Zs7 K6.1)
    have Fa11 := (A5.keep K6)
    obtain ⟨cq8, kq8, q8a, q8b, q8c⟩ := isOf hZ rfl Fa11
    obtain ⟨_, _, ⟨T8, L8, k8, n8⟩, -, X8, ⟨Lc8, hQ8, l8, y8, z8⟩, st8⟩ := X6.virtualBack hx (y := (⟨"com/example/causyn/causyn/synthesis/Multiset", "total", "()J"⟩ : MethodName)) (z := (⟨"com/example/causyn/causyn/synthesis/Multiset", "total", "()J"⟩ : MethodName)) hown (mvT hZ (hw _ (List.mem_of_getElem? (i := 12) rfl))) (mvT hZ (hw _ (List.mem_of_getElem? (i := 13) rfl))) (notFace_of_selects (args := #[]) (mvT hZ (hw _ (List.mem_of_getElem? (i := 15) rfl)))) (mvT hZ (hw _ (List.mem_of_getElem? (i := 15) rfl))) (mvT hZ (hw _ (List.mem_of_getElem? (i := 14) rfl))) (by decide) (backOf (W := 0) (rmtot0 l Z a0 hw [] b5 b2 k2 (.int (0 : Int32)) T6.heap n0 Zs10 Fq6_0 Fa9) hZ (hw _ (List.mem_of_getElem? (i := 16) rfl)) (hw _ (List.mem_of_getElem? (i := 3) rfl)) (by decide) (by decide)) q8a q8c (g := (mkF m 160 #[iv p1, iv p2, iv p3, iv p4, iv p5, iv ((p1 &&& (7 : Int32)) - (p1 &&& (7 : Int32)) / (5 : Int32) * (5 : Int32)), rv b2, .val (.long 0), .second, rv b5] [(.ref b5)])) rfl (by rw [hml]; rfl) (Steps.refl _) (argsL := []) (rest := []) (lenOf pd_2 rfl) rfl (by show 2 * 0 + _ ≤ _; exact Nat.le_of_eq rfl) (hb hby at_160) (fun _ _ => ⟨rfl, rfl, (by decide : 2 + 0 ≤ _), (by decide : 1 + 0 ≤ _)⟩)
    dsimp only [Pt.U, Pt.locs, Pt.cells, Pt.slots] at X8 l8 y8 z8 st8 hQ8
    subst l8 y8 z8
    obtain ⟨rfl, Nq8, e8⟩ := hQ8
    have N8 := Fr.app N6 Nq8
    refine own_tr st8 ?_
    show own_Go _ _ _ _ (T8.setTop (mkF m 163 #[iv p1, iv p2, iv p3, iv p4, iv p5, iv ((p1 &&& (7 : Int32)) - (p1 &&& (7 : Int32)) / (5 : Int32) * (5 : Int32)), rv b2, .val (.long 0), .second, rv b5] [(.long 0)]))
    refine o_lload X8 hx (hb hby at_163) rfl ?_
    refine o_lcmp X8 hx (hb hby at_165) ?_
    refine o_ifNo X8 hx (hb hby at_166) (teq ((lw_eq _ _).mpr rfl)).2 ?_
    refine o_iconst X8 hx 1 (hb hby at_169) rfl ?_
    refine o_goto X8 hx (pc' := 174) (hb hby at_170) (by decide) (by decide) ?_
    have Kp12 : Keep h0 T6.heap [] := ((Kp4.ext E5).trans K6 (allS (Or.inr sz5) all0))
    exact own_end X8 e8 (v := some (.int (1 : Int32))) (fun h => by rw [Bd.returns] at h; cases h) hlk (fun fs hr => retN X8 hx (z := (1 : Int32)) (t := .boolean) Bd.returns (by simp) (hb hby at_174) hr) (Q := Q_rm0 Z a0 p1 p2 p3 p4 p5 h0 n0) ⟨rfl, N8, Kp12⟩ (by decide) (by decide)
  · refine o_ifYes X0 hx (pc' := 24) (hb hby at_10) (feq hc10_1).2 (by decide) (by decide) ?_
    refine o_iload X0 hx (hb hby at_24) rfl ?_
    refine o_iconst X0 hx 1 (hb hby at_26) rfl ?_
    by_cases hc27_13 : ((p1 &&& (7 : Int32)) - (p1 &&& (7 : Int32)) / (5 : Int32) * (5 : Int32)) = (1 : Int32)
    · refine o_icmpNo X0 hx (hb hby at_27) (teq hc27_13).2 ?_
      refine o_iconst X0 hx 1 (hb hby at_30) rfl ?_
      obtain ⟨T14, h14, k14, X14, e14, E14, A14, st14⟩ := newP X0 hx hZ (hw _ (List.mem_of_getElem? (i := 0) rfl)) e0 (g := (mkF m 31 #[iv p1, iv p2, iv p3, iv p4, iv p5, iv ((p1 &&& (7 : Int32)) - (p1 &&& (7 : Int32)) / (5 : Int32) * (5 : Int32)), .unset, .unset, .unset, .unset] [(.int 1)])) rfl (hb hby at_31) rfl (by decide) (cap := 1) (by decide) (by decide) (by decide) (by decide)
      obtain ⟨b14, g14⟩ : ∃ z, z = h0.size := ⟨_, rfl⟩
      rw [← g14] at A14 st14
      have V14 : Arv Z h14 b14 k14 .int (1 : Int32) [(.int (0 : Int32))] (.int (0 : Int32)) := (Arv.new A14 (by decide)).pad (pad_rep [] (.int (0 : Int32)) 1)
      have gg14 : n0 ≤ b14 := Nat.le_trans Z0 (Nat.le_of_eq g14.symm)
      have sz14 : h0.size ≤ b14 := Nat.le_trans (Keep.refl h0 []).1 (Nat.le_of_eq g14.symm)
      refine own_st st14 ?_
      show own_Go _ _ _ _ (T14.setTop (mkF m 33 #[iv p1, iv p2, iv p3, iv p4, iv p5, iv ((p1 &&& (7 : Int32)) - (p1 &&& (7 : Int32)) / (5 : Int32) * (5 : Int32)), .unset, .unset, .unset, .unset] [(.ref b14)]))
      refine o_dup X14 hx (hb hby at_33) rfl ?_
      refine o_iconst X14 hx 0 (hb hby at_34) rfl ?_
      refine o_iloadN X14 hx (hb hby at_35) rfl ?_
      obtain ⟨cl15, Ar15, qk15, Sz15, Ng15, Hs15, Gs15⟩ := id V14
      obtain ⟨T16, h16, X16, e16, W16, st16⟩ := stI X14 hx hZ e14 Ar15 (j := (0 : Int32)) (inb_of Sz15 ⟨by decide, by decide⟩) (g := (mkF m 36 #[iv p1, iv p2, iv p3, iv p4, iv p5, iv ((p1 &&& (7 : Int32)) - (p1 &&& (7 : Int32)) / (5 : Int32) * (5 : Int32)), .unset, .unset, .unset, .unset] [(.int p2), (.int 0), (.ref b14), (.ref b14)])) rfl rfl (hb hby at_36)
      refine own_st st16 ?_
      have V16 : Arv Z h16 b14 k14 .int (1 : Int32) [(.int p2)] (.int (0 : Int32)) := Arv.set Ar15 qk15 Sz15 Ng15 Hs15 Gs15 rfl W16 0 rfl (Nat.le_of_ble_eq_true rfl)
      have N16 := Fr.snoc X16 N0 gg14
      show own_Go _ _ _ _ (T16.setTop (mkF m 37 #[iv p1, iv p2, iv p3, iv p4, iv p5, iv ((p1 &&& (7 : Int32)) - (p1 &&& (7 : Int32)) / (5 : Int32) * (5 : Int32)), .unset, .unset, .unset, .unset] [(.ref b14)]))
      refine o_astore X16 hx (hb hby at_37) rfl (l' := #[iv p1, iv p2, iv p3, iv p4, iv p5, iv ((p1 &&& (7 : Int32)) - (p1 &&& (7 : Int32)) / (5 : Int32) * (5 : Int32)), rv b14, .unset, .unset, .unset]) rfl ?_
      refine o_iloadN X16 hx (hb hby at_39) rfl ?_
      refine o_i2l X16 hx (hb hby at_40) ?_
      refine o_lstore X16 hx (hb hby at_41) (l' := #[iv p1, iv p2, iv p3, iv p4, iv p5, iv ((p1 &&& (7 : Int32)) - (p1 &&& (7 : Int32)) / (5 : Int32) * (5 : Int32)), rv b14, .val (.long (p2.toInt64)), .second, .unset]) rfl ?_
      refine o_goto X16 hx (pc' := 147) (hb hby at_43) (by decide) (by decide) ?_
      have Zs17 : n0 ≤ h16.size := (Nat.le_trans (Nat.le_trans Z0 E14.1) (Keep.of_wr W16).1)
      have Kp18 : Keep h0 h16 [] := (((Keep.refl h0 []).ext E14).wr W16 (Or.inr sz14))
      obtain ⟨T19, h19, X19, e19, E19, A19, D19, -, st19⟩ := newO X16 hx hZ hown (hw _ (List.mem_of_getElem? (i := 1) rfl)) (hw _ (List.mem_of_getElem? (i := 2) rfl)) (hw _ (List.mem_of_getElem? (i := 3) rfl)) e16 (g := (mkF m 147 #[iv p1, iv p2, iv p3, iv p4, iv p5, iv ((p1 &&& (7 : Int32)) - (p1 &&& (7 : Int32)) / (5 : Int32) * (5 : Int32)), rv b14, .val (.long (p2.toInt64)), .second, .unset] [])) rfl (hb hby at_147) (by decide) (by decide)
      obtain ⟨b19, g19⟩ : ∃ z, z = h16.size := ⟨_, rfl⟩
      rw [← g19] at A19 D19 st19
      have gg19 : n0 ≤ b19 := Nat.le_trans Zs17 (Nat.le_of_eq g19.symm)
      have sz19 : h0.size ≤ b19 := Nat.le_trans Kp18.1 (Nat.le_of_eq g19.symm)
      have Fi19_counts : Fld Z h19 b19 "com/example/causyn/causyn/synthesis/Multiset" "counts" "[I" .null := D19 (Or.inr (hw _ (List.mem_of_getElem? (i := 11) rfl))) (ty := (.array .int)) (by decide)
      refine own_st st19 ?_
      show own_Go _ _ _ _ (T19.setTop (mkF m 150 #[iv p1, iv p2, iv p3, iv p4, iv p5, iv ((p1 &&& (7 : Int32)) - (p1 &&& (7 : Int32)) / (5 : Int32) * (5 : Int32)), rv b14, .val (.long (p2.toInt64)), .second, .unset] [(.ref b19)]))
      refine o_dup X19 hx (hb hby at_150) rfl ?_
      refine o_aload X19 hx (hb hby at_151) rfl rfl ?_
      have Zs21 : n0 ≤ h19.size := (Nat.le_trans Zs17 E19.1)
      obtain ⟨_, _, ⟨T20, L20, k20, n20⟩, -, X20, ⟨Lc20, hQ20, l20, y20, z20⟩, st20⟩ := X19.specialBack hx (y := (⟨"com/example/causyn/causyn/synthesis/Multiset", "<init>", "([I)V"⟩ : MethodName)) rfl hown (mvT hZ (hw _ (List.mem_of_getElem? (i := 4) rfl))) (mvT hZ (hw _ (List.mem_of_getElem? (i := 5) rfl))) (mvT hZ (hw _ (List.mem_of_getElem? (i := 6) rfl))) (by decide) (backOf (W := 1) (rm1 l Z a0 hw [] b19 b14  h19 n0 Zs21 A19 gg19 Fi19_counts) hZ (hw _ (List.mem_of_getElem? (i := 6) rfl)) (hw _ (List.mem_of_getElem? (i := 3) rfl)) (by decide) (by decide)) (g := (mkF m 153 #[iv p1, iv p2, iv p3, iv p4, iv p5, iv ((p1 &&& (7 : Int32)) - (p1 &&& (7 : Int32)) / (5 : Int32) * (5 : Int32)), rv b14, .val (.long (p2.toInt64)), .second, .unset] [(.ref b14), (.ref b19), (.ref b19)])) rfl (by rw [hml]; rfl) (Steps.refl _) (a := b19) (argsL := [(.ref b14)]) (rest := [(.ref b19)]) (lenOf pd_1 rfl) rfl (by show 2 * 0 + _ ≤ _; exact Nat.le_of_eq rfl) (hb hby at_153) (fun _ _ => ⟨rfl, e19, (by decide : 2 + 0 ≤ _), (by decide : 2 + 0 ≤ _)⟩)
      dsimp only [Pt.U, Pt.locs, Pt.cells, Pt.slots] at X20 l20 y20 z20 st20 hQ20
      subst l20 y20 z20
      obtain ⟨rfl, Nq20, K20, Fq20_0⟩ := hQ20
      have N20 := Fr.app N16 Nq20
      refine own_tr st20 ?_
      show own_Go _ _ _ _ (T20.setTop (mkF m 156 #[iv p1, iv p2, iv p3, iv p4, iv p5, iv ((p1 &&& (7 : Int32)) - (p1 &&& (7 : Int32)) / (5 : Int32) * (5 : Int32)), rv b14, .val (.long (p2.toInt64)), .second, .unset] [(.ref b19)]))
      refine o_astore X20 hx (hb hby at_156) rfl (l' := #[iv p1, iv p2, iv p3, iv p4, iv p5, iv ((p1 &&& (7 : Int32)) - (p1 &&& (7 : Int32)) / (5 : Int32) * (5 : Int32)), rv b14, .val (.long (p2.toInt64)), .second, rv b19]) rfl ?_
      refine o_aload X20 hx (hb hby at_158) rfl rfl ?_
      have Fa23 := ((V16.ext E19).keep K20 (ninS (Nat.ne_of_lt (Nat.lt_of_lt_of_le V16.lt (Nat.le_of_eq g19.symm))) nin0))
      have Zs24 : n0 ≤ T20.heap.size := (Nat.le_trans Zs21 K20.1)
      have Fa25 := (A19.keep K20)
      obtain ⟨cq22, kq22, q22a, q22b, q22c⟩ := isOf hZ rfl Fa25
      obtain ⟨_, _, ⟨T22, L22, k22, n22⟩, -, X22, ⟨Lc22, hQ22, l22, y22, z22⟩, st22⟩ := X20.virtualBack hx (y := (⟨"com/example/causyn/causyn/synthesis/Multiset", "total", "()J"⟩ : MethodName)) (z := (⟨"com/example/causyn/causyn/synthesis/Multiset", "total", "()J"⟩ : MethodName)) hown (mvT hZ (hw _ (List.mem_of_getElem? (i := 12) rfl))) (mvT hZ (hw _ (List.mem_of_getElem? (i := 13) rfl))) (notFace_of_selects (args := #[]) (mvT hZ (hw _ (List.mem_of_getElem? (i := 15) rfl)))) (mvT hZ (hw _ (List.mem_of_getElem? (i := 15) rfl))) (mvT hZ (hw _ (List.mem_of_getElem? (i := 14) rfl))) (by decide) (backOf (W := 0) (rmtot1 l Z a0 hw [] b19 b14 k14 (.int (0 : Int32)) p2 T20.heap n0 Zs24 Fq20_0 Fa23) hZ (hw _ (List.mem_of_getElem? (i := 16) rfl)) (hw _ (List.mem_of_getElem? (i := 3) rfl)) (by decide) (by decide)) q22a q22c (g := (mkF m 160 #[iv p1, iv p2, iv p3, iv p4, iv p5, iv ((p1 &&& (7 : Int32)) - (p1 &&& (7 : Int32)) / (5 : Int32) * (5 : Int32)), rv b14, .val (.long (p2.toInt64)), .second, rv b19] [(.ref b19)])) rfl (by rw [hml]; rfl) (Steps.refl _) (argsL := []) (rest := []) (lenOf pd_2 rfl) rfl (by show 2 * 0 + _ ≤ _; exact Nat.le_of_eq rfl) (hb hby at_160) (fun _ _ => ⟨rfl, rfl, (by decide : 2 + 0 ≤ _), (by decide : 2 + 0 ≤ _)⟩)
      dsimp only [Pt.U, Pt.locs, Pt.cells, Pt.slots] at X22 l22 y22 z22 st22 hQ22
      subst l22 y22 z22
      obtain ⟨rfl, Nq22, e22⟩ := hQ22
      have N22 := Fr.app N20 Nq22
      refine own_tr st22 ?_
      show own_Go _ _ _ _ (T22.setTop (mkF m 163 #[iv p1, iv p2, iv p3, iv p4, iv p5, iv ((p1 &&& (7 : Int32)) - (p1 &&& (7 : Int32)) / (5 : Int32) * (5 : Int32)), rv b14, .val (.long (p2.toInt64)), .second, rv b19] [(.long ((0 : Int64) + (p2.toInt64)))]))
      refine o_lload X22 hx (hb hby at_163) rfl ?_
      refine o_lcmp X22 hx (hb hby at_165) ?_
      refine o_ifNo X22 hx (hb hby at_166) (teq ((lw_eq _ _).mpr (by rw [Int64.zero_add]))).2 ?_
      refine o_iconst X22 hx 1 (hb hby at_169) rfl ?_
      refine o_goto X22 hx (pc' := 174) (hb hby at_170) (by decide) (by decide) ?_
      have Kp26 : Keep h0 T20.heap [] := ((Kp18.ext E19).trans K20 (allS (Or.inr sz19) all0))
      exact own_end X22 e22 (v := some (.int (1 : Int32))) (fun h => by rw [Bd.returns] at h; cases h) hlk (fun fs hr => retN X22 hx (z := (1 : Int32)) (t := .boolean) Bd.returns (by simp) (hb hby at_174) hr) (Q := Q_rm0 Z a0 p1 p2 p3 p4 p5 h0 n0) ⟨rfl, N22, Kp26⟩ (by decide) (by decide)
    · refine o_icmpYes X0 hx (pc' := 46) (hb hby at_27) (feq hc27_13).2 (by decide) (by decide) ?_
      refine o_iload X0 hx (hb hby at_46) rfl ?_
      refine o_iconst X0 hx 2 (hb hby at_48) rfl ?_
      by_cases hc49_27 : ((p1 &&& (7 : Int32)) - (p1 &&& (7 : Int32)) / (5 : Int32) * (5 : Int32)) = (2 : Int32)
      · refine o_icmpNo X0 hx (hb hby at_49) (teq hc49_27).2 ?_
        refine o_iconst X0 hx 2 (hb hby at_52) rfl ?_
        obtain ⟨T28, h28, k28, X28, e28, E28, A28, st28⟩ := newP X0 hx hZ (hw _ (List.mem_of_getElem? (i := 0) rfl)) e0 (g := (mkF m 53 #[iv p1, iv p2, iv p3, iv p4, iv p5, iv ((p1 &&& (7 : Int32)) - (p1 &&& (7 : Int32)) / (5 : Int32) * (5 : Int32)), .unset, .unset, .unset, .unset] [(.int 2)])) rfl (hb hby at_53) rfl (by decide) (cap := 2) (by decide) (by decide) (by decide) (by decide)
        obtain ⟨b28, g28⟩ : ∃ z, z = h0.size := ⟨_, rfl⟩
        rw [← g28] at A28 st28
        have V28 : Arv Z h28 b28 k28 .int (2 : Int32) [(.int (0 : Int32)), (.int (0 : Int32))] (.int (0 : Int32)) := (Arv.new A28 (by decide)).pad (pad_rep [] (.int (0 : Int32)) 2)
        have gg28 : n0 ≤ b28 := Nat.le_trans Z0 (Nat.le_of_eq g28.symm)
        have sz28 : h0.size ≤ b28 := Nat.le_trans (Keep.refl h0 []).1 (Nat.le_of_eq g28.symm)
        refine own_st st28 ?_
        show own_Go _ _ _ _ (T28.setTop (mkF m 55 #[iv p1, iv p2, iv p3, iv p4, iv p5, iv ((p1 &&& (7 : Int32)) - (p1 &&& (7 : Int32)) / (5 : Int32) * (5 : Int32)), .unset, .unset, .unset, .unset] [(.ref b28)]))
        refine o_dup X28 hx (hb hby at_55) rfl ?_
        refine o_iconst X28 hx 0 (hb hby at_56) rfl ?_
        refine o_iloadN X28 hx (hb hby at_57) rfl ?_
        obtain ⟨cl29, Ar29, qk29, Sz29, Ng29, Hs29, Gs29⟩ := id V28
        obtain ⟨T30, h30, X30, e30, W30, st30⟩ := stI X28 hx hZ e28 Ar29 (j := (0 : Int32)) (inb_of Sz29 ⟨by decide, by decide⟩) (g := (mkF m 58 #[iv p1, iv p2, iv p3, iv p4, iv p5, iv ((p1 &&& (7 : Int32)) - (p1 &&& (7 : Int32)) / (5 : Int32) * (5 : Int32)), .unset, .unset, .unset, .unset] [(.int p2), (.int 0), (.ref b28), (.ref b28)])) rfl rfl (hb hby at_58)
        refine own_st st30 ?_
        have V30 : Arv Z h30 b28 k28 .int (2 : Int32) [(.int p2), (.int (0 : Int32))] (.int (0 : Int32)) := Arv.set Ar29 qk29 Sz29 Ng29 Hs29 Gs29 rfl W30 0 rfl (Nat.le_of_ble_eq_true rfl)
        have N30 := Fr.snoc X30 N0 gg28
        show own_Go _ _ _ _ (T30.setTop (mkF m 59 #[iv p1, iv p2, iv p3, iv p4, iv p5, iv ((p1 &&& (7 : Int32)) - (p1 &&& (7 : Int32)) / (5 : Int32) * (5 : Int32)), .unset, .unset, .unset, .unset] [(.ref b28)]))
        refine o_dup X30 hx (hb hby at_59) rfl ?_
        refine o_iconst X30 hx 1 (hb hby at_60) rfl ?_
        refine o_iloadN X30 hx (hb hby at_61) rfl ?_
        obtain ⟨cl31, Ar31, qk31, Sz31, Ng31, Hs31, Gs31⟩ := id V30
        obtain ⟨T32, h32, X32, e32, W32, st32⟩ := stI X30 hx hZ e30 Ar31 (j := (1 : Int32)) (inb_of Sz31 ⟨by decide, by decide⟩) (g := (mkF m 62 #[iv p1, iv p2, iv p3, iv p4, iv p5, iv ((p1 &&& (7 : Int32)) - (p1 &&& (7 : Int32)) / (5 : Int32) * (5 : Int32)), .unset, .unset, .unset, .unset] [(.int p3), (.int 1), (.ref b28), (.ref b28)])) rfl rfl (hb hby at_62)
        refine own_st st32 ?_
        have V32 : Arv Z h32 b28 k28 .int (2 : Int32) [(.int p2), (.int p3)] (.int (0 : Int32)) := Arv.set Ar31 qk31 Sz31 Ng31 Hs31 Gs31 rfl W32 1 rfl (Nat.le_of_ble_eq_true rfl)
        have N32 := Fr.snoc X32 N30 gg28
        show own_Go _ _ _ _ (T32.setTop (mkF m 63 #[iv p1, iv p2, iv p3, iv p4, iv p5, iv ((p1 &&& (7 : Int32)) - (p1 &&& (7 : Int32)) / (5 : Int32) * (5 : Int32)), .unset, .unset, .unset, .unset] [(.ref b28)]))
        refine o_astore X32 hx (hb hby at_63) rfl (l' := #[iv p1, iv p2, iv p3, iv p4, iv p5, iv ((p1 &&& (7 : Int32)) - (p1 &&& (7 : Int32)) / (5 : Int32) * (5 : Int32)), rv b28, .unset, .unset, .unset]) rfl ?_
        refine o_iloadN X32 hx (hb hby at_65) rfl ?_
        refine o_i2l X32 hx (hb hby at_66) ?_
        refine o_iloadN X32 hx (hb hby at_67) rfl ?_
        refine o_i2l X32 hx (hb hby at_68) ?_
        refine o_ladd X32 hx (hb hby at_69) ?_
        refine o_lstore X32 hx (hb hby at_70) (l' := #[iv p1, iv p2, iv p3, iv p4, iv p5, iv ((p1 &&& (7 : Int32)) - (p1 &&& (7 : Int32)) / (5 : Int32) * (5 : Int32)), rv b28, .val (.long ((p2.toInt64) + (p3.toInt64))), .second, .unset]) rfl ?_
        refine o_goto X32 hx (pc' := 147) (hb hby at_72) (by decide) (by decide) ?_
        have Zs33 : n0 ≤ h32.size := (Nat.le_trans (Nat.le_trans (Nat.le_trans Z0 E28.1) (Keep.of_wr W30).1) (Keep.of_wr W32).1)
        have Kp34 : Keep h0 h32 [] := ((((Keep.refl h0 []).ext E28).wr W30 (Or.inr sz28)).wr W32 (Or.inr sz28))
        obtain ⟨T35, h35, X35, e35, E35, A35, D35, -, st35⟩ := newO X32 hx hZ hown (hw _ (List.mem_of_getElem? (i := 1) rfl)) (hw _ (List.mem_of_getElem? (i := 2) rfl)) (hw _ (List.mem_of_getElem? (i := 3) rfl)) e32 (g := (mkF m 147 #[iv p1, iv p2, iv p3, iv p4, iv p5, iv ((p1 &&& (7 : Int32)) - (p1 &&& (7 : Int32)) / (5 : Int32) * (5 : Int32)), rv b28, .val (.long ((p2.toInt64) + (p3.toInt64))), .second, .unset] [])) rfl (hb hby at_147) (by decide) (by decide)
        obtain ⟨b35, g35⟩ : ∃ z, z = h32.size := ⟨_, rfl⟩
        rw [← g35] at A35 D35 st35
        have gg35 : n0 ≤ b35 := Nat.le_trans Zs33 (Nat.le_of_eq g35.symm)
        have sz35 : h0.size ≤ b35 := Nat.le_trans Kp34.1 (Nat.le_of_eq g35.symm)
        have Fi35_counts : Fld Z h35 b35 "com/example/causyn/causyn/synthesis/Multiset" "counts" "[I" .null := D35 (Or.inr (hw _ (List.mem_of_getElem? (i := 11) rfl))) (ty := (.array .int)) (by decide)
        refine own_st st35 ?_
        show own_Go _ _ _ _ (T35.setTop (mkF m 150 #[iv p1, iv p2, iv p3, iv p4, iv p5, iv ((p1 &&& (7 : Int32)) - (p1 &&& (7 : Int32)) / (5 : Int32) * (5 : Int32)), rv b28, .val (.long ((p2.toInt64) + (p3.toInt64))), .second, .unset] [(.ref b35)]))
        refine o_dup X35 hx (hb hby at_150) rfl ?_
        refine o_aload X35 hx (hb hby at_151) rfl rfl ?_
        have Zs37 : n0 ≤ h35.size := (Nat.le_trans Zs33 E35.1)
        obtain ⟨_, _, ⟨T36, L36, k36, n36⟩, -, X36, ⟨Lc36, hQ36, l36, y36, z36⟩, st36⟩ := X35.specialBack hx (y := (⟨"com/example/causyn/causyn/synthesis/Multiset", "<init>", "([I)V"⟩ : MethodName)) rfl hown (mvT hZ (hw _ (List.mem_of_getElem? (i := 4) rfl))) (mvT hZ (hw _ (List.mem_of_getElem? (i := 5) rfl))) (mvT hZ (hw _ (List.mem_of_getElem? (i := 6) rfl))) (by decide) (backOf (W := 1) (rm1 l Z a0 hw [] b35 b28  h35 n0 Zs37 A35 gg35 Fi35_counts) hZ (hw _ (List.mem_of_getElem? (i := 6) rfl)) (hw _ (List.mem_of_getElem? (i := 3) rfl)) (by decide) (by decide)) (g := (mkF m 153 #[iv p1, iv p2, iv p3, iv p4, iv p5, iv ((p1 &&& (7 : Int32)) - (p1 &&& (7 : Int32)) / (5 : Int32) * (5 : Int32)), rv b28, .val (.long ((p2.toInt64) + (p3.toInt64))), .second, .unset] [(.ref b28), (.ref b35), (.ref b35)])) rfl (by rw [hml]; rfl) (Steps.refl _) (a := b35) (argsL := [(.ref b28)]) (rest := [(.ref b35)]) (lenOf pd_1 rfl) rfl (by show 2 * 0 + _ ≤ _; exact Nat.le_of_eq rfl) (hb hby at_153) (fun _ _ => ⟨rfl, e35, (by decide : 2 + 0 ≤ _), (by decide : 3 + 0 ≤ _)⟩)
        dsimp only [Pt.U, Pt.locs, Pt.cells, Pt.slots] at X36 l36 y36 z36 st36 hQ36
        subst l36 y36 z36
        obtain ⟨rfl, Nq36, K36, Fq36_0⟩ := hQ36
        have N36 := Fr.app N32 Nq36
        refine own_tr st36 ?_
        show own_Go _ _ _ _ (T36.setTop (mkF m 156 #[iv p1, iv p2, iv p3, iv p4, iv p5, iv ((p1 &&& (7 : Int32)) - (p1 &&& (7 : Int32)) / (5 : Int32) * (5 : Int32)), rv b28, .val (.long ((p2.toInt64) + (p3.toInt64))), .second, .unset] [(.ref b35)]))
        refine o_astore X36 hx (hb hby at_156) rfl (l' := #[iv p1, iv p2, iv p3, iv p4, iv p5, iv ((p1 &&& (7 : Int32)) - (p1 &&& (7 : Int32)) / (5 : Int32) * (5 : Int32)), rv b28, .val (.long ((p2.toInt64) + (p3.toInt64))), .second, rv b35]) rfl ?_
        refine o_aload X36 hx (hb hby at_158) rfl rfl ?_
        have Fa39 := ((V32.ext E35).keep K36 (ninS (Nat.ne_of_lt (Nat.lt_of_lt_of_le V32.lt (Nat.le_of_eq g35.symm))) nin0))
        have Zs40 : n0 ≤ T36.heap.size := (Nat.le_trans Zs37 K36.1)
        have Fa41 := (A35.keep K36)
        obtain ⟨cq38, kq38, q38a, q38b, q38c⟩ := isOf hZ rfl Fa41
        obtain ⟨_, _, ⟨T38, L38, k38, n38⟩, -, X38, ⟨Lc38, hQ38, l38, y38, z38⟩, st38⟩ := X36.virtualBack hx (y := (⟨"com/example/causyn/causyn/synthesis/Multiset", "total", "()J"⟩ : MethodName)) (z := (⟨"com/example/causyn/causyn/synthesis/Multiset", "total", "()J"⟩ : MethodName)) hown (mvT hZ (hw _ (List.mem_of_getElem? (i := 12) rfl))) (mvT hZ (hw _ (List.mem_of_getElem? (i := 13) rfl))) (notFace_of_selects (args := #[]) (mvT hZ (hw _ (List.mem_of_getElem? (i := 15) rfl)))) (mvT hZ (hw _ (List.mem_of_getElem? (i := 15) rfl))) (mvT hZ (hw _ (List.mem_of_getElem? (i := 14) rfl))) (by decide) (backOf (W := 0) (rmtot2 l Z a0 hw [] b35 b28 k28 (.int (0 : Int32)) p2 p3 T36.heap n0 Zs40 Fq36_0 Fa39) hZ (hw _ (List.mem_of_getElem? (i := 16) rfl)) (hw _ (List.mem_of_getElem? (i := 3) rfl)) (by decide) (by decide)) q38a q38c (g := (mkF m 160 #[iv p1, iv p2, iv p3, iv p4, iv p5, iv ((p1 &&& (7 : Int32)) - (p1 &&& (7 : Int32)) / (5 : Int32) * (5 : Int32)), rv b28, .val (.long ((p2.toInt64) + (p3.toInt64))), .second, rv b35] [(.ref b35)])) rfl (by rw [hml]; rfl) (Steps.refl _) (argsL := []) (rest := []) (lenOf pd_2 rfl) rfl (by show 2 * 0 + _ ≤ _; exact Nat.le_of_eq rfl) (hb hby at_160) (fun _ _ => ⟨rfl, rfl, (by decide : 2 + 0 ≤ _), (by decide : 3 + 0 ≤ _)⟩)
        dsimp only [Pt.U, Pt.locs, Pt.cells, Pt.slots] at X38 l38 y38 z38 st38 hQ38
        subst l38 y38 z38
        obtain ⟨rfl, Nq38, e38⟩ := hQ38
        have N38 := Fr.app N36 Nq38
        refine own_tr st38 ?_
        show own_Go _ _ _ _ (T38.setTop (mkF m 163 #[iv p1, iv p2, iv p3, iv p4, iv p5, iv ((p1 &&& (7 : Int32)) - (p1 &&& (7 : Int32)) / (5 : Int32) * (5 : Int32)), rv b28, .val (.long ((p2.toInt64) + (p3.toInt64))), .second, rv b35] [(.long (((0 : Int64) + (p2.toInt64)) + (p3.toInt64)))]))
        refine o_lload X38 hx (hb hby at_163) rfl ?_
        refine o_lcmp X38 hx (hb hby at_165) ?_
        refine o_ifNo X38 hx (hb hby at_166) (teq ((lw_eq _ _).mpr (by rw [Int64.zero_add]))).2 ?_
        refine o_iconst X38 hx 1 (hb hby at_169) rfl ?_
        refine o_goto X38 hx (pc' := 174) (hb hby at_170) (by decide) (by decide) ?_
        have Kp42 : Keep h0 T36.heap [] := ((Kp34.ext E35).trans K36 (allS (Or.inr sz35) all0))
        exact own_end X38 e38 (v := some (.int (1 : Int32))) (fun h => by rw [Bd.returns] at h; cases h) hlk (fun fs hr => retN X38 hx (z := (1 : Int32)) (t := .boolean) Bd.returns (by simp) (hb hby at_174) hr) (Q := Q_rm0 Z a0 p1 p2 p3 p4 p5 h0 n0) ⟨rfl, N38, Kp42⟩ (by decide) (by decide)
      · refine o_icmpYes X0 hx (pc' := 75) (hb hby at_49) (feq hc49_27).2 (by decide) (by decide) ?_
        refine o_iload X0 hx (hb hby at_75) rfl ?_
        refine o_iconst X0 hx 3 (hb hby at_77) rfl ?_
        by_cases hc78_43 : ((p1 &&& (7 : Int32)) - (p1 &&& (7 : Int32)) / (5 : Int32) * (5 : Int32)) = (3 : Int32)
        · refine o_icmpNo X0 hx (hb hby at_78) (teq hc78_43).2 ?_
          refine o_iconst X0 hx 3 (hb hby at_81) rfl ?_
          obtain ⟨T44, h44, k44, X44, e44, E44, A44, st44⟩ := newP X0 hx hZ (hw _ (List.mem_of_getElem? (i := 0) rfl)) e0 (g := (mkF m 82 #[iv p1, iv p2, iv p3, iv p4, iv p5, iv ((p1 &&& (7 : Int32)) - (p1 &&& (7 : Int32)) / (5 : Int32) * (5 : Int32)), .unset, .unset, .unset, .unset] [(.int 3)])) rfl (hb hby at_82) rfl (by decide) (cap := 3) (by decide) (by decide) (by decide) (by decide)
          obtain ⟨b44, g44⟩ : ∃ z, z = h0.size := ⟨_, rfl⟩
          rw [← g44] at A44 st44
          have V44 : Arv Z h44 b44 k44 .int (3 : Int32) [(.int (0 : Int32)), (.int (0 : Int32)), (.int (0 : Int32))] (.int (0 : Int32)) := (Arv.new A44 (by decide)).pad (pad_rep [] (.int (0 : Int32)) 3)
          have gg44 : n0 ≤ b44 := Nat.le_trans Z0 (Nat.le_of_eq g44.symm)
          have sz44 : h0.size ≤ b44 := Nat.le_trans (Keep.refl h0 []).1 (Nat.le_of_eq g44.symm)
          refine own_st st44 ?_
          show own_Go _ _ _ _ (T44.setTop (mkF m 84 #[iv p1, iv p2, iv p3, iv p4, iv p5, iv ((p1 &&& (7 : Int32)) - (p1 &&& (7 : Int32)) / (5 : Int32) * (5 : Int32)), .unset, .unset, .unset, .unset] [(.ref b44)]))
          refine o_dup X44 hx (hb hby at_84) rfl ?_
          refine o_iconst X44 hx 0 (hb hby at_85) rfl ?_
          refine o_iloadN X44 hx (hb hby at_86) rfl ?_
          obtain ⟨cl45, Ar45, qk45, Sz45, Ng45, Hs45, Gs45⟩ := id V44
          obtain ⟨T46, h46, X46, e46, W46, st46⟩ := stI X44 hx hZ e44 Ar45 (j := (0 : Int32)) (inb_of Sz45 ⟨by decide, by decide⟩) (g := (mkF m 87 #[iv p1, iv p2, iv p3, iv p4, iv p5, iv ((p1 &&& (7 : Int32)) - (p1 &&& (7 : Int32)) / (5 : Int32) * (5 : Int32)), .unset, .unset, .unset, .unset] [(.int p2), (.int 0), (.ref b44), (.ref b44)])) rfl rfl (hb hby at_87)
          refine own_st st46 ?_
          have V46 : Arv Z h46 b44 k44 .int (3 : Int32) [(.int p2), (.int (0 : Int32)), (.int (0 : Int32))] (.int (0 : Int32)) := Arv.set Ar45 qk45 Sz45 Ng45 Hs45 Gs45 rfl W46 0 rfl (Nat.le_of_ble_eq_true rfl)
          have N46 := Fr.snoc X46 N0 gg44
          show own_Go _ _ _ _ (T46.setTop (mkF m 88 #[iv p1, iv p2, iv p3, iv p4, iv p5, iv ((p1 &&& (7 : Int32)) - (p1 &&& (7 : Int32)) / (5 : Int32) * (5 : Int32)), .unset, .unset, .unset, .unset] [(.ref b44)]))
          refine o_dup X46 hx (hb hby at_88) rfl ?_
          refine o_iconst X46 hx 1 (hb hby at_89) rfl ?_
          refine o_iloadN X46 hx (hb hby at_90) rfl ?_
          obtain ⟨cl47, Ar47, qk47, Sz47, Ng47, Hs47, Gs47⟩ := id V46
          obtain ⟨T48, h48, X48, e48, W48, st48⟩ := stI X46 hx hZ e46 Ar47 (j := (1 : Int32)) (inb_of Sz47 ⟨by decide, by decide⟩) (g := (mkF m 91 #[iv p1, iv p2, iv p3, iv p4, iv p5, iv ((p1 &&& (7 : Int32)) - (p1 &&& (7 : Int32)) / (5 : Int32) * (5 : Int32)), .unset, .unset, .unset, .unset] [(.int p3), (.int 1), (.ref b44), (.ref b44)])) rfl rfl (hb hby at_91)
          refine own_st st48 ?_
          have V48 : Arv Z h48 b44 k44 .int (3 : Int32) [(.int p2), (.int p3), (.int (0 : Int32))] (.int (0 : Int32)) := Arv.set Ar47 qk47 Sz47 Ng47 Hs47 Gs47 rfl W48 1 rfl (Nat.le_of_ble_eq_true rfl)
          have N48 := Fr.snoc X48 N46 gg44
          show own_Go _ _ _ _ (T48.setTop (mkF m 92 #[iv p1, iv p2, iv p3, iv p4, iv p5, iv ((p1 &&& (7 : Int32)) - (p1 &&& (7 : Int32)) / (5 : Int32) * (5 : Int32)), .unset, .unset, .unset, .unset] [(.ref b44)]))
          refine o_dup X48 hx (hb hby at_92) rfl ?_
          refine o_iconst X48 hx 2 (hb hby at_93) rfl ?_
          refine o_iloadN X48 hx (hb hby at_94) rfl ?_
          obtain ⟨cl49, Ar49, qk49, Sz49, Ng49, Hs49, Gs49⟩ := id V48
          obtain ⟨T50, h50, X50, e50, W50, st50⟩ := stI X48 hx hZ e48 Ar49 (j := (2 : Int32)) (inb_of Sz49 ⟨by decide, by decide⟩) (g := (mkF m 95 #[iv p1, iv p2, iv p3, iv p4, iv p5, iv ((p1 &&& (7 : Int32)) - (p1 &&& (7 : Int32)) / (5 : Int32) * (5 : Int32)), .unset, .unset, .unset, .unset] [(.int p4), (.int 2), (.ref b44), (.ref b44)])) rfl rfl (hb hby at_95)
          refine own_st st50 ?_
          have V50 : Arv Z h50 b44 k44 .int (3 : Int32) [(.int p2), (.int p3), (.int p4)] (.int (0 : Int32)) := Arv.set Ar49 qk49 Sz49 Ng49 Hs49 Gs49 rfl W50 2 rfl (Nat.le_of_ble_eq_true rfl)
          have N50 := Fr.snoc X50 N48 gg44
          show own_Go _ _ _ _ (T50.setTop (mkF m 96 #[iv p1, iv p2, iv p3, iv p4, iv p5, iv ((p1 &&& (7 : Int32)) - (p1 &&& (7 : Int32)) / (5 : Int32) * (5 : Int32)), .unset, .unset, .unset, .unset] [(.ref b44)]))
          refine o_astore X50 hx (hb hby at_96) rfl (l' := #[iv p1, iv p2, iv p3, iv p4, iv p5, iv ((p1 &&& (7 : Int32)) - (p1 &&& (7 : Int32)) / (5 : Int32) * (5 : Int32)), rv b44, .unset, .unset, .unset]) rfl ?_
          refine o_iloadN X50 hx (hb hby at_98) rfl ?_
          refine o_i2l X50 hx (hb hby at_99) ?_
          refine o_iloadN X50 hx (hb hby at_100) rfl ?_
          refine o_i2l X50 hx (hb hby at_101) ?_
          refine o_ladd X50 hx (hb hby at_102) ?_
          refine o_iloadN X50 hx (hb hby at_103) rfl ?_
          refine o_i2l X50 hx (hb hby at_104) ?_
          refine o_ladd X50 hx (hb hby at_105) ?_
          refine o_lstore X50 hx (hb hby at_106) (l' := #[iv p1, iv p2, iv p3, iv p4, iv p5, iv ((p1 &&& (7 : Int32)) - (p1 &&& (7 : Int32)) / (5 : Int32) * (5 : Int32)), rv b44, .val (.long (((p2.toInt64) + (p3.toInt64)) + (p4.toInt64))), .second, .unset]) rfl ?_
          refine o_goto X50 hx (pc' := 147) (hb hby at_108) (by decide) (by decide) ?_
          have Zs51 : n0 ≤ h50.size := (Nat.le_trans (Nat.le_trans (Nat.le_trans (Nat.le_trans Z0 E44.1) (Keep.of_wr W46).1) (Keep.of_wr W48).1) (Keep.of_wr W50).1)
          have Kp52 : Keep h0 h50 [] := (((((Keep.refl h0 []).ext E44).wr W46 (Or.inr sz44)).wr W48 (Or.inr sz44)).wr W50 (Or.inr sz44))
          obtain ⟨T53, h53, X53, e53, E53, A53, D53, -, st53⟩ := newO X50 hx hZ hown (hw _ (List.mem_of_getElem? (i := 1) rfl)) (hw _ (List.mem_of_getElem? (i := 2) rfl)) (hw _ (List.mem_of_getElem? (i := 3) rfl)) e50 (g := (mkF m 147 #[iv p1, iv p2, iv p3, iv p4, iv p5, iv ((p1 &&& (7 : Int32)) - (p1 &&& (7 : Int32)) / (5 : Int32) * (5 : Int32)), rv b44, .val (.long (((p2.toInt64) + (p3.toInt64)) + (p4.toInt64))), .second, .unset] [])) rfl (hb hby at_147) (by decide) (by decide)
          obtain ⟨b53, g53⟩ : ∃ z, z = h50.size := ⟨_, rfl⟩
          rw [← g53] at A53 D53 st53
          have gg53 : n0 ≤ b53 := Nat.le_trans Zs51 (Nat.le_of_eq g53.symm)
          have sz53 : h0.size ≤ b53 := Nat.le_trans Kp52.1 (Nat.le_of_eq g53.symm)
          have Fi53_counts : Fld Z h53 b53 "com/example/causyn/causyn/synthesis/Multiset" "counts" "[I" .null := D53 (Or.inr (hw _ (List.mem_of_getElem? (i := 11) rfl))) (ty := (.array .int)) (by decide)
          refine own_st st53 ?_
          show own_Go _ _ _ _ (T53.setTop (mkF m 150 #[iv p1, iv p2, iv p3, iv p4, iv p5, iv ((p1 &&& (7 : Int32)) - (p1 &&& (7 : Int32)) / (5 : Int32) * (5 : Int32)), rv b44, .val (.long (((p2.toInt64) + (p3.toInt64)) + (p4.toInt64))), .second, .unset] [(.ref b53)]))
          refine o_dup X53 hx (hb hby at_150) rfl ?_
          refine o_aload X53 hx (hb hby at_151) rfl rfl ?_
          have Zs55 : n0 ≤ h53.size := (Nat.le_trans Zs51 E53.1)
          obtain ⟨_, _, ⟨T54, L54, k54, n54⟩, -, X54, ⟨Lc54, hQ54, l54, y54, z54⟩, st54⟩ := X53.specialBack hx (y := (⟨"com/example/causyn/causyn/synthesis/Multiset", "<init>", "([I)V"⟩ : MethodName)) rfl hown (mvT hZ (hw _ (List.mem_of_getElem? (i := 4) rfl))) (mvT hZ (hw _ (List.mem_of_getElem? (i := 5) rfl))) (mvT hZ (hw _ (List.mem_of_getElem? (i := 6) rfl))) (by decide) (backOf (W := 1) (rm1 l Z a0 hw [] b53 b44  h53 n0 Zs55 A53 gg53 Fi53_counts) hZ (hw _ (List.mem_of_getElem? (i := 6) rfl)) (hw _ (List.mem_of_getElem? (i := 3) rfl)) (by decide) (by decide)) (g := (mkF m 153 #[iv p1, iv p2, iv p3, iv p4, iv p5, iv ((p1 &&& (7 : Int32)) - (p1 &&& (7 : Int32)) / (5 : Int32) * (5 : Int32)), rv b44, .val (.long (((p2.toInt64) + (p3.toInt64)) + (p4.toInt64))), .second, .unset] [(.ref b44), (.ref b53), (.ref b53)])) rfl (by rw [hml]; rfl) (Steps.refl _) (a := b53) (argsL := [(.ref b44)]) (rest := [(.ref b53)]) (lenOf pd_1 rfl) rfl (by show 2 * 0 + _ ≤ _; exact Nat.le_of_eq rfl) (hb hby at_153) (fun _ _ => ⟨rfl, e53, (by decide : 2 + 0 ≤ _), (by decide : 4 + 0 ≤ _)⟩)
          dsimp only [Pt.U, Pt.locs, Pt.cells, Pt.slots] at X54 l54 y54 z54 st54 hQ54
          subst l54 y54 z54
          obtain ⟨rfl, Nq54, K54, Fq54_0⟩ := hQ54
          have N54 := Fr.app N50 Nq54
          refine own_tr st54 ?_
          show own_Go _ _ _ _ (T54.setTop (mkF m 156 #[iv p1, iv p2, iv p3, iv p4, iv p5, iv ((p1 &&& (7 : Int32)) - (p1 &&& (7 : Int32)) / (5 : Int32) * (5 : Int32)), rv b44, .val (.long (((p2.toInt64) + (p3.toInt64)) + (p4.toInt64))), .second, .unset] [(.ref b53)]))
          refine o_astore X54 hx (hb hby at_156) rfl (l' := #[iv p1, iv p2, iv p3, iv p4, iv p5, iv ((p1 &&& (7 : Int32)) - (p1 &&& (7 : Int32)) / (5 : Int32) * (5 : Int32)), rv b44, .val (.long (((p2.toInt64) + (p3.toInt64)) + (p4.toInt64))), .second, rv b53]) rfl ?_
          refine o_aload X54 hx (hb hby at_158) rfl rfl ?_
          have Fa57 := ((V50.ext E53).keep K54 (ninS (Nat.ne_of_lt (Nat.lt_of_lt_of_le V50.lt (Nat.le_of_eq g53.symm))) nin0))
          have Zs58 : n0 ≤ T54.heap.size := (Nat.le_trans Zs55 K54.1)
          have Fa59 := (A53.keep K54)
          obtain ⟨cq56, kq56, q56a, q56b, q56c⟩ := isOf hZ rfl Fa59
          obtain ⟨_, _, ⟨T56, L56, k56, n56⟩, -, X56, ⟨Lc56, hQ56, l56, y56, z56⟩, st56⟩ := X54.virtualBack hx (y := (⟨"com/example/causyn/causyn/synthesis/Multiset", "total", "()J"⟩ : MethodName)) (z := (⟨"com/example/causyn/causyn/synthesis/Multiset", "total", "()J"⟩ : MethodName)) hown (mvT hZ (hw _ (List.mem_of_getElem? (i := 12) rfl))) (mvT hZ (hw _ (List.mem_of_getElem? (i := 13) rfl))) (notFace_of_selects (args := #[]) (mvT hZ (hw _ (List.mem_of_getElem? (i := 15) rfl)))) (mvT hZ (hw _ (List.mem_of_getElem? (i := 15) rfl))) (mvT hZ (hw _ (List.mem_of_getElem? (i := 14) rfl))) (by decide) (backOf (W := 0) (rmtot3 l Z a0 hw [] b53 b44 k44 (.int (0 : Int32)) p2 p3 p4 T54.heap n0 Zs58 Fq54_0 Fa57) hZ (hw _ (List.mem_of_getElem? (i := 16) rfl)) (hw _ (List.mem_of_getElem? (i := 3) rfl)) (by decide) (by decide)) q56a q56c (g := (mkF m 160 #[iv p1, iv p2, iv p3, iv p4, iv p5, iv ((p1 &&& (7 : Int32)) - (p1 &&& (7 : Int32)) / (5 : Int32) * (5 : Int32)), rv b44, .val (.long (((p2.toInt64) + (p3.toInt64)) + (p4.toInt64))), .second, rv b53] [(.ref b53)])) rfl (by rw [hml]; rfl) (Steps.refl _) (argsL := []) (rest := []) (lenOf pd_2 rfl) rfl (by show 2 * 0 + _ ≤ _; exact Nat.le_of_eq rfl) (hb hby at_160) (fun _ _ => ⟨rfl, rfl, (by decide : 2 + 0 ≤ _), (by decide : 4 + 0 ≤ _)⟩)
          dsimp only [Pt.U, Pt.locs, Pt.cells, Pt.slots] at X56 l56 y56 z56 st56 hQ56
          subst l56 y56 z56
          obtain ⟨rfl, Nq56, e56⟩ := hQ56
          have N56 := Fr.app N54 Nq56
          refine own_tr st56 ?_
          show own_Go _ _ _ _ (T56.setTop (mkF m 163 #[iv p1, iv p2, iv p3, iv p4, iv p5, iv ((p1 &&& (7 : Int32)) - (p1 &&& (7 : Int32)) / (5 : Int32) * (5 : Int32)), rv b44, .val (.long (((p2.toInt64) + (p3.toInt64)) + (p4.toInt64))), .second, rv b53] [(.long ((((0 : Int64) + (p2.toInt64)) + (p3.toInt64)) + (p4.toInt64)))]))
          refine o_lload X56 hx (hb hby at_163) rfl ?_
          refine o_lcmp X56 hx (hb hby at_165) ?_
          refine o_ifNo X56 hx (hb hby at_166) (teq ((lw_eq _ _).mpr (by rw [Int64.zero_add]))).2 ?_
          refine o_iconst X56 hx 1 (hb hby at_169) rfl ?_
          refine o_goto X56 hx (pc' := 174) (hb hby at_170) (by decide) (by decide) ?_
          have Kp60 : Keep h0 T54.heap [] := ((Kp52.ext E53).trans K54 (allS (Or.inr sz53) all0))
          exact own_end X56 e56 (v := some (.int (1 : Int32))) (fun h => by rw [Bd.returns] at h; cases h) hlk (fun fs hr => retN X56 hx (z := (1 : Int32)) (t := .boolean) Bd.returns (by simp) (hb hby at_174) hr) (Q := Q_rm0 Z a0 p1 p2 p3 p4 p5 h0 n0) ⟨rfl, N56, Kp60⟩ (by decide) (by decide)
        · refine o_icmpYes X0 hx (pc' := 111) (hb hby at_78) (feq hc78_43).2 (by decide) (by decide) ?_
          refine o_iconst X0 hx 4 (hb hby at_111) rfl ?_
          obtain ⟨T61, h61, k61, X61, e61, E61, A61, st61⟩ := newP X0 hx hZ (hw _ (List.mem_of_getElem? (i := 0) rfl)) e0 (g := (mkF m 112 #[iv p1, iv p2, iv p3, iv p4, iv p5, iv ((p1 &&& (7 : Int32)) - (p1 &&& (7 : Int32)) / (5 : Int32) * (5 : Int32)), .unset, .unset, .unset, .unset] [(.int 4)])) rfl (hb hby at_112) rfl (by decide) (cap := 4) (by decide) (by decide) (by decide) (by decide)
          obtain ⟨b61, g61⟩ : ∃ z, z = h0.size := ⟨_, rfl⟩
          rw [← g61] at A61 st61
          have V61 : Arv Z h61 b61 k61 .int (4 : Int32) [(.int (0 : Int32)), (.int (0 : Int32)), (.int (0 : Int32)), (.int (0 : Int32))] (.int (0 : Int32)) := (Arv.new A61 (by decide)).pad (pad_rep [] (.int (0 : Int32)) 4)
          have gg61 : n0 ≤ b61 := Nat.le_trans Z0 (Nat.le_of_eq g61.symm)
          have sz61 : h0.size ≤ b61 := Nat.le_trans (Keep.refl h0 []).1 (Nat.le_of_eq g61.symm)
          refine own_st st61 ?_
          show own_Go _ _ _ _ (T61.setTop (mkF m 114 #[iv p1, iv p2, iv p3, iv p4, iv p5, iv ((p1 &&& (7 : Int32)) - (p1 &&& (7 : Int32)) / (5 : Int32) * (5 : Int32)), .unset, .unset, .unset, .unset] [(.ref b61)]))
          refine o_dup X61 hx (hb hby at_114) rfl ?_
          refine o_iconst X61 hx 0 (hb hby at_115) rfl ?_
          refine o_iloadN X61 hx (hb hby at_116) rfl ?_
          obtain ⟨cl62, Ar62, qk62, Sz62, Ng62, Hs62, Gs62⟩ := id V61
          obtain ⟨T63, h63, X63, e63, W63, st63⟩ := stI X61 hx hZ e61 Ar62 (j := (0 : Int32)) (inb_of Sz62 ⟨by decide, by decide⟩) (g := (mkF m 117 #[iv p1, iv p2, iv p3, iv p4, iv p5, iv ((p1 &&& (7 : Int32)) - (p1 &&& (7 : Int32)) / (5 : Int32) * (5 : Int32)), .unset, .unset, .unset, .unset] [(.int p2), (.int 0), (.ref b61), (.ref b61)])) rfl rfl (hb hby at_117)
          refine own_st st63 ?_
          have V63 : Arv Z h63 b61 k61 .int (4 : Int32) [(.int p2), (.int (0 : Int32)), (.int (0 : Int32)), (.int (0 : Int32))] (.int (0 : Int32)) := Arv.set Ar62 qk62 Sz62 Ng62 Hs62 Gs62 rfl W63 0 rfl (Nat.le_of_ble_eq_true rfl)
          have N63 := Fr.snoc X63 N0 gg61
          show own_Go _ _ _ _ (T63.setTop (mkF m 118 #[iv p1, iv p2, iv p3, iv p4, iv p5, iv ((p1 &&& (7 : Int32)) - (p1 &&& (7 : Int32)) / (5 : Int32) * (5 : Int32)), .unset, .unset, .unset, .unset] [(.ref b61)]))
          refine o_dup X63 hx (hb hby at_118) rfl ?_
          refine o_iconst X63 hx 1 (hb hby at_119) rfl ?_
          refine o_iloadN X63 hx (hb hby at_120) rfl ?_
          obtain ⟨cl64, Ar64, qk64, Sz64, Ng64, Hs64, Gs64⟩ := id V63
          obtain ⟨T65, h65, X65, e65, W65, st65⟩ := stI X63 hx hZ e63 Ar64 (j := (1 : Int32)) (inb_of Sz64 ⟨by decide, by decide⟩) (g := (mkF m 121 #[iv p1, iv p2, iv p3, iv p4, iv p5, iv ((p1 &&& (7 : Int32)) - (p1 &&& (7 : Int32)) / (5 : Int32) * (5 : Int32)), .unset, .unset, .unset, .unset] [(.int p3), (.int 1), (.ref b61), (.ref b61)])) rfl rfl (hb hby at_121)
          refine own_st st65 ?_
          have V65 : Arv Z h65 b61 k61 .int (4 : Int32) [(.int p2), (.int p3), (.int (0 : Int32)), (.int (0 : Int32))] (.int (0 : Int32)) := Arv.set Ar64 qk64 Sz64 Ng64 Hs64 Gs64 rfl W65 1 rfl (Nat.le_of_ble_eq_true rfl)
          have N65 := Fr.snoc X65 N63 gg61
          show own_Go _ _ _ _ (T65.setTop (mkF m 122 #[iv p1, iv p2, iv p3, iv p4, iv p5, iv ((p1 &&& (7 : Int32)) - (p1 &&& (7 : Int32)) / (5 : Int32) * (5 : Int32)), .unset, .unset, .unset, .unset] [(.ref b61)]))
          refine o_dup X65 hx (hb hby at_122) rfl ?_
          refine o_iconst X65 hx 2 (hb hby at_123) rfl ?_
          refine o_iloadN X65 hx (hb hby at_124) rfl ?_
          obtain ⟨cl66, Ar66, qk66, Sz66, Ng66, Hs66, Gs66⟩ := id V65
          obtain ⟨T67, h67, X67, e67, W67, st67⟩ := stI X65 hx hZ e65 Ar66 (j := (2 : Int32)) (inb_of Sz66 ⟨by decide, by decide⟩) (g := (mkF m 125 #[iv p1, iv p2, iv p3, iv p4, iv p5, iv ((p1 &&& (7 : Int32)) - (p1 &&& (7 : Int32)) / (5 : Int32) * (5 : Int32)), .unset, .unset, .unset, .unset] [(.int p4), (.int 2), (.ref b61), (.ref b61)])) rfl rfl (hb hby at_125)
          refine own_st st67 ?_
          have V67 : Arv Z h67 b61 k61 .int (4 : Int32) [(.int p2), (.int p3), (.int p4), (.int (0 : Int32))] (.int (0 : Int32)) := Arv.set Ar66 qk66 Sz66 Ng66 Hs66 Gs66 rfl W67 2 rfl (Nat.le_of_ble_eq_true rfl)
          have N67 := Fr.snoc X67 N65 gg61
          show own_Go _ _ _ _ (T67.setTop (mkF m 126 #[iv p1, iv p2, iv p3, iv p4, iv p5, iv ((p1 &&& (7 : Int32)) - (p1 &&& (7 : Int32)) / (5 : Int32) * (5 : Int32)), .unset, .unset, .unset, .unset] [(.ref b61)]))
          refine o_dup X67 hx (hb hby at_126) rfl ?_
          refine o_iconst X67 hx 3 (hb hby at_127) rfl ?_
          refine o_iload X67 hx (hb hby at_128) rfl ?_
          obtain ⟨cl68, Ar68, qk68, Sz68, Ng68, Hs68, Gs68⟩ := id V67
          obtain ⟨T69, h69, X69, e69, W69, st69⟩ := stI X67 hx hZ e67 Ar68 (j := (3 : Int32)) (inb_of Sz68 ⟨by decide, by decide⟩) (g := (mkF m 130 #[iv p1, iv p2, iv p3, iv p4, iv p5, iv ((p1 &&& (7 : Int32)) - (p1 &&& (7 : Int32)) / (5 : Int32) * (5 : Int32)), .unset, .unset, .unset, .unset] [(.int p5), (.int 3), (.ref b61), (.ref b61)])) rfl rfl (hb hby at_130)
          refine own_st st69 ?_
          have V69 : Arv Z h69 b61 k61 .int (4 : Int32) [(.int p2), (.int p3), (.int p4), (.int p5)] (.int (0 : Int32)) := Arv.set Ar68 qk68 Sz68 Ng68 Hs68 Gs68 rfl W69 3 rfl (Nat.le_of_ble_eq_true rfl)
          have N69 := Fr.snoc X69 N67 gg61
          show own_Go _ _ _ _ (T69.setTop (mkF m 131 #[iv p1, iv p2, iv p3, iv p4, iv p5, iv ((p1 &&& (7 : Int32)) - (p1 &&& (7 : Int32)) / (5 : Int32) * (5 : Int32)), .unset, .unset, .unset, .unset] [(.ref b61)]))
          refine o_astore X69 hx (hb hby at_131) rfl (l' := #[iv p1, iv p2, iv p3, iv p4, iv p5, iv ((p1 &&& (7 : Int32)) - (p1 &&& (7 : Int32)) / (5 : Int32) * (5 : Int32)), rv b61, .unset, .unset, .unset]) rfl ?_
          refine o_iloadN X69 hx (hb hby at_133) rfl ?_
          refine o_i2l X69 hx (hb hby at_134) ?_
          refine o_iloadN X69 hx (hb hby at_135) rfl ?_
          refine o_i2l X69 hx (hb hby at_136) ?_
          refine o_ladd X69 hx (hb hby at_137) ?_
          refine o_iloadN X69 hx (hb hby at_138) rfl ?_
          refine o_i2l X69 hx (hb hby at_139) ?_
          refine o_ladd X69 hx (hb hby at_140) ?_
          refine o_iload X69 hx (hb hby at_141) rfl ?_
          refine o_i2l X69 hx (hb hby at_143) ?_
          refine o_ladd X69 hx (hb hby at_144) ?_
          refine o_lstore X69 hx (hb hby at_145) (l' := #[iv p1, iv p2, iv p3, iv p4, iv p5, iv ((p1 &&& (7 : Int32)) - (p1 &&& (7 : Int32)) / (5 : Int32) * (5 : Int32)), rv b61, .val (.long ((((p2.toInt64) + (p3.toInt64)) + (p4.toInt64)) + (p5.toInt64))), .second, .unset]) rfl ?_
          have Zs70 : n0 ≤ h69.size := (Nat.le_trans (Nat.le_trans (Nat.le_trans (Nat.le_trans (Nat.le_trans Z0 E61.1) (Keep.of_wr W63).1) (Keep.of_wr W65).1) (Keep.of_wr W67).1) (Keep.of_wr W69).1)
          have Kp71 : Keep h0 h69 [] := ((((((Keep.refl h0 []).ext E61).wr W63 (Or.inr sz61)).wr W65 (Or.inr sz61)).wr W67 (Or.inr sz61)).wr W69 (Or.inr sz61))
          obtain ⟨T72, h72, X72, e72, E72, A72, D72, -, st72⟩ := newO X69 hx hZ hown (hw _ (List.mem_of_getElem? (i := 1) rfl)) (hw _ (List.mem_of_getElem? (i := 2) rfl)) (hw _ (List.mem_of_getElem? (i := 3) rfl)) e69 (g := (mkF m 147 #[iv p1, iv p2, iv p3, iv p4, iv p5, iv ((p1 &&& (7 : Int32)) - (p1 &&& (7 : Int32)) / (5 : Int32) * (5 : Int32)), rv b61, .val (.long ((((p2.toInt64) + (p3.toInt64)) + (p4.toInt64)) + (p5.toInt64))), .second, .unset] [])) rfl (hb hby at_147) (by decide) (by decide)
          obtain ⟨b72, g72⟩ : ∃ z, z = h69.size := ⟨_, rfl⟩
          rw [← g72] at A72 D72 st72
          have gg72 : n0 ≤ b72 := Nat.le_trans Zs70 (Nat.le_of_eq g72.symm)
          have sz72 : h0.size ≤ b72 := Nat.le_trans Kp71.1 (Nat.le_of_eq g72.symm)
          have Fi72_counts : Fld Z h72 b72 "com/example/causyn/causyn/synthesis/Multiset" "counts" "[I" .null := D72 (Or.inr (hw _ (List.mem_of_getElem? (i := 11) rfl))) (ty := (.array .int)) (by decide)
          refine own_st st72 ?_
          show own_Go _ _ _ _ (T72.setTop (mkF m 150 #[iv p1, iv p2, iv p3, iv p4, iv p5, iv ((p1 &&& (7 : Int32)) - (p1 &&& (7 : Int32)) / (5 : Int32) * (5 : Int32)), rv b61, .val (.long ((((p2.toInt64) + (p3.toInt64)) + (p4.toInt64)) + (p5.toInt64))), .second, .unset] [(.ref b72)]))
          refine o_dup X72 hx (hb hby at_150) rfl ?_
          refine o_aload X72 hx (hb hby at_151) rfl rfl ?_
          have Zs74 : n0 ≤ h72.size := (Nat.le_trans Zs70 E72.1)
          obtain ⟨_, _, ⟨T73, L73, k73, n73⟩, -, X73, ⟨Lc73, hQ73, l73, y73, z73⟩, st73⟩ := X72.specialBack hx (y := (⟨"com/example/causyn/causyn/synthesis/Multiset", "<init>", "([I)V"⟩ : MethodName)) rfl hown (mvT hZ (hw _ (List.mem_of_getElem? (i := 4) rfl))) (mvT hZ (hw _ (List.mem_of_getElem? (i := 5) rfl))) (mvT hZ (hw _ (List.mem_of_getElem? (i := 6) rfl))) (by decide) (backOf (W := 1) (rm1 l Z a0 hw [] b72 b61  h72 n0 Zs74 A72 gg72 Fi72_counts) hZ (hw _ (List.mem_of_getElem? (i := 6) rfl)) (hw _ (List.mem_of_getElem? (i := 3) rfl)) (by decide) (by decide)) (g := (mkF m 153 #[iv p1, iv p2, iv p3, iv p4, iv p5, iv ((p1 &&& (7 : Int32)) - (p1 &&& (7 : Int32)) / (5 : Int32) * (5 : Int32)), rv b61, .val (.long ((((p2.toInt64) + (p3.toInt64)) + (p4.toInt64)) + (p5.toInt64))), .second, .unset] [(.ref b61), (.ref b72), (.ref b72)])) rfl (by rw [hml]; rfl) (Steps.refl _) (a := b72) (argsL := [(.ref b61)]) (rest := [(.ref b72)]) (lenOf pd_1 rfl) rfl (by show 2 * 0 + _ ≤ _; exact Nat.le_of_eq rfl) (hb hby at_153) (fun _ _ => ⟨rfl, e72, (by decide : 2 + 0 ≤ _), (by decide : 5 + 0 ≤ _)⟩)
          dsimp only [Pt.U, Pt.locs, Pt.cells, Pt.slots] at X73 l73 y73 z73 st73 hQ73
          subst l73 y73 z73
          obtain ⟨rfl, Nq73, K73, Fq73_0⟩ := hQ73
          have N73 := Fr.app N69 Nq73
          refine own_tr st73 ?_
          show own_Go _ _ _ _ (T73.setTop (mkF m 156 #[iv p1, iv p2, iv p3, iv p4, iv p5, iv ((p1 &&& (7 : Int32)) - (p1 &&& (7 : Int32)) / (5 : Int32) * (5 : Int32)), rv b61, .val (.long ((((p2.toInt64) + (p3.toInt64)) + (p4.toInt64)) + (p5.toInt64))), .second, .unset] [(.ref b72)]))
          refine o_astore X73 hx (hb hby at_156) rfl (l' := #[iv p1, iv p2, iv p3, iv p4, iv p5, iv ((p1 &&& (7 : Int32)) - (p1 &&& (7 : Int32)) / (5 : Int32) * (5 : Int32)), rv b61, .val (.long ((((p2.toInt64) + (p3.toInt64)) + (p4.toInt64)) + (p5.toInt64))), .second, rv b72]) rfl ?_
          refine o_aload X73 hx (hb hby at_158) rfl rfl ?_
          have Fa76 := ((V69.ext E72).keep K73 (ninS (Nat.ne_of_lt (Nat.lt_of_lt_of_le V69.lt (Nat.le_of_eq g72.symm))) nin0))
          have Zs77 : n0 ≤ T73.heap.size := (Nat.le_trans Zs74 K73.1)
          have Fa78 := (A72.keep K73)
          obtain ⟨cq75, kq75, q75a, q75b, q75c⟩ := isOf hZ rfl Fa78
          obtain ⟨_, _, ⟨T75, L75, k75, n75⟩, -, X75, ⟨Lc75, hQ75, l75, y75, z75⟩, st75⟩ := X73.virtualBack hx (y := (⟨"com/example/causyn/causyn/synthesis/Multiset", "total", "()J"⟩ : MethodName)) (z := (⟨"com/example/causyn/causyn/synthesis/Multiset", "total", "()J"⟩ : MethodName)) hown (mvT hZ (hw _ (List.mem_of_getElem? (i := 12) rfl))) (mvT hZ (hw _ (List.mem_of_getElem? (i := 13) rfl))) (notFace_of_selects (args := #[]) (mvT hZ (hw _ (List.mem_of_getElem? (i := 15) rfl)))) (mvT hZ (hw _ (List.mem_of_getElem? (i := 15) rfl))) (mvT hZ (hw _ (List.mem_of_getElem? (i := 14) rfl))) (by decide) (backOf (W := 0) (rmtot4 l Z a0 hw [] b72 b61 k61 (.int (0 : Int32)) p2 p3 p4 p5 T73.heap n0 Zs77 Fq73_0 Fa76) hZ (hw _ (List.mem_of_getElem? (i := 16) rfl)) (hw _ (List.mem_of_getElem? (i := 3) rfl)) (by decide) (by decide)) q75a q75c (g := (mkF m 160 #[iv p1, iv p2, iv p3, iv p4, iv p5, iv ((p1 &&& (7 : Int32)) - (p1 &&& (7 : Int32)) / (5 : Int32) * (5 : Int32)), rv b61, .val (.long ((((p2.toInt64) + (p3.toInt64)) + (p4.toInt64)) + (p5.toInt64))), .second, rv b72] [(.ref b72)])) rfl (by rw [hml]; rfl) (Steps.refl _) (argsL := []) (rest := []) (lenOf pd_2 rfl) rfl (by show 2 * 0 + _ ≤ _; exact Nat.le_of_eq rfl) (hb hby at_160) (fun _ _ => ⟨rfl, rfl, (by decide : 2 + 0 ≤ _), (by decide : 5 + 0 ≤ _)⟩)
          dsimp only [Pt.U, Pt.locs, Pt.cells, Pt.slots] at X75 l75 y75 z75 st75 hQ75
          subst l75 y75 z75
          obtain ⟨rfl, Nq75, e75⟩ := hQ75
          have N75 := Fr.app N73 Nq75
          refine own_tr st75 ?_
          show own_Go _ _ _ _ (T75.setTop (mkF m 163 #[iv p1, iv p2, iv p3, iv p4, iv p5, iv ((p1 &&& (7 : Int32)) - (p1 &&& (7 : Int32)) / (5 : Int32) * (5 : Int32)), rv b61, .val (.long ((((p2.toInt64) + (p3.toInt64)) + (p4.toInt64)) + (p5.toInt64))), .second, rv b72] [(.long (((((0 : Int64) + (p2.toInt64)) + (p3.toInt64)) + (p4.toInt64)) + (p5.toInt64)))]))
          refine o_lload X75 hx (hb hby at_163) rfl ?_
          refine o_lcmp X75 hx (hb hby at_165) ?_
          refine o_ifNo X75 hx (hb hby at_166) (teq ((lw_eq _ _).mpr (by rw [Int64.zero_add]))).2 ?_
          refine o_iconst X75 hx 1 (hb hby at_169) rfl ?_
          refine o_goto X75 hx (pc' := 174) (hb hby at_170) (by decide) (by decide) ?_
          have Kp79 : Keep h0 T73.heap [] := ((Kp71.ext E72).trans K73 (allS (Or.inr sz72) all0))
          exact own_end X75 e75 (v := some (.int (1 : Int32))) (fun h => by rw [Bd.returns] at h; cases h) hlk (fun fs hr => retN X75 hx (z := (1 : Int32)) (t := .boolean) Bd.returns (by simp) (hb hby at_174) hr) (Q := Q_rm0 Z a0 p1 p2 p3 p4 p5 h0 n0) ⟨rfl, N75, Kp79⟩ (by decide) (by decide)
set_option maxRecDepth 65536 in
set_option maxHeartbeats 40000000 in
theorem comes_1 {Post : Tables → Env → Array Value → State → Outcome → State → Prop} (hpost : ∀ tb e args s v u, (limb_1_1.after args s (.returned v) u = true ∧ limb_1_2.after args s (.returned v) u = true ∧ True) → FrameEnd s (.returned v) u (Jvm.fieldLocs frame_1_writes args s ++ Jvm.arrayLocs frame_1_arrays args s ++ Jvm.staticLocs frame_1_statics s) 16 128 → Post tb e args s (.returned v) u) :
    ArmFor flags0 classFile x code maxLocals ret World_1 tables_1 room_1 Calls_1 rest_1 Pre_1 Post := by
  intro l hfl _ _ p e ha hc hk s m args below hf hA hF happ hP
  obtain ⟨hcalls, hrest, hpre⟩ := hP
  obtain ⟨-, -, -, hnamed, -, -, -, hat⟩ := (Spec.applies_iff hf).mp happ
  obtain ⟨hg, hn⟩ := and_e (Cond.before_iff.mp (show (Jvm.Cond.and given_1 narrow_1).before args s = true from hpre))
  obtain ⟨g1, g2⟩ := and_e hg
  obtain ⟨g3, g4⟩ := and_e g2
  obtain ⟨g5, g6⟩ := and_e g4
  obtain ⟨g7, g8⟩ := and_e g6
  obtain ⟨g9, g10⟩ := and_e g8
  obtain ⟨w0, w1, w2, w3, w4, rfl⟩ : ∃ w0 w1 w2 w3 w4 : Value, args = #[w0, w1, w2, w3, w4] := by
    have hs : args.size = 5 := by simpa [Cond.value, given_1] using g1
    obtain ⟨L⟩ := args
    match L, hs with
    | [w0, w1, w2, w3, w4], _ => exact ⟨w0, w1, w2, w3, w4, rfl⟩
  have hw := fun d (hd : d ∈ tables_1) => atoms_spec (ws := Jvm.Cond.code x code maxLocals ret :: tables_1) hat d (List.mem_cons_of_mem _ hd)
  have hfit : Fit s := fun {y c} hc i hi => by
    obtain ⟨ha, rfl⟩ := Array.getElem?_eq_some_iff.mp hc
    have q := List.all_eq_true.mp ((Array.all_eq_true_iff_forall_mem.mp hF) _ (Array.getElem_mem ha)) i (List.mem_range.mpr hi)
    simpa [Array.getElem?_eq_getElem hi] using q
  obtain ⟨i0, ei0⟩ := is_v g3
  obtain rfl : w0 = (.int i0) := Option.some.inj ei0
  obtain ⟨i1, ei1⟩ := is_v g5
  obtain rfl : w1 = (.int i1) := Option.some.inj ei1
  obtain ⟨i2, ei2⟩ := is_v g7
  obtain rfl : w2 = (.int i2) := Option.some.inj ei2
  obtain ⟨i3, ei3⟩ := is_v g9
  obtain rfl : w3 = (.int i3) := Option.some.inj ei3
  obtain ⟨i4, ei4⟩ := is_v g10
  obtain rfl : w4 = (.int i4) := Option.some.inj ei4
  obtain ⟨n, o, h1, h2, h3, _, L, rfl, ⟨rfl, N, -⟩, hq⟩ := rm0 l s _ hw tables_1 i0 i1 i2 i3 i4  s.heap s.heap.size (Nat.le_refl _)  p e ha hc hk s m _ below hf ((Spec.applies_iff_loose hf).mp happ).1 ⟨rfl, State.Warmed39.refl s, rfl⟩ trivial
  refine ⟨n, _, h1, h2, h3, hpost _ _ _ _ _ _ ⟨Cond.after_iff.mpr rfl, Cond.after_iff.mpr (eq_i res_at (Term.int_eval (1)) rfl), trivial⟩ ⟨hq.1, hq.2.1, (hq.2.2.sift fun y hy => Or.inr (N y hy)).mono (by decide) (by decide)⟩⟩
theorem main_1_1 : Claimed_1_1 := comes_1 fun _ _ _ _ _ _ h hF => ⟨h.1, hF⟩
theorem main_1_2 : Claimed_1_2 := comes_1 fun _ _ _ _ _ _ h hF => ⟨h.2.1, hF⟩
end Jvm.Pilot.@@N@@
namespace Jvm.Pilot.@@N@@
open Jvm Jvm.ClassFile Sem Op Lib Jvm.Free Jvm.Stand Jvm.Pilot.@@N@@.Jvm.D
/-! MADE BY PROGRAM (witnessworld.py) out of the Statement's table words and the real class files: 9 classes; the members and pool entries that the words name. The judged class is class 1, her method 1. -/
namespace start1
open Jvm.ClassFile
def u (s : String) : CpInfo := .utf8 (stringToUtf16 s)
/-- a pool by its gaps: so many unusable entries, then the entry; so many at the end -/
def gap : Nat → List CpInfo → List CpInfo
  | 0, r => r
  | n + 1, r => .unusable :: gap n r
def poolList (es : List (Nat × CpInfo)) (last : Nat) : List CpInfo := es.foldr (fun e r => gap e.1 (e.2 :: r)) (gap last [])
def pool (es : List (Nat × CpInfo)) (last : Nat) : Array CpInfo := ⟨poolList es last⟩
def fileOf (pool : Array CpInfo) (this : Nat) (attrs : Array Attribute := #[]) (ms : Array MethodInfo := #[]) (fl : Nat := 33) (sup : Nat := 0) (ifs : Array Nat := #[]) (fds : Array FieldInfo := #[]) : ClassFile where
  minorVersion := 0
  majorVersion := 65
  constantPool := pool
  accessFlags := fl
  thisClass := this
  superClass := sup
  interfaces := ifs
  fields := fds
  methods := ms
  attributes := attrs
def plain (name : String) (sup : Option ClassId) : Class where
  name := name
  kind := .ordinary
  loader := none
  accessFlags := 33
  super := sup
  interfaces := #[]
  cf := none
  fields := #[]
  methods := #[]
  instanceTypes := #[]
  staticTypes := #[]
  resolved := #[]
  callSites := []
  init := .initialized
  statics := none
  mirror := none

def pool0 : Array CpInfo := pool [(5, u "<init>"), (0, u "()V"), (1, .class_ 10), (1, u "java/lang/Object")] 113

def k0c0 : Code := { maxStack := 0, maxLocals := 1, code := object_method_1_code, exceptionTable := #[], attributes := #[] }
def k0m0 : Method := { name := "<init>", desc := "()V", sig := { parameters := [], returnType := none }, accessFlags := 1, code := some k0c0 }
/-- java/lang/Object -/
def k0 : Class := { plain "java/lang/Object" none with
  accessFlags := 33
  interfaces := #[]
  cf := some (fileOf pool0 8 #[] #[{ accessFlags := 1, nameIndex := 5, descriptorIndex := 6, attributes := #[] }] 33 0 #[] #[])
  fields := #[]
  methods := #[k0m0]
  instanceTypes := #[]
  staticTypes := #[]
  resolved := Array.replicate 124 none
  statics := none }

def pool1 : Array CpInfo := pool [(2, .class_ 4), (1, u "java/lang/Object"), (0, u "<init>"), (0, u "()V"), (0, .class_ 8), (0, u "com/example/causyn/causyn/synthesis/Multiset"), (0, .methodref 7 10), (0, .nameAndType 5 11), (0, u "([I)V"), (0, .methodref 7 13), (0, .nameAndType 14 15), (0, u "total"), (0, u "()J"), (0, .class_ 17), (0, u "com/example/causyn/causyn/synthesis/MultisetTotalPinLaw"), (2, u "law"), (0, u "(IIIII)Z")] 5

def k1m0 : Method := { name := "<init>", desc := "()V", sig := { parameters := [], returnType := none }, accessFlags := 1, code := none }
def k1c1 : Code := { maxStack := 4, maxLocals := 10, code := code, exceptionTable := #[], attributes := #[] }
def k1m1 : Method := { name := "law", desc := "(IIIII)Z", sig := { parameters := [.int, .int, .int, .int, .int], returnType := some .boolean }, accessFlags := 9, code := some k1c1 }
/-- com/example/causyn/causyn/synthesis/MultisetTotalPinLaw -/
def k1 : Class := { plain "com/example/causyn/causyn/synthesis/MultisetTotalPinLaw" (some 0) with
  accessFlags := 49
  interfaces := #[]
  cf := some (fileOf pool1 16 #[] #[{ accessFlags := 1, nameIndex := 5, descriptorIndex := 6, attributes := #[] }, { accessFlags := 9, nameIndex := 20, descriptorIndex := 21, attributes := #[] }] 49 2 #[] #[])
  fields := #[]
  methods := #[k1m0, k1m1]
  instanceTypes := #[]
  staticTypes := #[]
  resolved := Array.replicate 27 none
  statics := none }

def pool2 : Array CpInfo := pool [(1, .methodref 2 3), (0, .class_ 4), (0, .nameAndType 5 6), (0, u "java/lang/Object"), (0, u "<init>"), (0, u "()V"), (0, .fieldref 8 9), (0, .class_ 10), (0, .nameAndType 11 12), (0, u "com/example/causyn/causyn/synthesis/Multiset"), (0, u "counts"), (0, u "[I"), (7, u "([I)V"), (46, u "total"), (0, u "()J")] 10

def k2c0 : Code := { maxStack := 2, maxLocals := 2, code := prog_66_method_1_code, exceptionTable := #[], attributes := #[] }
def k2m0 : Method := { name := "<init>", desc := "([I)V", sig := { parameters := [(.array .int)], returnType := none }, accessFlags := 0, code := some k2c0 }
def k2c1 : Code := { maxStack := 4, maxLocals := 7, code := prog_66_method_4_code, exceptionTable := #[], attributes := #[] }
def k2m1 : Method := { name := "total", desc := "()J", sig := { parameters := [], returnType := some .long }, accessFlags := 0, code := some k2c1 }
/-- com/example/causyn/causyn/synthesis/Multiset -/
def k2 : Class := { plain "com/example/causyn/causyn/synthesis/Multiset" (some 0) with
  accessFlags := 48
  interfaces := #[]
  cf := some (fileOf pool2 8 #[] #[{ accessFlags := 0, nameIndex := 5, descriptorIndex := 20, attributes := #[] }, { accessFlags := 0, nameIndex := 67, descriptorIndex := 68, attributes := #[] }] 48 2 #[] #[{ accessFlags := 18, nameIndex := 11, descriptorIndex := 12, attributes := #[] }])
  fields := #[{ name := "counts", type := (.array .int), accessFlags := 18, slot := 0, constantValue := 0 }]
  methods := #[k2m0, k2m1]
  instanceTypes := #[(.array .int)]
  staticTypes := #[]
  resolved := Array.replicate 79 none
  statics := none }

def pool3 : Array CpInfo := pool [(1, u "java/lang/Cloneable"), (0, .class_ 1), (0, u "java/lang/Object"), (0, .class_ 3)] 3

/-- java/lang/Cloneable -/
def k3 : Class := { plain "java/lang/Cloneable" (some 0) with
  accessFlags := 1537
  interfaces := #[]
  cf := some (fileOf pool3 2 #[] #[] 1537 4 #[] #[])
  fields := #[]
  methods := #[]
  instanceTypes := #[]
  staticTypes := #[]
  resolved := Array.replicate 8 none
  statics := none }

def pool4 : Array CpInfo := pool [(1, u "java/io/Serializable"), (0, .class_ 1), (0, u "java/lang/Object"), (0, .class_ 3)] 3

/-- java/io/Serializable -/
def k4 : Class := { plain "java/io/Serializable" (some 0) with
  accessFlags := 1537
  interfaces := #[]
  cf := some (fileOf pool4 2 #[] #[] 1537 4 #[] #[])
  fields := #[]
  methods := #[]
  instanceTypes := #[]
  staticTypes := #[]
  resolved := Array.replicate 8 none
  statics := none }

/-- the primitive byte -/
def k5 : Class := { plain "byte" none with kind := .primitive 'B', accessFlags := 0x411 }
/-- [B -/
def k6 : Class := { plain "[B" (some 0) with kind := .array 5 .byte, interfaces := #[3, 4], accessFlags := 1041 }

/-- the primitive int -/
def k7 : Class := { plain "int" none with kind := .primitive 'I', accessFlags := 0x411 }
/-- [I -/
def k8 : Class := { plain "[I" (some 0) with kind := .array 7 .int, interfaces := #[3, 4], accessFlags := 1041 }

def heap : Heap := #[]
def classes : Array Class := #[k0, k1, k2, k3, k4, k5, k6, k7, k8]
def interned : List (Array UInt16 × Addr) := []
def slotsUsed : Nat := 0
def theMethod : MethodId := ⟨1, 1⟩
def args0 : Array Value := #[.int 3, .int 1, .int 2, .int 3, .int 4]
def aboutOver (below : List Frame) : State where
  vm := { classes := classes, interned := interned.toArray }
  heap := heap
  slotsUsed := slotsUsed
  threads := #[{ frames := .invoking theMethod args0 :: below }]
def below0 : List Frame := [.native { method := ⟨0, 0⟩, args := #[] }]
def about1 : State := aboutOver below0
def p0 : Program := .bare "" "" ""
def e0 : Env := launch0.env 0 0 0
theorem w_frames : about1.frames = Frame.invoking theMethod args0 :: below0 := rfl
set_option maxRecDepth 65536 in
theorem w_args : argsFit about1.vm theMethod args0 = true := by decide +kernel
set_option maxRecDepth 65536 in
theorem w_heap : heapFits about1 = true := by decide +kernel
set_option maxRecDepth 65536 in
theorem w_runnable : about1.curStatus? = some .runnable := by decide +kernel
set_option maxRecDepth 65536 in
theorem w_alone : about1.alone = true := by decide +kernel
set_option maxRecDepth 65536 in
theorem w_named : about1.methodNamed? x = some theMethod := by decide +kernel
set_option maxRecDepth 65536 in
theorem w_hears : about1.hears theMethod below0 = true := by decide +kernel
set_option maxRecDepth 65536 in
theorem w_ripe : about1.ripe theMethod args0 below0 = true := by decide +kernel
theorem w_running : about1.status = .running := rfl
set_option maxRecDepth 65536 in
theorem w_room : about1.hasRoom e0.platform room_1 = true :=
  launch0.hasRoom_least _ room_1 (by decide +kernel) (by decide +kernel) (by decide +kernel) (by decide +kernel) (by decide +kernel) (by decide +kernel)
theorem allAtoms_all (ts : List Jvm.Cond) (a : Array Jvm.Value) (st : Jvm.State) : (allAtoms ts).before a st = ts.all (fun c => c.before a st) := by
  induction ts with
  | nil => rfl
  | cons c t ih =>
    show (Jvm.Cond.and c (allAtoms t)).before a st = _
    rw [Jvm.Cond.before_and, ih, List.all_cons]
def words1 : List Jvm.Cond := Jvm.Cond.code x code maxLocals ret :: tables_1
/-- a 'code' word, met by the world's own term for the bytes: nothing is compared byte by byte -/
theorem code_word {y : MethodName} {bytes : ByteArray} {mx : Nat} {rt : Option FieldType} {a : Array Value} {s : State} {m : MethodId} {meth : Method} {c : Code} (h1 : s.methodNamed? y = some m) (h2 : s.vm.method? m = some meth) (h3 : meth.code = some c) (h4 : c.code = bytes)
    (h5 : (c.maxLocals == mx && c.exceptionTable.isEmpty && decide (c.maxStack ≤ mostOperands) && decide (meth.sig.returnType = rt) && !meth.locks && decide (parseMethodDescriptor y.desc = some meth.sig)) = true) : (Jvm.Cond.code y bytes mx rt).before a s = true := by
  simp only [Bool.and_eq_true, beq_iff_eq, Bool.not_eq_true', decide_eq_true_eq] at h5
  obtain ⟨⟨⟨⟨⟨g1, g2⟩, g3⟩, g4⟩, g5⟩, g6⟩ := h5
  simp [Cond.before, Cond.holds, Cond.value, h1, h2, h3, h4, g1, g2, g3, g4, g5, g6]
def isCode : Jvm.Cond → Bool
  | .code _ _ _ _ => true
  | _ => false
theorem all_split {L : List Jvm.Cond} {P : Jvm.Cond → Bool} (h1 : L.all (fun c => isCode c || P c) = true) (h2 : ∀ c ∈ L.filter isCode, P c = true) : L.all P = true := by
  refine List.all_eq_true.mpr fun c hc => ?_
  have h := List.all_eq_true.mp h1 c hc
  rcases Bool.eq_false_or_eq_true (isCode c) with hi | hi
  · exact h2 c (List.mem_filter.mpr ⟨hc, hi⟩)
  · simpa [hi] using h
set_option maxRecDepth 65536 in
theorem w_c0 : (Jvm.Cond.code x code maxLocals ret).before args0 about1 = true := code_word (m := ⟨1, 1⟩) (meth := k1m1) (c := k1c1) (by decide +kernel) rfl rfl rfl (by decide +kernel)
set_option maxRecDepth 65536 in
theorem w_c1 : (Jvm.Cond.code ({ cls := "com/example/causyn/causyn/synthesis/Multiset", name := "<init>", desc := "([I)V" } : Jvm.MethodName) prog_66_method_1_code (2 : Nat) (Option.none : Option Jvm.ClassFile.FieldType)).before args0 about1 = true := code_word (m := ⟨2, 0⟩) (meth := k2m0) (c := k2c0) (by decide +kernel) rfl rfl rfl (by decide +kernel)
set_option maxRecDepth 65536 in
theorem w_c2 : (Jvm.Cond.code ({ cls := "java/lang/Object", name := "<init>", desc := "()V" } : Jvm.MethodName) object_method_1_code (1 : Nat) (Option.none : Option Jvm.ClassFile.FieldType)).before args0 about1 = true := code_word (m := ⟨0, 0⟩) (meth := k0m0) (c := k0c0) (by decide +kernel) rfl rfl rfl (by decide +kernel)
set_option maxRecDepth 65536 in
theorem w_c3 : (Jvm.Cond.code ({ cls := "com/example/causyn/causyn/synthesis/Multiset", name := "total", desc := "()J" } : Jvm.MethodName) prog_66_method_4_code (7 : Nat) (Option.some Jvm.ClassFile.FieldType.long)).before args0 about1 = true := code_word (m := ⟨2, 1⟩) (meth := k2m1) (c := k2c1) (by decide +kernel) rfl rfl rfl (by decide +kernel)
def codes1 : List Jvm.Cond := [Jvm.Cond.code x code maxLocals ret, Jvm.Cond.code ({ cls := "com/example/causyn/causyn/synthesis/Multiset", name := "<init>", desc := "([I)V" } : Jvm.MethodName) prog_66_method_1_code (2 : Nat) (Option.none : Option Jvm.ClassFile.FieldType), Jvm.Cond.code ({ cls := "java/lang/Object", name := "<init>", desc := "()V" } : Jvm.MethodName) object_method_1_code (1 : Nat) (Option.none : Option Jvm.ClassFile.FieldType), Jvm.Cond.code ({ cls := "com/example/causyn/causyn/synthesis/Multiset", name := "total", desc := "()J" } : Jvm.MethodName) prog_66_method_4_code (7 : Nat) (Option.some Jvm.ClassFile.FieldType.long)]
set_option maxRecDepth 65536 in
theorem codes_eq : words1.filter isCode = codes1 := rfl
theorem w_codes : ∀ c ∈ words1.filter isCode, c.before args0 about1 = true := by
  rw [codes_eq]
  intro c hc
  simp only [codes1, List.mem_cons, List.not_mem_nil, or_false] at hc
  rcases hc with rfl | rfl | rfl | rfl
  · exact w_c0
  · exact w_c1
  · exact w_c2
  · exact w_c3
set_option maxRecDepth 65536 in
theorem w_t1 : words1.all (fun c => isCode c || c.before args0 about1) = true := by decide +kernel
theorem w_tables : (allAtoms (Jvm.Cond.code x code maxLocals ret :: tables_1)).before args0 about1 = true := by
  rw [allAtoms_all]
  show words1.all (fun c => c.before args0 about1) = true
  refine all_split ?_ w_codes
  rw [w_t1]
set_option maxRecDepth 65536 in
theorem w_case : (Jvm.Cond.and given_1 narrow_1).before args0 about1 = true := by decide +kernel
theorem w_applies : (headSpec (Jvm.Cond.code x code maxLocals ret :: tables_1) room_1).applies x e0.platform about1 = true :=
  (Spec.applies_iff w_frames).mpr ⟨w_running, w_runnable, w_alone, w_named, w_hears, w_ripe, w_room, w_tables⟩
theorem atStart : AtStart classFile x code maxLocals ret World_1 tables_1 room_1 Calls_1 rest_1 Pre_1 launch0 p0 e0 about1 theMethod args0 below0 :=
  ⟨lists_1, trivial, launch0.admits_env _ _ _, launch0.least_env, fairChoices_fair.cas, fairChoices_fair.clock, w_frames, w_args, w_heap, w_applies, trivial, trivial, w_case⟩
end start1
theorem witness_1 : WitnessClaimed_1 := ⟨start1.p0, start1.e0, start1.about1, start1.theMethod, start1.args0, start1.below0, start1.atStart⟩
end Jvm.Pilot.@@N@@
